import JvmDerived
import JvmDerived.Pilot.@@N@@Statement
import JvmDerived.Pilot.@@N@@Code
set_option linter.unusedVariables false
set_option linter.unusedSimpArgs false
set_option maxHeartbeats 4000000
namespace Jvm.Pilot.@@N@@
open Jvm Jvm.ClassFile Sem Op Lib Jvm.Free Jvm.Stand Jvm.LawKit Jvm.RoadKit Bundle Jvm.Pilot.@@N@@.Jvm.D
/-! own kit: a walk read backwards: G T g says that from the state T with g on top the body comes to a good end -/
section OwnKit
variable {p : Program} {l : Launch} {e : Env} {R : Room} {s : State} {m : MethodId} {args : Array Value} {below : List Frame} {meth : Method} {c : Code} {T : State} {cells slots : Nat} {Z : State} {a0 : Array Value} {h : Heap} {n0 : Nat} {G : State → JFrame → Prop} {Q : Option Value → Heap → Vm → Prop} {J : Vm → Prop}
def Clo (p : Program) (e : Env) (below : List Frame) (G : State → JFrame → Prop) : Prop := ∀ (T T' : State) (g g' : JFrame), (∀ t, Steps p.tables e below (T'.setTop g') t → Steps p.tables e below (T.setTop g) t) → G T' g' → G T g
theorem Clo.go (hs : Clo p e below G) {T T' : State} {g g' : JFrame} (st : ∀ t, Steps p.tables e below (T'.setTop g') t → Steps p.tables e below (T.setTop g) t) (k : G T' g') : G T g := hs T T' g g' st k
def Sd (p : Program) (l : Launch) (e : Env) (R : Room) (s : State) (m : MethodId) (args : Array Value) (below : List Frame) (meth : Method) (c : Code) (n0 : Nat) (J : Vm → Prop) (T : State) (h : Heap) (cells slots : Nat) : Prop := ∃ (vm₁ : Vm) (locs : List Loc) (k0 : Nat), Stand p l e R (s.setVm vm₁) m args below meth c T locs cells slots ∧ Fr n0 locs ∧ T.heap = h ∧ s.Since vm₁ k0 ∧ k0 ≤ h.size ∧ J vm₁
/-- a word on the tables that a narrow warming keeps -/
def Stb (J : Vm → Prop) : Prop := ∀ (t : State) (vm' : Vm), t.WarmedH vm' → J t.vm → J vm'
theorem wzh {vm₁ : Vm} {k0 : Nat} (hZ : Z.Warmed39 s.vm) (hS : s.Since vm₁ k0) : Z.Warmed39 (s.setVm vm₁).vm := State.Warmed39.trans (t := s) hZ hS.1
theorem wo {vm₁ : Vm} {k0 : Nat} {own : String} (hown : s.vm.findClass own = some m.cls) (hS : s.Since vm₁ k0) : (s.setVm vm₁).vm.findClass own = some m.cls := by rw [show (s.setVm vm₁).vm = vm₁ from rfl, hS.1.alike.findClass]; exact hown
theorem Sd.here (X : Sd p l e R s m args below meth c n0 J T h cells slots) : At T m c below := by obtain ⟨_, _, _, X, _⟩ := X; exact X.here
theorem Sd.more (X : Sd p l e R s m args below meth c n0 J T h cells slots) {k n : Nat} (hk : cells ≤ k) (hn : slots ≤ n) : Sd p l e R s m args below meth c n0 J T h k n := by obtain ⟨v, L, k0, X, N⟩ := X; exact ⟨v, L, k0, X.more hk hn, N⟩
/-- how a body ends -/
def Fnl (p : Program) (l : Launch) (e : Env) (R : Room) (s : State) (m : MethodId) (args : Array Value) (below : List Frame) (meth : Method) (c : Code) (n0 : Nat) (Q : Option Value → Heap → Vm → Prop) (G : State → JFrame → Prop) : Prop :=
  ∀ (J : Vm → Prop), Stb J → ∀ (T : State) (h : Heap) (k n : Nat) (g : JFrame) (v : Option Value), Sd p l e R s m args below meth c n0 J T h k n → k ≤ R.cells → n ≤ R.slots → (meth.sig.returnType = none → v = none) →
    (∀ fs, (∀ (f : JFrame) (acts : List Action), f.method = m → f.locked = none → f.entered = [] → (doReturn e (T.setTop f) acts v).1 = T.setFrames fs) → Steps p.tables e below (T.setTop g) (T.setFrames fs)) → (∀ vm', J vm' → Q v h vm') → G T g
/-- a body's contract -/
def Con (l : Launch) (Z : State) (y : MethodName) (bytes : ByteArray) (maxL : Nat) (ret : Option FieldType) (ws : List Jvm.Cond) (rm : Room) (as' : Array Value) (h : Heap) (n0 : Nat) (J : Vm → Prop) (Q : Option Value → Heap → Vm → Prop) : Prop :=
  MetFree l y (head1 (Jvm.Cond.code y bytes maxL ret :: ws) rm) (fun a U => a = as' ∧ Z.Warmed39 U.vm ∧ U.heap = h ∧ J U.vm) (fun _ _ _ _ _ => True)
    (fun _ U o U' => ∃ v L, o = .returned v ∧ (Q v U'.heap U'.vm ∧ Fr n0 L) ∧ ReturnedEndW U o U' L rm.cells rm.slots)
theorem Con.of {y : MethodName} {bytes : ByteArray} {maxL : Nat} {ret : Option FieldType} {ws : List Jvm.Cond} {rm : Room} {as' : Array Value} (hp : plainFor y = true)
    (body : ∀ (G : State → JFrame → Prop) (p : Program) (e : Env) (s : State) (m : MethodId) (below : List Frame) (meth : Method) (c : Code) (s₁ : State),
      Clo p e below G → p.tables.exec = Jvm.exec → c.code = bytes → c.maxLocals = maxL → s.vm.findClass y.cls = some m.cls → meth.name = y.name → meth.sig.returnType = ret → Z.Warmed39 s.vm →
      Sd p l e rm s m as' below meth c n0 J s₁ h 0 0 → Stand p l e rm s m as' below meth c s₁ [] 0 0 → s.heap = h → J s.vm → Fnl p l e rm s m as' below meth c n0 Q G → G s₁ (entryFrame m as' maxL)) : Con l Z y bytes maxL ret ws rm as' h n0 J Q := by
  refine MetFree.of_bodySF hp hisR ?_
  intro p e s m args below meth c s₁ Bd hml hP hK
  obtain ⟨ha, hZ, hh, hJ0⟩ := hP
  subst ha
  refine body (fun T g => ∃ s₂ o, Steps p.tables e below (T.setTop g) s₂ ∧ s₂.status = .running ∧ Ended s₂ below o ∧ ∃ v L, o = .returned v ∧ (Q v s₂.heap s₂.vm ∧ Fr n0 L) ∧ ReturnedEndW s o s₂ L rm.cells rm.slots) p e s m below meth c s₁ ?_ Bd.exec Bd.bytes hml (findClass_of_methodNamed Bd.named) (name_of_methodNamed Bd.named Bd.method).1 Bd.returns hZ ⟨s.vm, [], 0, Stand.of_body Bd, Fr.nil n0, by rw [← hh, Bd.state]; rfl, (State.WarmedH.refl s).since 0, Nat.zero_le _, hJ0⟩ (Stand.of_body Bd) hh hJ0 ?_
  · intro T T' g g' st ⟨s₂, o, h1, r⟩
    exact ⟨s₂, o, st _ h1, r⟩
  · intro J1 hJs1 T h k n g v ⟨vm₁, locs, k0, X, N, eh, hS, hk0, hJ1⟩ hk hn hv st q
    obtain ⟨fs, hr, hrun, hended, hE⟩ := X.leaveW hS (by rw [eh]; exact hk0) (v := v) hv Bd.notSynchronized
    exact ⟨_, _, st fs hr, hrun, hended, v, locs, rfl, ⟨by show Q v T.heap T.vm; rw [eh]; exact q _ (hJs1 _ _ X.warmed hJ1), N⟩, hE.1, hE.2.1, hE.2.2.1, hE.2.2.2.mono hk hn⟩
theorem rRetI (fin : Fnl p l e R s m args below meth c n0 Q G) (hJs : Stb J) (X : Sd p l e R s m args below meth c n0 J T h cells slots) (hx : p.tables.exec = Jvm.exec) (hk : cells ≤ R.cells) (hn : slots ≤ R.slots) (hret : meth.sig.returnType = some .int) {pc : Nat} {Ls : Array Slot} {z : Int32} {rest : List Value} (hd : decode c.code pc = .ok (.ireturn, 1)) (q : ∀ vm', J vm' → Q (some (.int z)) h vm') : G T (mkF m pc Ls (.int z :: rest)) :=
  fin J hJs T h cells slots _ (some (.int z)) X hk hn (fun h => by rw [hret] at h; cases h) (fun fs hr => by obtain ⟨_, _, _, X, _⟩ := X; exact retOut X hx hret rfl (Or.inl ⟨rfl, Or.inl rfl, _, rfl⟩) hd hr) q
theorem rRetN (fin : Fnl p l e R s m args below meth c n0 Q G) (hJs : Stb J) (X : Sd p l e R s m args below meth c n0 J T h cells slots) (hx : p.tables.exec = Jvm.exec) (hk : cells ≤ R.cells) (hn : slots ≤ R.slots) {t : FieldType} (hret : meth.sig.returnType = some t) (ht : t = .boolean ∨ t = .byte ∨ t = .char ∨ t = .short) {pc : Nat} {Ls : Array Slot} {z z' : Int32} {rest : List Value} (hd : decode c.code pc = .ok (.ireturn, 1)) (hz : nar t z = z') (q : ∀ vm', J vm' → Q (some (.int z')) h vm') : G T (mkF m pc Ls (.int z :: rest)) :=
  fin J hJs T h cells slots _ (some (.int (nar t z))) X hk hn (fun h => by rw [hret] at h; cases h) (fun fs hr => by obtain ⟨_, _, _, X, _⟩ := X; exact retN X hx hret ht hd hr) (hz ▸ q)
theorem rRetL (fin : Fnl p l e R s m args below meth c n0 Q G) (hJs : Stb J) (X : Sd p l e R s m args below meth c n0 J T h cells slots) (hx : p.tables.exec = Jvm.exec) (hk : cells ≤ R.cells) (hn : slots ≤ R.slots) (hret : meth.sig.returnType = some .long) {pc : Nat} {Ls : Array Slot} {z : Int64} {rest : List Value} (hd : decode c.code pc = .ok (.lreturn, 1)) (q : ∀ vm', J vm' → Q (some (.long z)) h vm') : G T (mkF m pc Ls (.long z :: rest)) :=
  fin J hJs T h cells slots _ (some (.long z)) X hk hn (fun h => by rw [hret] at h; cases h) (fun fs hr => by obtain ⟨_, _, _, X, _⟩ := X; exact retOut X hx hret rfl (Or.inr (Or.inl ⟨rfl, rfl, _, rfl⟩)) hd hr) q
theorem rRetA (fin : Fnl p l e R s m args below meth c n0 Q G) (hJs : Stb J) (X : Sd p l e R s m args below meth c n0 J T h cells slots) (hx : p.tables.exec = Jvm.exec) (hk : cells ≤ R.cells) (hn : slots ≤ R.slots) {t : FieldType} (hret : meth.sig.returnType = some t) (ht : t.isReference = true) {pc : Nat} {Ls : Array Slot} {z : Value} (hz : z.isRef = true) (hw : narrow t z = z) {rest : List Value} (hd : decode c.code pc = .ok (.areturn, 1)) (q : ∀ vm', J vm' → Q (some z) h vm') : G T (mkF m pc Ls (z :: rest)) :=
  fin J hJs T h cells slots _ (some z) X hk hn (fun h => by rw [hret] at h; cases h) (fun fs hr => by obtain ⟨_, _, _, X, _⟩ := X; exact retOut X hx hret hw (Or.inr (Or.inr (Or.inr (Or.inr ⟨rfl, ht, hz⟩)))) hd hr) q
theorem rRetD (fin : Fnl p l e R s m args below meth c n0 Q G) (hJs : Stb J) (X : Sd p l e R s m args below meth c n0 J T h cells slots) (hx : p.tables.exec = Jvm.exec) (hk : cells ≤ R.cells) (hn : slots ≤ R.slots) (hret : meth.sig.returnType = some .double) {pc : Nat} {Ls : Array Slot} {z : UInt64} {rest : List Value} (hd : decode c.code pc = .ok (.dreturn, 1)) (q : ∀ vm', J vm' → Q (some (.double z)) h vm') : G T (mkF m pc Ls (.double z :: rest)) :=
  fin J hJs T h cells slots _ (some (.double z)) X hk hn (fun h => by rw [hret] at h; cases h) (fun fs hr => by obtain ⟨_, _, _, X, _⟩ := X; exact retOut X hx hret rfl (Or.inr (Or.inr (Or.inl ⟨rfl, rfl, _, rfl⟩))) hd hr) q
theorem rRetV (fin : Fnl p l e R s m args below meth c n0 Q G) (hJs : Stb J) (X : Sd p l e R s m args below meth c n0 J T h cells slots) (hx : p.tables.exec = Jvm.exec) (hk : cells ≤ R.cells) (hn : slots ≤ R.slots) (hret : meth.sig.returnType = none) {pc : Nat} {Ls : Array Slot} (hd : decode c.code pc = .ok (.return_, 1)) (q : ∀ vm', J vm' → Q none h vm') : G T (mkF m pc Ls []) :=
  fin J hJs T h cells slots _ none X hk hn (fun _ => rfl) (fun fs hr => by obtain ⟨_, _, _, X, _⟩ := X; exact X.returnOut hx hret hd hr) q
theorem rLdcI (hs : Clo p e below G) (X : Sd p l e R s m args below meth c n0 J T h cells slots) (hx : p.tables.exec = Jvm.exec) (hZ : Z.Warmed39 s.vm) {own : String} {index : Nat} {v : Int32} (hown : s.vm.findClass own = some m.cls) (w : (Jvm.Cond.constant own index v).before a0 Z = true) {g : JFrame} (hg : g.method = m) (hd : decode c.code g.pc = .ok (.ldc index, 2)) (k : G T { g with pc := g.pc + 2, stack := .int v :: g.stack }) : G T g := by
  obtain ⟨vm₁, _, _, X, _, _, hS, _⟩ := X
  have hZ := wzh hZ hS
  have hown := wo hown hS
  exact hs.go (X.ldcInt hx hown (mvT hZ w) hg hd) k
theorem rLdcL (hs : Clo p e below G) (X : Sd p l e R s m args below meth c n0 J T h cells slots) (hx : p.tables.exec = Jvm.exec) (hZ : Z.Warmed39 s.vm) {own : String} {index : Nat} {v : Int64} (hown : s.vm.findClass own = some m.cls) (w : (Jvm.Cond.constantLong own index v).before a0 Z = true) {g : JFrame} (hg : g.method = m) (hd : decode c.code g.pc = .ok (.ldc2_w index, 3)) (k : G T { g with pc := g.pc + 3, stack := .long v :: g.stack }) : G T g := by
  obtain ⟨vm₁, _, _, X, _, _, hS, _⟩ := X
  have hZ := wzh hZ hS
  have hown := wo hown hS
  exact hs.go (X.ldc2Long hx hown (mvT hZ w) hg hd) k
theorem rLdcD (hs : Clo p e below G) (X : Sd p l e R s m args below meth c n0 J T h cells slots) (hx : p.tables.exec = Jvm.exec) (hZ : Z.Warmed39 s.vm) {own : String} {index : Nat} {v : UInt64} (hown : s.vm.findClass own = some m.cls) (w : (Jvm.Cond.constantDouble own index v).before a0 Z = true) {g : JFrame} (hg : g.method = m) (hd : decode c.code g.pc = .ok (.ldc2_w index, 3)) (k : G T { g with pc := g.pc + 3, stack := .double v :: g.stack }) : G T g := by
  obtain ⟨vm₁, _, _, X, _, _, hS, _⟩ := X
  have hZ := wzh hZ hS
  have hown := wo hown hS
  exact hs.go (X.ldc2DoubleC hx hown (mvT hZ w) hg hd) k
theorem rIrem (hs : Clo p e below G) (X : Sd p l e R s m args below meth c n0 J T h cells slots) (hx : p.tables.exec = Jvm.exec) {g : JFrame} (hg : g.method = m) {x y : Int32} {rest : List Value} (hd : decode c.code g.pc = .ok (.irem, 1)) (hst : g.stack = .int y :: .int x :: rest) (hy : y ≠ 0) (k : G T { g with pc := g.pc + 1, stack := .int (x % y) :: rest }) : G T g := by
  obtain ⟨_, _, _, X, _⟩ := X
  exact hs.go (fun _ q => iremM X hx hg hd hst hy q) k
theorem rLrem (hs : Clo p e below G) (X : Sd p l e R s m args below meth c n0 J T h cells slots) (hx : p.tables.exec = Jvm.exec) {g : JFrame} (hg : g.method = m) {x y : Int64} {rest : List Value} (hd : decode c.code g.pc = .ok (.lrem, 1)) (hst : g.stack = .long y :: .long x :: rest) (hy : y ≠ 0) (k : G T { g with pc := g.pc + 1, stack := .long (x % y) :: rest }) : G T g :=
  hs.go (fun _ q => XS.lrem X.here hx hg hd hst hy q) (by rw [lrem_mod]; exact k)
/-! arrays -/
theorem rNewP (hs : Clo p e below G) (X : Sd p l e R s m args below meth c n0 J T h cells slots) (hx : p.tables.exec = Jvm.exec) (hZ : Z.Warmed39 s.vm) {aty : ArrayType} (w : (Jvm.Cond.arrayClass (newarray.typeOf aty)).before a0 Z = true) {g : JFrame} (hg : g.method = m) (hd : decode c.code g.pc = .ok (.newarray aty, 2)) {n : Int32} {rest : List Value} (hst : g.stack = .int n :: rest)
    (hn : ¬ n < 0) (cap len : Nat) (hcap : n.toNatClampNeg ≤ cap) (hb : cap * 8 ≤ 536870912) (hc : cells + 1 ≤ R.cells) (hl : slots + cap ≤ R.slots)
    (k : ∀ (T' : State) (h' : Heap) (cA : ClassId) (b : Addr), b = h.size → Sd p l e R s m args below meth c n0 J T' h' (cells + 1) (slots + cap) → Ext h h' → Arv Z h' b cA (newarray.typeOf aty) n (List.replicate len (defaultValue (newarray.typeOf aty))) (defaultValue (newarray.typeOf aty)) → G T' { g with pc := g.pc + 2, stack := .ref b :: rest }) : G T g := by
  obtain ⟨vm₁, L, k0, X, N, eh, hS, hk0, hJ1⟩ := X
  have hZ := wzh hZ hS
  obtain ⟨T', h', cA, X', e', E, A, st⟩ := newP X hx hZ w eh hg hd hst hn hcap hb hc hl
  exact hs.go st (k T' h' cA h.size rfl ⟨vm₁, L, k0, X', N, e', hS, Nat.le_trans hk0 E.1, hJ1⟩ E ((Arv.new A hn).pad (pad_rep [] _ len)))
theorem rStI (hs : Clo p e below G) (X : Sd p l e R s m args below meth c n0 J T h cells slots) (hx : p.tables.exec = Jvm.exec) (hZ : Z.Warmed39 s.vm) {a : Addr} {kc : ClassId} {z : Int32} {vs : List Value} {dv : Value} (V : Arv Z h a kc .int z vs dv) (ga : n0 ≤ a) {j x : Int32} (hj : ¬ j < 0 ∧ j < z) (i : Nat) (hi : j.toNatClampNeg = i) (hl : i < vs.length)
    {g : JFrame} (hg : g.method = m) {rest : List Value} (hst : g.stack = .int x :: .int j :: .ref a :: rest) (hd : decode c.code g.pc = .ok (.iastore, 1))
    (k : ∀ (T' : State) (h' : Heap), Sd p l e R s m args below meth c n0 J T' h' cells slots → Wr h h' a i (.int x) → Arv Z h' a kc .int z (vs.set i (.int x)) dv → G T' { g with pc := g.pc + 1, stack := rest }) : G T g := by
  obtain ⟨vm₁, L, k0, X, N, eh, hS, hk0, hJ1⟩ := X
  have hZ := wzh hZ hS
  obtain ⟨cl, A, q1, S, q3, H, F⟩ := V
  obtain ⟨T', h', X', e', W, st⟩ := stI X hx hZ eh A (j := j) (inb_of S hj) hg hst hd
  exact hs.go st (k T' h' ⟨vm₁, _, k0, X', Fr.snoc X' N ga, e', hS, Nat.le_trans hk0 (Keep.of_wr W).1, hJ1⟩ (hi ▸ W) (Arv.set A q1 S q3 H F rfl W i hi hl))
theorem rStB (hs : Clo p e below G) (X : Sd p l e R s m args below meth c n0 J T h cells slots) (hx : p.tables.exec = Jvm.exec) (hZ : Z.Warmed39 s.vm) {a : Addr} {kc : ClassId} {z : Int32} {vs : List Value} {dv : Value} (V : Arv Z h a kc .byte z vs dv) (ga : n0 ≤ a) {j x x' : Int32} (hj : ¬ j < 0 ∧ j < z) (i : Nat) (hi : j.toNatClampNeg = i) (hl : i < vs.length) (hnx : x.toInt8.toInt32 = x')
    {g : JFrame} (hg : g.method = m) {rest : List Value} (hst : g.stack = .int x :: .int j :: .ref a :: rest) (hd : decode c.code g.pc = .ok (.bastore, 1))
    (k : ∀ (T' : State) (h' : Heap), Sd p l e R s m args below meth c n0 J T' h' cells slots → Wr h h' a i (.int x') → Arv Z h' a kc .byte z (vs.set i (.int x')) dv → G T' { g with pc := g.pc + 1, stack := rest }) : G T g := by
  obtain ⟨vm₁, L, k0, X, N, eh, hS, hk0, hJ1⟩ := X
  have hZ := wzh hZ hS
  obtain ⟨cl, A, q1, S, q3, H, F⟩ := V
  obtain ⟨T', h', X', e', W, st⟩ := stB X hx hZ eh A (j := j) (inb_of S hj) hg hst hd
  subst hnx
  exact hs.go st (k T' h' ⟨vm₁, _, k0, X', Fr.snoc X' N ga, e', hS, Nat.le_trans hk0 (Keep.of_wr W).1, hJ1⟩ (hi ▸ W) (Arv.set A q1 S q3 H F (fits_nar_byte _) W i hi hl))
theorem rStC (hs : Clo p e below G) (X : Sd p l e R s m args below meth c n0 J T h cells slots) (hx : p.tables.exec = Jvm.exec) (hZ : Z.Warmed39 s.vm) {a : Addr} {kc : ClassId} {z : Int32} {vs : List Value} {dv : Value} (V : Arv Z h a kc .char z vs dv) (ga : n0 ≤ a) {j x x' : Int32} (hj : ¬ j < 0 ∧ j < z) (i : Nat) (hi : j.toNatClampNeg = i) (hl : i < vs.length) (hnx : nar .char x = x')
    {g : JFrame} (hg : g.method = m) {rest : List Value} (hst : g.stack = .int x :: .int j :: .ref a :: rest) (hd : decode c.code g.pc = .ok (.castore, 1))
    (k : ∀ (T' : State) (h' : Heap), Sd p l e R s m args below meth c n0 J T' h' cells slots → Wr h h' a i (.int x') → Arv Z h' a kc .char z (vs.set i (.int x')) dv → G T' { g with pc := g.pc + 1, stack := rest }) : G T g := by
  obtain ⟨vm₁, L, k0, X, N, eh, hS, hk0, hJ1⟩ := X
  have hZ := wzh hZ hS
  obtain ⟨cl, A, q1, S, q3, H, F⟩ := V
  obtain ⟨T', h', X', e', W, st⟩ := stC X hx hZ eh A (j := j) (inb_of S hj) hg hst hd
  subst hnx
  exact hs.go st (k T' h' ⟨vm₁, _, k0, X', Fr.snoc X' N ga, e', hS, Nat.le_trans hk0 (Keep.of_wr W).1, hJ1⟩ (hi ▸ W) (Arv.set A q1 S q3 H F (fits_nar_char _) W i hi hl))
theorem rLdI (hs : Clo p e below G) (X : Sd p l e R s m args below meth c n0 J T h cells slots) (hx : p.tables.exec = Jvm.exec) (hZ : Z.Warmed39 s.vm) {a : Addr} {kc : ClassId} {z : Int32} {vs : List Value} {dv : Value} (V : Arv Z h a kc .int z vs dv) {j : Int32} (hj : ¬ j < 0 ∧ j < z) {v : Value} (hv : vs.getD j.toNatClampNeg dv = v)
    {g : JFrame} (hg : g.method = m) {rest : List Value} (hst : g.stack = .int j :: .ref a :: rest) (hd : decode c.code g.pc = .ok (.iaload, 1)) (k : G T { g with pc := g.pc + 1, stack := v :: rest }) : G T g := by
  obtain ⟨vm₁, L, k0, X, N, eh, hS, hk0, hJ1⟩ := X
  have hZ := wzh hZ hS
  obtain ⟨cl, A, q1, S, q3, H, F⟩ := V
  exact hs.go (X.iaload hx (j := j) (v := v) (by rw [eh]; exact A.1) (State.isArrayOf_alike hZ.alike A.2.1) A.2.2 (inb_of S hj) (H.at (inb_of S hj) hv) hg hst hd) k
theorem rLdB (hs : Clo p e below G) (X : Sd p l e R s m args below meth c n0 J T h cells slots) (hx : p.tables.exec = Jvm.exec) (hZ : Z.Warmed39 s.vm) {a : Addr} {kc : ClassId} {z : Int32} {vs : List Value} {dv : Value} (V : Arv Z h a kc .byte z vs dv) {j : Int32} (hj : ¬ j < 0 ∧ j < z) {v : Value} (hv : vs.getD j.toNatClampNeg dv = v)
    {g : JFrame} (hg : g.method = m) {rest : List Value} (hst : g.stack = .int j :: .ref a :: rest) (hd : decode c.code g.pc = .ok (.baload, 1)) (k : G T { g with pc := g.pc + 1, stack := v :: rest }) : G T g := by
  obtain ⟨vm₁, L, k0, X, N, eh, hS, hk0, hJ1⟩ := X
  have hZ := wzh hZ hS
  obtain ⟨cl, A, q1, S, q3, H, F⟩ := V
  exact hs.go (X.baloadBytes hx (j := j) (v := v) (by rw [eh]; exact A.1) (State.isArrayOf_alike hZ.alike A.2.1) A.2.2 (inb_of S hj) (H.at (inb_of S hj) hv) hg hst hd) k
theorem rLdC (hs : Clo p e below G) (X : Sd p l e R s m args below meth c n0 J T h cells slots) (hx : p.tables.exec = Jvm.exec) (hZ : Z.Warmed39 s.vm) {a : Addr} {kc : ClassId} {z : Int32} {vs : List Value} {dv : Value} (V : Arv Z h a kc .char z vs dv) {j : Int32} (hj : ¬ j < 0 ∧ j < z) {v : Value} (hv : vs.getD j.toNatClampNeg dv = v)
    {g : JFrame} (hg : g.method = m) {rest : List Value} (hst : g.stack = .int j :: .ref a :: rest) (hd : decode c.code g.pc = .ok (.caload, 1)) (k : G T { g with pc := g.pc + 1, stack := v :: rest }) : G T g := by
  obtain ⟨vm₁, L, k0, X, N, eh, hS, hk0, hJ1⟩ := X
  have hZ := wzh hZ hS
  obtain ⟨cl, A, q1, S, q3, H, F⟩ := V
  exact hs.go (X.caload hx (j := j) (v := v) (by rw [eh]; exact A.1) (State.isArrayOf_alike hZ.alike A.2.1) A.2.2 (inb_of S hj) (H.at (inb_of S hj) hv) hg hst hd) k
theorem rLdR (hs : Clo p e below G) (X : Sd p l e R s m args below meth c n0 J T h cells slots) (hx : p.tables.exec = Jvm.exec) (hZ : Z.Warmed39 s.vm) {a : Addr} {kc : ClassId} {ty : FieldType} {z : Int32} {vs : List Value} {dv : Value} (V : Arv Z h a kc ty z vs dv) (hty : ty.isReference = true) {j : Int32} (hj : ¬ j < 0 ∧ j < z) {v : Value} (hv : vs.getD j.toNatClampNeg dv = v)
    {g : JFrame} (hg : g.method = m) {rest : List Value} (hst : g.stack = .int j :: .ref a :: rest) (hd : decode c.code g.pc = .ok (.aaload, 1)) (k : G T { g with pc := g.pc + 1, stack := v :: rest }) : G T g := by
  obtain ⟨vm₁, L, k0, X, N, eh, hS, hk0, hJ1⟩ := X
  have hZ := wzh hZ hS
  obtain ⟨cl, A, q1, S, q3, H, F⟩ := V
  exact hs.go (X.aaload hx (j := j) (v := v) (by rw [eh]; exact A.1) (State.isArrayOf_alike hZ.alike A.2.1) hty A.2.2 (inb_of S hj) (H.at (inb_of S hj) hv) hg hst hd) k
theorem rLen (hs : Clo p e below G) (X : Sd p l e R s m args below meth c n0 J T h cells slots) (hx : p.tables.exec = Jvm.exec) (hZ : Z.Warmed39 s.vm) {a : Addr} {kc : ClassId} {ty : FieldType} {z : Int32} {vs : List Value} {dv : Value} (V : Arv Z h a kc ty z vs dv)
    {g : JFrame} (hg : g.method = m) {rest : List Value} (hst : g.stack = .ref a :: rest) (hd : decode c.code g.pc = .ok (.arraylength, 1)) (k : G T { g with pc := g.pc + 1, stack := .int z :: rest }) : G T g := by
  obtain ⟨vm₁, L, k0, X, N, eh, hS, hk0, hJ1⟩ := X
  have hZ := wzh hZ hS
  obtain ⟨cl, A, q1, S, q3, H, F⟩ := V
  exact hs.go (X.arraylength hx (by rw [eh]; exact A.1) (State.isArrayOf_alike hZ.alike A.2.1) hg hst hd) (by rw [len_of S q3]; exact k)
theorem rNewR (hs : Clo p e below G) (X : Sd p l e R s m args below meth c n0 J T h cells slots) (hx : p.tables.exec = Jvm.exec) (hZ : Z.Warmed39 s.vm) {own C : String} {index : Nat} (hown : s.vm.findClass own = some m.cls) (w1 : (Jvm.Cond.classLink own index C).before a0 Z = true) (w2 : (Jvm.Cond.arrayOver (.object C)).before a0 Z = true) {g : JFrame} (hg : g.method = m) (hd : decode c.code g.pc = .ok (.anewarray index, 3)) {n : Int32} {rest : List Value} (hst : g.stack = .int n :: rest)
    (hn : ¬ n < 0) (cap len : Nat) (hcap : n.toNatClampNeg ≤ cap) (hb : cap * 8 ≤ 536870912) (hc : cells + 1 ≤ R.cells) (hl : slots + cap ≤ R.slots)
    (k : ∀ (T' : State) (h' : Heap) (cA : ClassId) (b : Addr), b = h.size → Sd p l e R s m args below meth c n0 J T' h' (cells + 1) (slots + cap) → Ext h h' → Arv Z h' b cA (.object C) n (List.replicate len .null) .null → Ovr Z cA C → G T' { g with pc := g.pc + 3, stack := .ref b :: rest }) : G T g := by
  obtain ⟨vm₁, L, k0, X, N, eh, hS, hk0, hJ1⟩ := X
  have hZ := wzh hZ hS
  have hown := wo hown hS
  obtain ⟨T', h', cA, X', e', E, A, O, st⟩ := newR X hx hZ hown w1 w2 eh hg hd hst hn hcap hb hc hl
  exact hs.go st (k T' h' cA h.size rfl ⟨vm₁, L, k0, X', N, e', hS, Nat.le_trans hk0 E.1, hJ1⟩ E ((Arv.new A hn).pad (pad_rep [] _ len)) O)
theorem rStR (hs : Clo p e below G) (X : Sd p l e R s m args below meth c n0 J T h cells slots) (hx : p.tables.exec = Jvm.exec) (hZ : Z.Warmed39 s.vm) {a : Addr} {kc : ClassId} {C : String} {z : Int32} {vs : List Value} {dv : Value} (V : Arv Z h a kc (.object C) z vs dv) (O : Ovr Z kc C) (ga : n0 ≤ a) {j : Int32} {y : Addr} (I : Ins Z h y C true) (hj : ¬ j < 0 ∧ j < z) (i : Nat) (hi : j.toNatClampNeg = i) (hl : i < vs.length)
    {g : JFrame} (hg : g.method = m) {rest : List Value} (hst : g.stack = .ref y :: .int j :: .ref a :: rest) (hd : decode c.code g.pc = .ok (.aastore, 1))
    (k : ∀ (T' : State) (h' : Heap), Sd p l e R s m args below meth c n0 J T' h' cells slots → Wr h h' a i (.ref y) → Arv Z h' a kc (.object C) z (vs.set i (.ref y)) dv → G T' { g with pc := g.pc + 1, stack := rest }) : G T g := by
  obtain ⟨vm₁, L, k0, X, N, eh, hS, hk0, hJ1⟩ := X
  have hZ := wzh hZ hS
  obtain ⟨cl, A, q1, S, q3, H, F⟩ := V
  obtain ⟨T', h', X', e', W, st⟩ := stR X hx hZ eh A (j := j) (v := .ref y) (inb_of S hj) rfl (Sto.ofV A q1 O I) hg hst hd
  exact hs.go st (k T' h' ⟨vm₁, _, k0, X', Fr.snoc X' N ga, e', hS, Nat.le_trans hk0 (Keep.of_wr W).1, hJ1⟩ (hi ▸ W) (Arv.set A q1 S q3 H F rfl W i hi hl))
/-! objects -/
theorem rNewO (hs : Clo p e below G) (X : Sd p l e R s m args below meth c n0 J T h cells slots) (hx : p.tables.exec = Jvm.exec) (hZ : Z.Warmed39 s.vm) {own C : String} {index n : Nat} (hown : s.vm.findClass own = some m.cls) (w : (Jvm.Cond.classLink own index C).before a0 Z = true) (wi : (Jvm.Cond.instantiable C n).before a0 Z = true) (wz : (Jvm.Cond.initialized C).before a0 Z = true)
    {g : JFrame} (hg : g.method = m) (hd : decode c.code g.pc = .ok (.new index, 3)) (hc : cells + 1 ≤ R.cells) (hl : slots + n ≤ R.slots)
    (k : ∀ (T' : State) (h' : Heap) (b : Addr), b = h.size → Sd p l e R s m args below meth c n0 J T' h' (cells + 1) (slots + n) → Ext h h' → Exa Z h' b C → (∀ {O nm d : String} {ty : FieldType}, Laid Z a0 C O nm d → parseFieldDescriptor d = some ty → Fld Z h' b O nm d (defaultValue ty)) → G T' { g with pc := g.pc + 3, stack := .ref b :: g.stack }) : G T g := by
  obtain ⟨vm₁, L, k0, X, N, eh, hS, hk0, hJ1⟩ := X
  have hZ := wzh hZ hS
  have hown := wo hown hS
  obtain ⟨T', h', X', e', E, A, D, -, st⟩ := newO X hx hZ hown w wi wz eh hg hd hc hl
  exact hs.go st (k T' h' h.size rfl ⟨vm₁, L, k0, X', N, e', hS, Nat.le_trans hk0 E.1, hJ1⟩ E A D)
theorem rInitO (hs : Clo p e below G) (X : Sd p l e R s m args below meth c n0 J T h cells slots) (hx : p.tables.exec = Jvm.exec) (hZ : Z.Warmed39 s.vm) {own : String} {idx : Nat} (hown : s.vm.findClass own = some m.cls) (w1 : (Jvm.Cond.methodLink own idx Lib.objectInit).before a0 Z = true) (w2 : (Jvm.Cond.instanceMethod Lib.objectInit).before a0 Z = true)
    (w3 : (Jvm.Cond.code Lib.objectInit ⟨#[0xb1]⟩ 1 none).before a0 Z = true) {g : JFrame} (hg : g.method = m) (hsize : g.locals.size = c.maxLocals) {a : Addr} {rest : List Value} (hst : g.stack = .ref a :: rest) (hd : decode c.code g.pc = .ok (.invokespecial idx, 3))
    (hf : 1 ≤ R.frames) {W : Nat} (hW : 2 * g.monitorRoom + (rest.map fun v => v.category).sum ≤ W) (hl : W + 12 ≤ R.locals)
    (k : ∀ T' : State, Sd p l e R s m args below meth c n0 J T' h cells slots → G T' { g with pc := g.pc + 3, stack := rest }) : G T g := by
  obtain ⟨vm₁, L, k0, X, N, eh, hS, hk0, hJ1⟩ := X
  have hZ := wzh hZ hS
  have hown := wo hown hS
  obtain ⟨T', X', e', st⟩ := initO X hx hZ hown w1 w2 w3 eh hg hsize hst hd hf hW hl
  exact hs.go st (k T' ⟨vm₁, L, k0, X', N, e', hS, hk0, hJ1⟩)
theorem rGetF (hs : Clo p e below G) (X : Sd p l e R s m args below meth c n0 J T h cells slots) (hx : p.tables.exec = Jvm.exec) (hZ : Z.Warmed39 s.vm) {own R0 O n d host : String} {index : Nat} (hown : s.vm.findClass own = some m.cls) (w : (Jvm.Cond.fieldLink own index R0 n d).before a0 Z = true ∨ (Jvm.Cond.fieldLinkNest own index R0 n d host).before a0 Z = true) (via : Via Z R0 O n d)
    {a : Addr} {v : Value} (F : Fld Z h a O n d v) {g : JFrame} (hg : g.method = m) {rest : List Value} (hst : g.stack = .ref a :: rest) (hd : decode c.code g.pc = .ok (.getfield index, 3))
    (k : ∀ T' : State, Sd p l e R s m args below meth c n0 J T' h cells slots → G T' { g with pc := g.pc + 3, stack := v :: rest }) : G T g := by
  obtain ⟨vm₁, L, k0, X, N, eh, hS, hk0, hJ1⟩ := X
  have hZ := wzh hZ hS
  have hown := wo hown hS
  obtain ⟨T', X', e', st⟩ := getF X hx hZ hown w via eh F hg hst hd
  exact hs.go st (k T' ⟨vm₁, L, k0, X', N, e', hS, hk0, hJ1⟩)
theorem rGetS (hs : Clo p e below G) (X : Sd p l e R s m args below meth c n0 J T h cells slots) (hx : p.tables.exec = Jvm.exec) (hZ : Z.Warmed39 s.vm) {own R0 O n d host : String} {index : Nat} (hown : s.vm.findClass own = some m.cls) (w : (Jvm.Cond.fieldLink own index R0 n d).before a0 Z = true ∨ (Jvm.Cond.fieldLinkNest own index R0 n d host).before a0 Z = true) (via : Via Z R0 O n d)
    {v : Value} (F : Sta Z h O n d v) {g : JFrame} (hg : g.method = m) (hd : decode c.code g.pc = .ok (.getstatic index, 3))
    (k : ∀ T' : State, Sd p l e R s m args below meth c n0 J T' h cells slots → G T' { g with pc := g.pc + 3, stack := v :: g.stack }) : G T g := by
  obtain ⟨vm₁, L, k0, X, N, eh, hS, hk0, hJ1⟩ := X
  have hZ := wzh hZ hS
  have hown := wo hown hS
  obtain ⟨T', X', e', st⟩ := getS2 X hx hZ hown w via eh F hg hd
  exact hs.go st (k T' ⟨vm₁, L, k0, X', N, e', hS, hk0, hJ1⟩)
theorem rPutF (hs : Clo p e below G) (X : Sd p l e R s m args below meth c n0 J T h cells slots) (hx : p.tables.exec = Jvm.exec) (hZ : Z.Warmed39 s.vm) {own R0 O n d host C : String} {index kk : Nat} (ty : FieldType) (hown : s.vm.findClass own = some m.cls) (w : (Jvm.Cond.fieldLink own index R0 n d).before a0 Z = true ∨ (Jvm.Cond.fieldLinkNest own index R0 n d host).before a0 Z = true) (via : Via Z R0 O n d)
    {a : Addr} {v old : Value} (F : Fld Z h a O n d old) (E : Exa Z h a C) (ga : n0 ≤ a) (L : (Jvm.Cond.lays C O n d).before a0 Z = true ∨ ((Jvm.Cond.laysFinal C O n d).before a0 Z = true ∧ own = O ∧ meth.name = "<init>")) (wi : (Jvm.Cond.instantiable C kk).before a0 Z = true)
    (hty : parseFieldDescriptor d = some ty) (hn : narrow ty v = v) (hf : fits ty v = true) {g : JFrame} (hg : g.method = m) {rest : List Value} (hst : g.stack = v :: .ref a :: rest) (hd : decode c.code g.pc = .ok (.putfield index, 3))
    (k : ∀ (T' : State) (h' : Heap), Sd p l e R s m args below meth c n0 J T' h' cells slots → Wr h h' a (Jvm.RoadKit.slotOf Z O n d) v → Fld Z h' a O n d v → G T' { g with pc := g.pc + 3, stack := rest }) : G T g := by
  obtain ⟨vm₁, L0, k0, X, N, eh, hS, hk0, hJ1⟩ := X
  have hZ := wzh hZ hS
  have hown := wo hown hS
  obtain ⟨T', h', X', e', W, st⟩ := putF X hx hZ hown w via eh F E L wi hty hn hf hg hst hd
  exact hs.go st (k T' h' ⟨vm₁, _, k0, X', Fr.snoc X' N ga, e', hS, Nat.le_trans hk0 (Keep.of_wr W).1, hJ1⟩ W (F.same W))
theorem backOfW {y : MethodName} {bytes : ByteArray} {maxL : Nat} {ret : Option FieldType} {rm : Room} {len W : Nat} {as' : Array Value} (hJs : Stb J) (hM : Con l Z y bytes maxL ret [] rm as' h n0 J Q)
    (hZ : Z.Warmed39 s.vm) (wc : (Jvm.Cond.code y bytes maxL ret).before a0 Z = true) (wi : (Jvm.Cond.initialized y.cls).before a0 Z = true) (hf : rm.frames + 1 ≤ R.frames) (hl : W + (maxL + 11) + rm.locals ≤ R.locals) :
    BackS l R p e below s args y len W (fun A a => a = as' ∧ A.U.heap = h ∧ A.cells + rm.cells ≤ R.cells ∧ A.slots + rm.slots ≤ R.slots ∧ J A.U.vm)
      (fun A _ v B => ∃ L, (Q v B.U.heap B.U.vm ∧ Fr n0 L) ∧ B.locs = A.locs ++ L ∧ B.cells = A.cells + rm.cells ∧ B.slots = A.slots + rm.slots) :=
  BackS.of_freeW (bytes := bytes) (maxL := maxL) (ret := ret) (E := fun _ _ o t L k n => k = rm.cells ∧ n = rm.slots ∧ ∃ v, o = .returned v ∧ (Q v t.heap t.vm ∧ Fr n0 L)) hM hf hl
    (fun m meth c A a Y hp => have hU : Z.Warmed39 A.U.vm := wtrans hZ Y.warmed
      ⟨by show (Jvm.Cond.and _ .tt).before a A.U = true; rw [Cond.before_and, mv hU wc]; rfl, mv hU wc, mv hU wi, hp.2.2.1, hp.2.2.2.1⟩)
    (fun m meth c A a g mk Y hp => ⟨hp.1, wtrans hZ Y.warmed, hp.2.1, hp.2.2.2.2⟩) (fun _ _ _ _ _ _ _ _ _ => trivial)
    (fun _ _ _ _ ⟨v, L, h1, h2, h3⟩ => ⟨L, _, _, h3, rfl, rfl, v, h1, h2⟩)
    (fun m meth c A a g mk v t L k n Y hp _ _ ⟨e1, e2, v', e3, e4⟩ => by cases e3; subst e1 e2; exact ⟨L, e4, rfl, rfl, rfl⟩)
def Jn (Z : State) (Ts : List String) : Vm → Prop := fun vm => IB Z vm Ts
def Jl (Z : State) (own : String) (index : Nat) (a : Addr) : Vm → Prop := fun vm => Lit (Z.setVm vm) own index a
theorem Jn.stb {Ts : List String} : Stb (Jn Z Ts) := fun t vm' hW hI => by
  obtain ⟨more, q, r⟩ := hI
  exact ⟨more, by rw [hW.interned_eq]; exact q, r⟩
theorem Jl.stb {own : String} {index : Nat} {a : Addr} : Stb (Jl Z own index a) := fun t vm' hW hI => by
  have q : Lit t own index a := hI
  exact State.resolvedAt?_warmed39 (s := t) hW.wide q
/-- a String constant again -/
theorem rLdcA (hs : Clo p e below G) {own text : String} {index : Nat} {a : Addr} (X : Sd p l e R s m args below meth c n0 (Jl Z own index a) T h cells slots) (hx : p.tables.exec = Jvm.exec) (hZ : Z.Warmed39 s.vm) (hown : s.vm.findClass own = some m.cls) (w : (Jvm.Cond.stringLink own index text).before a0 Z = true)
    {g : JFrame} (hg : g.method = m) (hd : decode c.code g.pc = .ok (.ldc index, 2)) (k : G T { g with pc := g.pc + 2, stack := .ref a :: g.stack }) : G T g := by
  obtain ⟨vm₁, L, k0, X, N, eh, hS, hk0, hJ1⟩ := X
  exact hs.go (ldcAgain X hx (wzh hZ hS) (wo hown hS) w (a := a) hJ1 hg hd) k
/-- a String constant for the first time, by a frame that has written nothing yet -/
theorem rLdcF (hs : Clo p e below G) {own text : String} {index : Nat} (X : Stand p l e R s m args below meth c T [] cells slots) (eh : T.heap = h) (hx : p.tables.exec = Jvm.exec) (hZ : Z.Warmed39 s.vm) (hown : s.vm.findClass own = some m.cls) (w : (Jvm.Cond.stringLink own index text).before a0 Z = true) (wS : ∀ a ∈ Bundle.stringAtoms, a.before a0 Z = true)
    (O : Ext Z.heap s.heap) {Ts : List String} (I : IB Z s.vm Ts) (hnot : text ∉ Ts) (hh : Jvm.Lit.constHeld Z own index) (hcw : Jvm.Lit.compactW.before a0 Z = true) {vs : List Value} {z : Int32} (ht : (∀ c ∈ text.toList, c.toNat < 256) ∧ text.toList.map (fun c => Value.int (Jvm.Lit.byteI c.toNat.toUInt16)) = vs) (hz : ¬ z < 0) (hl : z.toNatClampNeg = vs.length)
    {g : JFrame} (hg : g.method = m) (hd : decode c.code g.pc = .ok (.ldc index, 2)) (n : Nat) (hn : 4 * text.toList.length ≤ n) (hbig : n ≤ 536870912) (hc : cells + 2 ≤ R.cells) (hl' : slots + (n + 4) ≤ R.slots)
    (k : ∀ (T' : State) (h' : Heap) (a b : Addr) (kb : ClassId), Sd p l e R s m args below meth c n0 (Jl Z own index a) T' h' (cells + 2) (slots + (n + 4)) → Ext h h' → Exa Z h' a "java/lang/String" → Fld Z h' a "java/lang/String" "coder" "B" (.int 0) → Fld Z h' a "java/lang/String" "value" "[B" (.ref b) → Arv Z h' b kb .byte z vs (.int 0) → G T' { g with pc := g.pc + 2, stack := .ref a :: g.stack }) : G T g := by
  obtain ⟨a, T', h', k1, b, kb, X', e', E, hS', hk', -, -, r1, r2, r3, r4, -, -, -, L, st⟩ := ldcSVL (vm0 := s.vm) X hx hZ hown w wS eh ((State.WarmedH.refl s).since 0) (Nat.zero_le _) (Fr.nil _) O.2 I hnot hh hcw ht hz hl hg hd hn hbig hc hl'
  exact hs.go st (k T' h' a b kb ⟨T'.vm, [], k1, X', Fr.nil _, e', hS', hk', L⟩ E r1 r2 r3 r4)
/-- Object.<init>, the places written in sight -/
theorem rInitR (hs : Clo p e below G) {locs : List Loc} (X : Stand p l e R s m args below meth c T locs cells slots) (eh : T.heap = h) (hx : p.tables.exec = Jvm.exec) (hZ : Z.Warmed39 s.vm) {own : String} {idx : Nat} (hown : s.vm.findClass own = some m.cls) (w1 : (Jvm.Cond.methodLink own idx Lib.objectInit).before a0 Z = true) (w2 : (Jvm.Cond.instanceMethod Lib.objectInit).before a0 Z = true)
    (w3 : (Jvm.Cond.code Lib.objectInit ⟨#[0xb1]⟩ 1 none).before a0 Z = true) {g : JFrame} (hg : g.method = m) (hsize : g.locals.size = c.maxLocals) {a : Addr} {rest : List Value} (hst : g.stack = .ref a :: rest) (hd : decode c.code g.pc = .ok (.invokespecial idx, 3))
    (hf : 1 ≤ R.frames) {W : Nat} (hW : 2 * g.monitorRoom + (rest.map fun v => v.category).sum ≤ W) (hl : W + 12 ≤ R.locals)
    (k : ∀ T' : State, Stand p l e R s m args below meth c T' locs cells slots → T'.heap = h → G T' { g with pc := g.pc + 3, stack := rest }) : G T g := by
  obtain ⟨T', X', e', st⟩ := initO X hx hZ hown w1 w2 w3 eh hg hsize hst hd hf hW hl
  exact hs.go st (k T' X' e')
/-! calls -/
theorem rCallS (hs : Clo p e below G) (X : Sd p l e R s m args below meth c n0 J T h cells slots) (hx : p.tables.exec = Jvm.exec) (hZ : Z.Warmed39 s.vm) {own : String} {index : Nat} {y : MethodName} {bytes : ByteArray} {maxL : Nat} {ret : Option FieldType} {rm : Room} {as' : List Value} {Q' : Option Value → Heap → Vm → Prop}
    (hJs : Stb J) (hM : Con l Z y bytes maxL ret [] rm as'.toArray h n0 J Q') (hown : s.vm.findClass own = some m.cls) (w1 : (Jvm.Cond.methodLink own index y).before a0 Z = true) (w2 : (Jvm.Cond.static y).before a0 Z = true) (w3 : (Jvm.Cond.initialized y.cls).before a0 Z = true) (w4 : (Jvm.Cond.code y bytes maxL ret).before a0 Z = true)
    (hy : y.cls ≠ "java/lang/invoke/MethodHandle" ∧ y.cls ≠ "java/lang/invoke/VarHandle") {g : JFrame} (hg : g.method = m) (hsize : g.locals.size = c.maxLocals) (rest : List Value) (hlen : ∀ sig, parseMethodDescriptor y.desc = some sig → as'.length = sig.parameters.length)
    (hst : g.stack = as'.reverse ++ rest) (W : Nat) (hW : 2 * g.monitorRoom + (rest.map fun v => v.category).sum ≤ W) (hd : decode c.code g.pc = .ok (.invokestatic index, 3))
    (hf : rm.frames + 1 ≤ R.frames) (hl : W + (maxL + 11) + rm.locals ≤ R.locals) (hc : cells + rm.cells ≤ R.cells) (hsl : slots + rm.slots ≤ R.slots)
    (k : ∀ (v : Option Value) (T' : State) (h' : Heap) (vm' : Vm), (∀ J' : Vm → Prop, J' vm' → Sd p l e R s m args below meth c n0 J' T' h' (cells + rm.cells) (slots + rm.slots)) → Q' v h' vm' → G T' { g with pc := g.pc + 3, stack := v.toList ++ rest }) : G T g := by
  obtain ⟨vm₀, L, k0, X, N, eh, hS, hk0, hJ1⟩ := X
  have hZ := wzh hZ hS
  have hown := wo hown hS
  have w4' : (Jvm.Cond.code y bytes maxL ret).before args (s.setVm vm₀) = true := mvT hZ w4
  obtain ⟨mk, hnamed⟩ := Cond.code_named w4'
  obtain ⟨methM, cM, hmethM, -, -, -, -, -, -, hsigM⟩ := Cond.code_spec hnamed w4'
  obtain ⟨v, vm₁, ⟨T', L', k', n'⟩, -, X', hS', hgr, ⟨Lc, ⟨hQ, hN⟩, l', y', z'⟩, st⟩ := X.staticBackS hx (y := y) hown (mvT hZ w1) (mvT hZ w2) (mvT hZ w3) hnamed hmethM hsigM hy (backOfW (W := W) hJs hM hZ w4 w3 hf hl) hg hsize (Steps.refl _) (argsL := as') (rest := rest) hlen hst hW hd (fun _ hw1 => ⟨rfl, eh, hc, hsl, hJs _ _ hw1 hJ1⟩)
  dsimp only [Pt.U, Pt.locs, Pt.cells, Pt.slots] at X' hS' hgr l' y' z' st hQ
  subst l' y' z'
  exact hs.go (fun _ q => st.trans q) (k v T' T'.heap T'.vm (fun _ hJ2 => ⟨T'.vm, _, T'.heap.size, X', Fr.app N hN, rfl, hS.trans hS' (Nat.le_trans hk0 (by rw [← eh]; exact hgr)), Nat.le_refl _, hJ2⟩) hQ)
theorem rCallI (hs : Clo p e below G) (X : Sd p l e R s m args below meth c n0 J T h cells slots) (hx : p.tables.exec = Jvm.exec) (hZ : Z.Warmed39 s.vm) {own : String} {index : Nat} {y : MethodName} {bytes : ByteArray} {maxL : Nat} {rm : Room} {a : Addr} {as' : List Value} {Q' : Option Value → Heap → Vm → Prop}
    (hJs : Stb J) (hM : Con l Z y bytes maxL none [] rm (Value.ref a :: as').toArray h n0 J Q') (hyn : y.name = "<init>") (hown : s.vm.findClass own = some m.cls) (w1 : (Jvm.Cond.methodLink own index y).before a0 Z = true) (w2 : (Jvm.Cond.instanceMethod y).before a0 Z = true) (w3 : (Jvm.Cond.initialized y.cls).before a0 Z = true) (w4 : (Jvm.Cond.code y bytes maxL none).before a0 Z = true)
    (hy : y.cls ≠ "java/lang/invoke/MethodHandle" ∧ y.cls ≠ "java/lang/invoke/VarHandle") {g : JFrame} (hg : g.method = m) (hsize : g.locals.size = c.maxLocals) (rest : List Value) (hlen : ∀ sig, parseMethodDescriptor y.desc = some sig → as'.length = sig.parameters.length)
    (hst : g.stack = as'.reverse ++ .ref a :: rest) (W : Nat) (hW : 2 * g.monitorRoom + (rest.map fun v => v.category).sum ≤ W) (hd : decode c.code g.pc = .ok (.invokespecial index, 3))
    (hf : rm.frames + 1 ≤ R.frames) (hl : W + (maxL + 11) + rm.locals ≤ R.locals) (hc : cells + rm.cells ≤ R.cells) (hsl : slots + rm.slots ≤ R.slots)
    (k : ∀ (v : Option Value) (T' : State) (h' : Heap) (vm' : Vm), (∀ J' : Vm → Prop, J' vm' → Sd p l e R s m args below meth c n0 J' T' h' (cells + rm.cells) (slots + rm.slots)) → Q' v h' vm' → G T' { g with pc := g.pc + 3, stack := v.toList ++ rest }) : G T g := by
  obtain ⟨vm₀, L, k0, X, N, eh, hS, hk0, hJ1⟩ := X
  have hZ := wzh hZ hS
  have hown := wo hown hS
  obtain ⟨v, vm₁, ⟨T', L', k', n'⟩, -, X', hS', hgr, ⟨Lc, ⟨hQ, hN⟩, l', y', z'⟩, st⟩ := X.specialBackS hx (y := y) hyn hown (mvT hZ w1) (mvT hZ w2) (mvT hZ w4) hy (backOfW (W := W) hJs hM hZ w4 w3 hf hl) hg hsize (Steps.refl _) (a := a) (argsL := as') (rest := rest) hlen hst hW hd (fun _ hw1 => ⟨rfl, eh, hc, hsl, hJs _ _ hw1 hJ1⟩)
  dsimp only [Pt.U, Pt.locs, Pt.cells, Pt.slots] at X' hS' hgr l' y' z' st hQ
  subst l' y' z'
  exact hs.go (fun _ q => st.trans q) (k v T' T'.heap T'.vm (fun _ hJ2 => ⟨T'.vm, _, T'.heap.size, X', Fr.app N hN, rfl, hS.trans hS' (Nat.le_trans hk0 (by rw [← eh]; exact hgr)), Nat.le_refl _, hJ2⟩) hQ)
theorem rCallV (hs : Clo p e below G) (X : Sd p l e R s m args below meth c n0 J T h cells slots) (hx : p.tables.exec = Jvm.exec) (hZ : Z.Warmed39 s.vm) {own C : String} {index : Nat} {y : MethodName} {bytes : ByteArray} {maxL : Nat} {ret : Option FieldType} {rm : Room} {a : Addr} {as' : List Value} {Q' : Option Value → Heap → Vm → Prop}
    (hJs : Stb J) (hM : Con l Z y bytes maxL ret [] rm (Value.ref a :: as').toArray h n0 J Q') (E : Exa Z h a C) (hown : s.vm.findClass own = some m.cls) (w1 : (Jvm.Cond.methodLink own index y).before a0 Z = true) (w5 : (Jvm.Cond.declares y).before a0 Z = true) (w6 : (Jvm.Cond.selects C y y).before a0 Z = true) (w2 : (Jvm.Cond.instanceMethod y).before a0 Z = true) (w3 : (Jvm.Cond.initialized y.cls).before a0 Z = true) (w4 : (Jvm.Cond.code y bytes maxL ret).before a0 Z = true)
    (hy : y.cls ≠ "java/lang/invoke/MethodHandle" ∧ y.cls ≠ "java/lang/invoke/VarHandle") {g : JFrame} (hg : g.method = m) (hsize : g.locals.size = c.maxLocals) (rest : List Value) (hlen : ∀ sig, parseMethodDescriptor y.desc = some sig → as'.length = sig.parameters.length)
    (hst : g.stack = as'.reverse ++ .ref a :: rest) (W : Nat) (hW : 2 * g.monitorRoom + (rest.map fun v => v.category).sum ≤ W) (hd : decode c.code g.pc = .ok (.invokevirtual index, 3))
    (hf : rm.frames + 1 ≤ R.frames) (hl : W + (maxL + 11) + rm.locals ≤ R.locals) (hc : cells + rm.cells ≤ R.cells) (hsl : slots + rm.slots ≤ R.slots)
    (k : ∀ (v : Option Value) (T' : State) (h' : Heap) (vm' : Vm), (∀ J' : Vm → Prop, J' vm' → Sd p l e R s m args below meth c n0 J' T' h' (cells + rm.cells) (slots + rm.slots)) → Q' v h' vm' → G T' { g with pc := g.pc + 3, stack := v.toList ++ rest }) : G T g := by
  obtain ⟨vm₀, L, k0, X, N, eh, hS, hk0, hJ1⟩ := X
  have hZ := wzh hZ hS
  have hown := wo hown hS
  obtain ⟨cB, kB, qa, qb, qc⟩ := isOf (T := T) hZ eh E
  obtain ⟨v, vm₁, ⟨T', L', k', n'⟩, -, X', hS', hgr, ⟨Lc, ⟨hQ, hN⟩, l', y', z'⟩, st⟩ := X.virtualBackS hx (y := y) (z := y) hown (mvT hZ w1) (mvT hZ w5) (notFace_of_selects (args := #[]) (mvT hZ w6)) (mvT hZ w6) (mvT hZ w2) hy (backOfW (W := W) hJs hM hZ w4 w3 hf hl) qa qc hg hsize (Steps.refl _) (argsL := as') (rest := rest) hlen hst hW hd (fun _ hw1 => ⟨rfl, eh, hc, hsl, hJs _ _ hw1 hJ1⟩)
  dsimp only [Pt.U, Pt.locs, Pt.cells, Pt.slots] at X' hS' hgr l' y' z' st hQ
  subst l' y' z'
  exact hs.go (fun _ q => st.trans q) (k v T' T'.heap T'.vm (fun _ hJ2 => ⟨T'.vm, _, T'.heap.size, X', Fr.app N hN, rfl, hS.trans hS' (Nat.le_trans hk0 (by rw [← eh]; exact hgr)), Nat.le_refl _, hJ2⟩) hQ)
/-! branches -/
theorem ltL {x y : Int64} (h : x < y) : if_icmp.holds .lt (lcmpW x y) 0 = true ∧ if_icmp.holds .ge (lcmpW x y) 0 = false := have q := tlt ((lw_lt x y).mpr h); ⟨q.1, q.2.1⟩
theorem nltL {x y : Int64} (h : ¬ x < y) : if_icmp.holds .lt (lcmpW x y) 0 = false ∧ if_icmp.holds .ge (lcmpW x y) 0 = true := have q := flt (fun z => h ((lw_lt x y).mp z)); ⟨q.1, q.2.1⟩
theorem gtL {x y : Int64} (h : y < x) : if_icmp.holds .gt (lcmpW x y) 0 = true ∧ if_icmp.holds .le (lcmpW x y) 0 = false := have q := tlt ((lw_gt x y).mpr h); ⟨q.2.2.1, q.2.2.2⟩
theorem ngtL {x y : Int64} (h : ¬ y < x) : if_icmp.holds .gt (lcmpW x y) 0 = false ∧ if_icmp.holds .le (lcmpW x y) 0 = true := have q := flt (fun z => h ((lw_gt x y).mp z)); ⟨q.2.2.1, q.2.2.2⟩
theorem eqL {x y : Int64} (h : x = y) : if_icmp.holds .eq (lcmpW x y) 0 = true ∧ if_icmp.holds .ne (lcmpW x y) 0 = false := teq ((lw_eq x y).mpr h)
theorem neqL {x y : Int64} (h : ¬ x = y) : if_icmp.holds .eq (lcmpW x y) 0 = false ∧ if_icmp.holds .ne (lcmpW x y) 0 = true := feq (fun z => h ((lw_eq x y).mp z))
theorem nameIt {α : Type} {P : α → Prop} (x : α) (k : ∀ z, z = x → P z) : P x := k x rfl
theorem eq64 {x y : Int64} (h : x.toInt = y.toInt) : x = y := Int64.toInt_inj.mp h
theorem eq32 {x y : Int32} (h : x.toInt = y.toInt) : x = y := Int32.toInt_inj.mp h
theorem lt64 {x y : Int64} : x < y ↔ x.toInt < y.toInt := Int64.lt_iff_toInt_lt
theorem lt32 {x y : Int32} : x < y ↔ x.toInt < y.toInt := Int32.lt_iff_toInt_lt
theorem e64 {x y : Int64} : x = y ↔ x.toInt = y.toInt := Int64.toInt_inj.symm
theorem e32 {x y : Int32} : x = y ↔ x.toInt = y.toInt := Int32.toInt_inj.symm
theorem c_lremM (x y : Int64) (d : Int) (hy : y.toInt = d) : (0 ≤ x.toInt → (x % y).toInt = x.toInt % d) ∧ (x.toInt < 0 → (x % y).toInt = -((-x.toInt) % d)) := by rw [Int64.toInt_mod, hy]; exact tr _ _
theorem nar_byte (x : Int32) : x.toInt8.toInt32.toInt8.toInt32 = x.toInt8.toInt32 := by simp
end OwnKit


theorem own_cb {Z : State} {h : Heap} {a : Addr} {k1 k2 : ClassId} {z1 z2 : Int32} {v1 v2 : List Value} {d1 d2 : Value} (A : Arv Z h a k1 .char z1 v1 d1) (B : Arv Z h a k2 .byte z2 v2 d2) : False := by
  obtain ⟨c1, A1, -⟩ := A
  obtain ⟨c2, B1, -⟩ := B
  cases A1.1.symm.trans B1.1
  obtain ⟨-, k3, j1, comp, j2⟩ := A1.2.1
  obtain ⟨-, k4, i1, comp', i2⟩ := B1.2.1
  cases j1.symm.trans i1
  rw [j2] at i2; cases i2
theorem own_cx {x y : Int32} (h : x = ((y &&& (255 : Int32)).toUInt32.toUInt16.toUInt32.toInt32)) : nar .char x = x := by
  rw [i2c_mask] at h
  subst h
  exact i2c_mask y
theorem own_hx {x y : Int32} (h : x = ((y &&& (255 : Int32)).toUInt32.toUInt16.toUInt32.toInt32)) : ¬ ((255 : Int32) < x) := by
  rw [i2c_mask] at h
  subst h
  have a : (y &&& (255 : Int32)).toInt = y.toInt % 256 := c_mask y 255 8 (by decide) (by decide)
  have k : (255 : Int32).toInt = 255 := rfl
  rw [lt32, k]; omega
theorem own_m3 {x p : Int32} (h : x = (p &&& (3 : Int32))) : x = 0 ∨ x = 1 ∨ x = 2 ∨ x = 3 := by
  have a : (p &&& (3 : Int32)).toInt = p.toInt % 4 := c_mask p 3 2 (by decide) (by decide)
  rw [← h] at a
  have k0 : (0 : Int32).toInt = 0 := rfl
  have k1 : (1 : Int32).toInt = 1 := rfl
  have k2 : (2 : Int32).toInt = 2 := rfl
  have k3 : (3 : Int32).toInt = 3 := rfl
  simp only [e32, k0, k1, k2, k3]; omega
def fie (z : Int32) : Int32 := if z = (0 : Int32) then (1 : Int32) else (0 : Int32)
def fws (z1 z2 : Int32) : Int32 := if fie z1 = (0 : Int32) then (1 : Int32) else if fie z2 = (0 : Int32) then (1 : Int32) else (0 : Int32)

theorem own_sa : ∀ d ∈ Bundle.stringAtoms, d ∈ tables_1 := by
  intro d hd
  simp only [Bundle.stringAtoms, List.mem_cons, List.not_mem_nil, or_false] at hd
  rcases hd with rfl | rfl | rfl | rfl | rfl | rfl | rfl
  · first | exact List.mem_of_getElem? (i := 6) rfl | exact List.mem_of_getElem? (i := 5) rfl | exact List.mem_of_getElem? (i := 19) rfl | exact List.mem_of_getElem? (i := 20) rfl | exact List.mem_of_getElem? (i := 21) rfl | exact List.mem_of_getElem? (i := 22) rfl | exact List.mem_of_getElem? (i := 23) rfl
  · first | exact List.mem_of_getElem? (i := 6) rfl | exact List.mem_of_getElem? (i := 5) rfl | exact List.mem_of_getElem? (i := 19) rfl | exact List.mem_of_getElem? (i := 20) rfl | exact List.mem_of_getElem? (i := 21) rfl | exact List.mem_of_getElem? (i := 22) rfl | exact List.mem_of_getElem? (i := 23) rfl
  · first | exact List.mem_of_getElem? (i := 6) rfl | exact List.mem_of_getElem? (i := 5) rfl | exact List.mem_of_getElem? (i := 19) rfl | exact List.mem_of_getElem? (i := 20) rfl | exact List.mem_of_getElem? (i := 21) rfl | exact List.mem_of_getElem? (i := 22) rfl | exact List.mem_of_getElem? (i := 23) rfl
  · first | exact List.mem_of_getElem? (i := 6) rfl | exact List.mem_of_getElem? (i := 5) rfl | exact List.mem_of_getElem? (i := 19) rfl | exact List.mem_of_getElem? (i := 20) rfl | exact List.mem_of_getElem? (i := 21) rfl | exact List.mem_of_getElem? (i := 22) rfl | exact List.mem_of_getElem? (i := 23) rfl
  · first | exact List.mem_of_getElem? (i := 6) rfl | exact List.mem_of_getElem? (i := 5) rfl | exact List.mem_of_getElem? (i := 19) rfl | exact List.mem_of_getElem? (i := 20) rfl | exact List.mem_of_getElem? (i := 21) rfl | exact List.mem_of_getElem? (i := 22) rfl | exact List.mem_of_getElem? (i := 23) rfl
  · first | exact List.mem_of_getElem? (i := 6) rfl | exact List.mem_of_getElem? (i := 5) rfl | exact List.mem_of_getElem? (i := 19) rfl | exact List.mem_of_getElem? (i := 20) rfl | exact List.mem_of_getElem? (i := 21) rfl | exact List.mem_of_getElem? (i := 22) rfl | exact List.mem_of_getElem? (i := 23) rfl
  · first | exact List.mem_of_getElem? (i := 6) rfl | exact List.mem_of_getElem? (i := 5) rfl | exact List.mem_of_getElem? (i := 19) rfl | exact List.mem_of_getElem? (i := 20) rfl | exact List.mem_of_getElem? (i := 21) rfl | exact List.mem_of_getElem? (i := 22) rfl | exact List.mem_of_getElem? (i := 23) rfl
theorem d6_0 : decode jdk_52_method_21_code 0 = .ok (.iconst 0, 1) := by decide +kernel
theorem d6_1 : decode jdk_52_method_21_code 1 = .ok (.istore 5, 2) := by decide +kernel
theorem d6_3 : decode jdk_52_method_21_code 3 = .ok (.iload 5, 2) := by decide +kernel
theorem d6_5 : decode jdk_52_method_21_code 5 = .ok (.iload 4, 2) := by decide +kernel
theorem d6_7 : decode jdk_52_method_21_code 7 = .ok (.if_icmp .ge 37, 3) := by decide +kernel
theorem d6_10 : decode jdk_52_method_21_code 10 = .ok (.aload_n 0, 1) := by decide +kernel
theorem d6_11 : decode jdk_52_method_21_code 11 = .ok (.iload_n 1, 1) := by decide +kernel
theorem d6_12 : decode jdk_52_method_21_code 12 = .ok (.caload, 1) := by decide +kernel
theorem d6_13 : decode jdk_52_method_21_code 13 = .ok (.istore 6, 2) := by decide +kernel
theorem d6_15 : decode jdk_52_method_21_code 15 = .ok (.iload 6, 2) := by decide +kernel
theorem d6_17 : decode jdk_52_method_21_code 17 = .ok (.sipush 255, 3) := by decide +kernel
theorem d6_20 : decode jdk_52_method_21_code 20 = .ok (.if_icmp .le 6, 3) := by decide +kernel
theorem d6_26 : decode jdk_52_method_21_code 26 = .ok (.aload_n 2, 1) := by decide +kernel
theorem d6_27 : decode jdk_52_method_21_code 27 = .ok (.iload_n 3, 1) := by decide +kernel
theorem d6_28 : decode jdk_52_method_21_code 28 = .ok (.iload 6, 2) := by decide +kernel
theorem d6_30 : decode jdk_52_method_21_code 30 = .ok (.i2b, 1) := by decide +kernel
theorem d6_31 : decode jdk_52_method_21_code 31 = .ok (.bastore, 1) := by decide +kernel
theorem d6_32 : decode jdk_52_method_21_code 32 = .ok (.iinc 1 1, 3) := by decide +kernel
theorem d6_35 : decode jdk_52_method_21_code 35 = .ok (.iinc 3 1, 3) := by decide +kernel
theorem d6_38 : decode jdk_52_method_21_code 38 = .ok (.iinc 5 1, 3) := by decide +kernel
theorem d6_41 : decode jdk_52_method_21_code 41 = .ok (.goto (-38), 3) := by decide +kernel
theorem d6_44 : decode jdk_52_method_21_code 44 = .ok (.iload 4, 2) := by decide +kernel
theorem d6_46 : decode jdk_52_method_21_code 46 = .ok (.ireturn, 1) := by decide +kernel
theorem pn_6 : plainFor (⟨"java/lang/StringUTF16", "compress", "([CI[BII)I"⟩ : MethodName) = true := plainFor_of_name (by first | (simp [plainName, overriddenIn]; done) | decide +kernel)
theorem ef_6 (m : MethodId) (x0 : Addr) (x1 : Int32) (x2 : Addr) (x3 : Int32) (x4 : Int32) : entryFrame m #[(.ref x0), (.int x1), (.ref x2), (.int x3), (.int x4)] 7 = mkF m 0 #[.val (.ref x0), .val (.int x1), .val (.ref x2), .val (.int x3), .val (.int x4), .unset, .unset] [] := by first | (simp [entryFrame, mkF, argsToLocals, Value.category]; done) | rfl
theorem hy_6 : ((⟨"java/lang/StringUTF16", "compress", "([CI[BII)I"⟩ : MethodName)).cls ≠ "java/lang/invoke/MethodHandle" ∧ ((⟨"java/lang/StringUTF16", "compress", "([CI[BII)I"⟩ : MethodName)).cls ≠ "java/lang/invoke/VarHandle" := by decide
set_option maxRecDepth 65536 in
set_option maxHeartbeats 40000000 in
theorem c5_1 (l : Launch) (Z : State) (a0 : Array Value) (hw : ∀ d ∈ tables_1, d.before a0 Z = true) (ws : List Jvm.Cond) (J : Vm → Prop) (hJ : Stb J) (cb db : Addr) (x0 : Int32) (kc kd : ClassId) (h0 : Heap) (n0 : Nat) (Z0 : n0 ≤ h0.size) (V_cb : Arv Z h0 cb kc .char (1 : Int32) [(.int x0)] (.int (0 : Int32))) (V_db : Arv Z h0 db kd .byte (1 : Int32) [(.int (0 : Int32))] (.int (0 : Int32))) (g_db : n0 ≤ db) (hx0 : ¬ ((255 : Int32) < x0)) :
    Con l Z (⟨"java/lang/StringUTF16", "compress", "([CI[BII)I"⟩ : MethodName) jdk_52_method_21_code 7 (some .int) ws ({ frames := 0, cells := 0, slots := 0, locals := 0 } : Room) #[(.ref cb), (.int (0 : Int32)), (.ref db), (.int (0 : Int32)), (.int (1 : Int32))] h0 n0 J (fun v h vm => v = some (.int (1 : Int32)) ∧ Keep h0 h [db] ∧ Arv Z h db kd .byte (1 : Int32) [(.int (x0.toInt8.toInt32))] (.int (0 : Int32)) ∧ J vm) := by
  refine Con.of pn_6 ?_
  intro G p e s m below meth c s₁ hs hx hby hml hown hnm hret hZ X0 XR hh0 hJ0 fin
  have hml : c.maxLocals = 7 := hml
  have hown : s.vm.findClass "java/lang/StringUTF16" = some m.cls := hown
  rw [ef_6]
  have K := Keep.refl h0 ([db] : List Addr)
  have Ksz := K.1
  have hne : cb ≠ db := fun q => by subst q; exact own_cb V_cb V_db
  show G s₁ (mkF m 0 #[.val (.ref cb), .val (.int (0 : Int32)), .val (.ref db), .val (.int (0 : Int32)), .val (.int (1 : Int32)), .unset, .unset] [])
  refine hs.go (fun _ kk_ => XS.iconst X0.here hx rfl (hb hby d6_0) kk_) ?_
  show G s₁ (mkF m 1 #[.val (.ref cb), .val (.int (0 : Int32)), .val (.ref db), .val (.int (0 : Int32)), .val (.int (1 : Int32)), .unset, .unset] [(.int (0 : Int32))])
  refine hs.go (fun _ kk_ => XS.istore X0.here hx rfl (hb hby d6_1) rfl (l' := #[.val (.ref cb), .val (.int (0 : Int32)), .val (.ref db), .val (.int (0 : Int32)), .val (.int (1 : Int32)), .val (.int (0 : Int32)), .unset]) rfl kk_) ?_
  show G s₁ (mkF m 3 #[.val (.ref cb), .val (.int (0 : Int32)), .val (.ref db), .val (.int (0 : Int32)), .val (.int (1 : Int32)), .val (.int (0 : Int32)), .unset] [])
  refine hs.go (fun _ kk_ => XS.iload X0.here hx rfl (hb hby d6_3) rfl  kk_) ?_
  show G s₁ (mkF m 5 #[.val (.ref cb), .val (.int (0 : Int32)), .val (.ref db), .val (.int (0 : Int32)), .val (.int (1 : Int32)), .val (.int (0 : Int32)), .unset] [(.int (0 : Int32))])
  refine hs.go (fun _ kk_ => XS.iload X0.here hx rfl (hb hby d6_5) rfl  kk_) ?_
  show G s₁ (mkF m 7 #[.val (.ref cb), .val (.int (0 : Int32)), .val (.ref db), .val (.int (0 : Int32)), .val (.int (1 : Int32)), .val (.int (0 : Int32)), .unset] [(.int (1 : Int32)), (.int (0 : Int32))])
  refine hs.go (fun _ kk_ => XS.icmpNo X0.here hx rfl (hb hby d6_7) rfl (tlt ((by decide) : (0 : Int32) < (1 : Int32))).2.1 kk_) ?_
  show G s₁ (mkF m 10 #[.val (.ref cb), .val (.int (0 : Int32)), .val (.ref db), .val (.int (0 : Int32)), .val (.int (1 : Int32)), .val (.int (0 : Int32)), .unset] [])
  refine hs.go (fun _ kk_ => XS.aloadN X0.here hx rfl (hb hby d6_10) rfl rfl kk_) ?_
  show G s₁ (mkF m 11 #[.val (.ref cb), .val (.int (0 : Int32)), .val (.ref db), .val (.int (0 : Int32)), .val (.int (1 : Int32)), .val (.int (0 : Int32)), .unset] [(.ref cb)])
  refine hs.go (fun _ kk_ => XS.iloadN X0.here hx rfl (hb hby d6_11) rfl  kk_) ?_
  show G s₁ (mkF m 12 #[.val (.ref cb), .val (.int (0 : Int32)), .val (.ref db), .val (.int (0 : Int32)), .val (.int (1 : Int32)), .val (.int (0 : Int32)), .unset] [(.int (0 : Int32)), (.ref cb)])
  refine rLdC hs X0 hx hZ V_cb ⟨by decide, by decide⟩ (v := (.int x0)) rfl rfl rfl (hb hby d6_12) ?_
  show G s₁ (mkF m 13 #[.val (.ref cb), .val (.int (0 : Int32)), .val (.ref db), .val (.int (0 : Int32)), .val (.int (1 : Int32)), .val (.int (0 : Int32)), .unset] [(.int x0)])
  refine hs.go (fun _ kk_ => XS.istore X0.here hx rfl (hb hby d6_13) rfl (l' := #[.val (.ref cb), .val (.int (0 : Int32)), .val (.ref db), .val (.int (0 : Int32)), .val (.int (1 : Int32)), .val (.int (0 : Int32)), .val (.int x0)]) rfl kk_) ?_
  show G s₁ (mkF m 15 #[.val (.ref cb), .val (.int (0 : Int32)), .val (.ref db), .val (.int (0 : Int32)), .val (.int (1 : Int32)), .val (.int (0 : Int32)), .val (.int x0)] [])
  refine hs.go (fun _ kk_ => XS.iload X0.here hx rfl (hb hby d6_15) rfl  kk_) ?_
  show G s₁ (mkF m 17 #[.val (.ref cb), .val (.int (0 : Int32)), .val (.ref db), .val (.int (0 : Int32)), .val (.int (1 : Int32)), .val (.int (0 : Int32)), .val (.int x0)] [(.int x0)])
  refine hs.go (fun _ kk_ => XS.sipush X0.here hx rfl (hb hby d6_17) kk_) ?_
  show G s₁ (mkF m 20 #[.val (.ref cb), .val (.int (0 : Int32)), .val (.ref db), .val (.int (0 : Int32)), .val (.int (1 : Int32)), .val (.int (0 : Int32)), .val (.int x0)] [(.int (255 : Int32)), (.int x0)])
  refine hs.go (fun _ kk_ => XS.icmpYes X0.here hx rfl (pc0 := 20) (pc' := 26) rfl (hb hby d6_20) rfl (flt (hx0 : ¬ ((255 : Int32) < x0))).2.2.2 (by decide) (by decide) kk_) ?_
  show G s₁ (mkF m 26 #[.val (.ref cb), .val (.int (0 : Int32)), .val (.ref db), .val (.int (0 : Int32)), .val (.int (1 : Int32)), .val (.int (0 : Int32)), .val (.int x0)] [])
  refine hs.go (fun _ kk_ => XS.aloadN X0.here hx rfl (hb hby d6_26) rfl rfl kk_) ?_
  show G s₁ (mkF m 27 #[.val (.ref cb), .val (.int (0 : Int32)), .val (.ref db), .val (.int (0 : Int32)), .val (.int (1 : Int32)), .val (.int (0 : Int32)), .val (.int x0)] [(.ref db)])
  refine hs.go (fun _ kk_ => XS.iloadN X0.here hx rfl (hb hby d6_27) rfl  kk_) ?_
  show G s₁ (mkF m 28 #[.val (.ref cb), .val (.int (0 : Int32)), .val (.ref db), .val (.int (0 : Int32)), .val (.int (1 : Int32)), .val (.int (0 : Int32)), .val (.int x0)] [(.int (0 : Int32)), (.ref db)])
  refine hs.go (fun _ kk_ => XS.iload X0.here hx rfl (hb hby d6_28) rfl  kk_) ?_
  show G s₁ (mkF m 30 #[.val (.ref cb), .val (.int (0 : Int32)), .val (.ref db), .val (.int (0 : Int32)), .val (.int (1 : Int32)), .val (.int (0 : Int32)), .val (.int x0)] [(.int x0), (.int (0 : Int32)), (.ref db)])
  refine hs.go (fun _ kk_ => XS.i2b X0.here hx rfl (hb hby d6_30) rfl kk_) ?_
  show G s₁ (mkF m 31 #[.val (.ref cb), .val (.int (0 : Int32)), .val (.ref db), .val (.int (0 : Int32)), .val (.int (1 : Int32)), .val (.int (0 : Int32)), .val (.int x0)] [(.int (x0.toInt8.toInt32)), (.int (0 : Int32)), (.ref db)])
  refine rStB hs X0 hx hZ V_db g_db ⟨by decide, by decide⟩ 0 (by decide) (by simp) (x' := (x0.toInt8.toInt32)) (nar_byte _) rfl rfl (hb hby d6_31) (fun T1 h1 X1 W1 V_db => ?_)
  have V_db : Arv Z h1 db kd .byte (1 : Int32) [(.int (x0.toInt8.toInt32))] (.int (0 : Int32)) := V_db
  have V_cb := V_cb.other W1 hne
  have K := K.wr W1 (Or.inl (by simp))
  have Ksz := K.1
  have Z0 := Nat.le_trans Z0 (Keep.of_wr W1).1
  show G T1 (mkF m 32 #[.val (.ref cb), .val (.int (0 : Int32)), .val (.ref db), .val (.int (0 : Int32)), .val (.int (1 : Int32)), .val (.int (0 : Int32)), .val (.int x0)] [])
  refine hs.go (fun _ kk_ => XS.iinc X1.here hx rfl (hb hby d6_32) rfl (l' := #[.val (.ref cb), .val (.int (1 : Int32)), .val (.ref db), .val (.int (0 : Int32)), .val (.int (1 : Int32)), .val (.int (0 : Int32)), .val (.int x0)]) rfl kk_) ?_
  show G T1 (mkF m 35 #[.val (.ref cb), .val (.int (1 : Int32)), .val (.ref db), .val (.int (0 : Int32)), .val (.int (1 : Int32)), .val (.int (0 : Int32)), .val (.int x0)] [])
  refine hs.go (fun _ kk_ => XS.iinc X1.here hx rfl (hb hby d6_35) rfl (l' := #[.val (.ref cb), .val (.int (1 : Int32)), .val (.ref db), .val (.int (1 : Int32)), .val (.int (1 : Int32)), .val (.int (0 : Int32)), .val (.int x0)]) rfl kk_) ?_
  show G T1 (mkF m 38 #[.val (.ref cb), .val (.int (1 : Int32)), .val (.ref db), .val (.int (1 : Int32)), .val (.int (1 : Int32)), .val (.int (0 : Int32)), .val (.int x0)] [])
  refine hs.go (fun _ kk_ => XS.iinc X1.here hx rfl (hb hby d6_38) rfl (l' := #[.val (.ref cb), .val (.int (1 : Int32)), .val (.ref db), .val (.int (1 : Int32)), .val (.int (1 : Int32)), .val (.int (1 : Int32)), .val (.int x0)]) rfl kk_) ?_
  show G T1 (mkF m 41 #[.val (.ref cb), .val (.int (1 : Int32)), .val (.ref db), .val (.int (1 : Int32)), .val (.int (1 : Int32)), .val (.int (1 : Int32)), .val (.int x0)] [])
  refine hs.go (fun _ kk_ => XS.goto X1.here hx rfl (pc0 := 41) (pc' := 3) rfl (hb hby d6_41) (by decide) (by decide) kk_) ?_
  show G T1 (mkF m 3 #[.val (.ref cb), .val (.int (1 : Int32)), .val (.ref db), .val (.int (1 : Int32)), .val (.int (1 : Int32)), .val (.int (1 : Int32)), .val (.int x0)] [])
  refine hs.go (fun _ kk_ => XS.iload X1.here hx rfl (hb hby d6_3) rfl  kk_) ?_
  show G T1 (mkF m 5 #[.val (.ref cb), .val (.int (1 : Int32)), .val (.ref db), .val (.int (1 : Int32)), .val (.int (1 : Int32)), .val (.int (1 : Int32)), .val (.int x0)] [(.int (1 : Int32))])
  refine hs.go (fun _ kk_ => XS.iload X1.here hx rfl (hb hby d6_5) rfl  kk_) ?_
  show G T1 (mkF m 7 #[.val (.ref cb), .val (.int (1 : Int32)), .val (.ref db), .val (.int (1 : Int32)), .val (.int (1 : Int32)), .val (.int (1 : Int32)), .val (.int x0)] [(.int (1 : Int32)), (.int (1 : Int32))])
  refine hs.go (fun _ kk_ => XS.icmpYes X1.here hx rfl (pc0 := 7) (pc' := 44) rfl (hb hby d6_7) rfl (flt ((by decide) : ¬ ((1 : Int32) < (1 : Int32)))).2.1 (by decide) (by decide) kk_) ?_
  show G T1 (mkF m 44 #[.val (.ref cb), .val (.int (1 : Int32)), .val (.ref db), .val (.int (1 : Int32)), .val (.int (1 : Int32)), .val (.int (1 : Int32)), .val (.int x0)] [])
  refine hs.go (fun _ kk_ => XS.iload X1.here hx rfl (hb hby d6_44) rfl  kk_) ?_
  show G T1 (mkF m 46 #[.val (.ref cb), .val (.int (1 : Int32)), .val (.ref db), .val (.int (1 : Int32)), .val (.int (1 : Int32)), .val (.int (1 : Int32)), .val (.int x0)] [(.int (1 : Int32))])
  exact rRetI fin hJ X1 hx (by decide) (by decide) hret (hb hby d6_46) (fun vm' hj => ⟨rfl, K, V_db, hj⟩)
theorem pd_0 : parseMethodDescriptor "([CI[BII)I" = some ⟨[(.array .char), .int, (.array .byte), .int, .int], some .int⟩ := by decide +kernel
theorem d5_0 : decode jdk_52_method_16_code 0 = .ok (.iload_n 2, 1) := by decide +kernel
theorem d5_1 : decode jdk_52_method_16_code 1 = .ok (.newarray .byte, 2) := by decide +kernel
theorem d5_3 : decode jdk_52_method_16_code 3 = .ok (.astore_n 3, 1) := by decide +kernel
theorem d5_4 : decode jdk_52_method_16_code 4 = .ok (.aload_n 0, 1) := by decide +kernel
theorem d5_5 : decode jdk_52_method_16_code 5 = .ok (.iload_n 1, 1) := by decide +kernel
theorem d5_6 : decode jdk_52_method_16_code 6 = .ok (.aload_n 3, 1) := by decide +kernel
theorem d5_7 : decode jdk_52_method_16_code 7 = .ok (.iconst 0, 1) := by decide +kernel
theorem d5_8 : decode jdk_52_method_16_code 8 = .ok (.iload_n 2, 1) := by decide +kernel
theorem d5_9 : decode jdk_52_method_16_code 9 = .ok (.invokestatic 115, 3) := by decide +kernel
theorem d5_12 : decode jdk_52_method_16_code 12 = .ok (.istore 4, 2) := by decide +kernel
theorem d5_14 : decode jdk_52_method_16_code 14 = .ok (.iload 4, 2) := by decide +kernel
theorem d5_16 : decode jdk_52_method_16_code 16 = .ok (.iload_n 2, 1) := by decide +kernel
theorem d5_17 : decode jdk_52_method_16_code 17 = .ok (.if_icmp .eq 40, 3) := by decide +kernel
theorem d5_57 : decode jdk_52_method_16_code 57 = .ok (.aload_n 3, 1) := by decide +kernel
theorem d5_58 : decode jdk_52_method_16_code 58 = .ok (.areturn, 1) := by decide +kernel
theorem pn_5 : plainFor (⟨"java/lang/StringUTF16", "compress", "([CII)[B"⟩ : MethodName) = true := plainFor_of_name (by first | (simp [plainName, overriddenIn]; done) | decide +kernel)
theorem ef_5 (m : MethodId) (x0 : Addr) (x1 : Int32) (x2 : Int32) : entryFrame m #[(.ref x0), (.int x1), (.int x2)] 6 = mkF m 0 #[.val (.ref x0), .val (.int x1), .val (.int x2), .unset, .unset, .unset] [] := by first | (simp [entryFrame, mkF, argsToLocals, Value.category]; done) | rfl
theorem hy_5 : ((⟨"java/lang/StringUTF16", "compress", "([CII)[B"⟩ : MethodName)).cls ≠ "java/lang/invoke/MethodHandle" ∧ ((⟨"java/lang/StringUTF16", "compress", "([CII)[B"⟩ : MethodName)).cls ≠ "java/lang/invoke/VarHandle" := by decide
set_option maxRecDepth 65536 in
set_option maxHeartbeats 40000000 in
theorem c3_1 (l : Launch) (Z : State) (a0 : Array Value) (hw : ∀ d ∈ tables_1, d.before a0 Z = true) (ws : List Jvm.Cond) (J : Vm → Prop) (hJ : Stb J) (cb : Addr) (x0 : Int32) (kc : ClassId) (h0 : Heap) (n0 : Nat) (Z0 : n0 ≤ h0.size) (V_cb : Arv Z h0 cb kc .char (1 : Int32) [(.int x0)] (.int (0 : Int32))) (hx0 : ¬ ((255 : Int32) < x0)) :
    Con l Z (⟨"java/lang/StringUTF16", "compress", "([CII)[B"⟩ : MethodName) jdk_52_method_16_code 6 (some (.array .byte)) ws ({ frames := 1, cells := 1, slots := 1, locals := 18 } : Room) #[(.ref cb), (.int (0 : Int32)), (.int (1 : Int32))] h0 n0 J (fun v h vm => ∃ (db : Addr) (kd : ClassId), v = some (.ref db) ∧ Keep h0 h [] ∧ Arv Z h db kd .byte (1 : Int32) [(.int (x0.toInt8.toInt32))] (.int (0 : Int32)) ∧ h0.size ≤ db ∧ J vm) := by
  refine Con.of pn_5 ?_
  intro G p e s m below meth c s₁ hs hx hby hml hown hnm hret hZ X0 XR hh0 hJ0 fin
  have hml : c.maxLocals = 6 := hml
  have hown : s.vm.findClass "java/lang/StringUTF16" = some m.cls := hown
  rw [ef_5]
  have K := Keep.refl h0 ([] : List Addr)
  have Ksz := K.1
  show G s₁ (mkF m 0 #[.val (.ref cb), .val (.int (0 : Int32)), .val (.int (1 : Int32)), .unset, .unset, .unset] [])
  refine hs.go (fun _ kk_ => XS.iloadN X0.here hx rfl (hb hby d5_0) rfl  kk_) ?_
  show G s₁ (mkF m 1 #[.val (.ref cb), .val (.int (0 : Int32)), .val (.int (1 : Int32)), .unset, .unset, .unset] [(.int (1 : Int32))])
  refine rNewP hs X0 hx hZ (hw _ (List.mem_of_getElem? (i := 19) rfl)) rfl (hb hby d5_1) rfl (by decide) 1 1 (by decide) (by decide) (by decide) (by decide) (fun T1 h1 k1 db g1 X1 E1 V_db => ?_)
  have V_db : Arv Z h1 db k1 .byte (1 : Int32) [(.int (0 : Int32))] (.int (0 : Int32)) := V_db
  have g_db : n0 ≤ db := by rw [g1]; exact Z0
  have Z0 := Nat.le_trans Z0 E1.1
  have ne_cb_db : cb ≠ db := Nat.ne_of_lt (Nat.lt_of_lt_of_le V_cb.lt (Nat.le_of_eq g1.symm))
  have V_cb := V_cb.ext E1
  have K := K.ext E1
  have sz_db : h0.size ≤ db := by rw [g1]; exact Ksz
  have Ksz := K.1
  show G T1 (mkF m 3 #[.val (.ref cb), .val (.int (0 : Int32)), .val (.int (1 : Int32)), .unset, .unset, .unset] [(.ref db)])
  refine hs.go (fun _ kk_ => XS.astoreN X1.here hx rfl (hb hby d5_3) rfl rfl (l' := #[.val (.ref cb), .val (.int (0 : Int32)), .val (.int (1 : Int32)), .val (.ref db), .unset, .unset]) rfl kk_) ?_
  show G T1 (mkF m 4 #[.val (.ref cb), .val (.int (0 : Int32)), .val (.int (1 : Int32)), .val (.ref db), .unset, .unset] [])
  refine hs.go (fun _ kk_ => XS.aloadN X1.here hx rfl (hb hby d5_4) rfl rfl kk_) ?_
  show G T1 (mkF m 5 #[.val (.ref cb), .val (.int (0 : Int32)), .val (.int (1 : Int32)), .val (.ref db), .unset, .unset] [(.ref cb)])
  refine hs.go (fun _ kk_ => XS.iloadN X1.here hx rfl (hb hby d5_5) rfl  kk_) ?_
  show G T1 (mkF m 6 #[.val (.ref cb), .val (.int (0 : Int32)), .val (.int (1 : Int32)), .val (.ref db), .unset, .unset] [(.int (0 : Int32)), (.ref cb)])
  refine hs.go (fun _ kk_ => XS.aloadN X1.here hx rfl (hb hby d5_6) rfl rfl kk_) ?_
  show G T1 (mkF m 7 #[.val (.ref cb), .val (.int (0 : Int32)), .val (.int (1 : Int32)), .val (.ref db), .unset, .unset] [(.ref db), (.int (0 : Int32)), (.ref cb)])
  refine hs.go (fun _ kk_ => XS.iconst X1.here hx rfl (hb hby d5_7) kk_) ?_
  show G T1 (mkF m 8 #[.val (.ref cb), .val (.int (0 : Int32)), .val (.int (1 : Int32)), .val (.ref db), .unset, .unset] [(.int (0 : Int32)), (.ref db), (.int (0 : Int32)), (.ref cb)])
  refine hs.go (fun _ kk_ => XS.iloadN X1.here hx rfl (hb hby d5_8) rfl  kk_) ?_
  show G T1 (mkF m 9 #[.val (.ref cb), .val (.int (0 : Int32)), .val (.int (1 : Int32)), .val (.ref db), .unset, .unset] [(.int (1 : Int32)), (.int (0 : Int32)), (.ref db), (.int (0 : Int32)), (.ref cb)])
  refine rCallS hs X1 hx hZ (as' := [(.ref cb), (.int (0 : Int32)), (.ref db), (.int (0 : Int32)), (.int (1 : Int32))]) hJ (c5_1 l Z a0 hw [] (J) hJ cb db x0 kc k1 h1 n0 Z0 V_cb V_db g_db hx0) hown (hw _ (List.mem_of_getElem? (i := 31) rfl)) (hw _ (List.mem_of_getElem? (i := 32) rfl)) (hw _ (List.mem_of_getElem? (i := 29) rfl)) (hw _ (List.mem_of_getElem? (i := 33) rfl)) hy_6 rfl (by rw [hml]; rfl) [] (lenOf pd_0 rfl) rfl 0 (by show 2 * 0 + _ ≤ _; exact Nat.le_of_eq rfl) (hb hby d5_9) (by decide) (by decide) (by decide) (by decide) (fun r2 T2 h2 vm2 X2 q2 => ?_)
  obtain ⟨rfl, Kc2, V_db, hj2⟩ := q2
  have X2 := X2 _ hj2
  have K := K.trans Kc2 (fun x hx => Or.inr (by cases List.mem_singleton.mp hx; exact sz_db))
  have Ksz := K.1
  have Z0 := Nat.le_trans Z0 Kc2.1
  show G T2 (mkF m 12 #[.val (.ref cb), .val (.int (0 : Int32)), .val (.int (1 : Int32)), .val (.ref db), .unset, .unset] [(.int (1 : Int32))])
  refine hs.go (fun _ kk_ => XS.istore X2.here hx rfl (hb hby d5_12) rfl (l' := #[.val (.ref cb), .val (.int (0 : Int32)), .val (.int (1 : Int32)), .val (.ref db), .val (.int (1 : Int32)), .unset]) rfl kk_) ?_
  show G T2 (mkF m 14 #[.val (.ref cb), .val (.int (0 : Int32)), .val (.int (1 : Int32)), .val (.ref db), .val (.int (1 : Int32)), .unset] [])
  refine hs.go (fun _ kk_ => XS.iload X2.here hx rfl (hb hby d5_14) rfl  kk_) ?_
  show G T2 (mkF m 16 #[.val (.ref cb), .val (.int (0 : Int32)), .val (.int (1 : Int32)), .val (.ref db), .val (.int (1 : Int32)), .unset] [(.int (1 : Int32))])
  refine hs.go (fun _ kk_ => XS.iloadN X2.here hx rfl (hb hby d5_16) rfl  kk_) ?_
  show G T2 (mkF m 17 #[.val (.ref cb), .val (.int (0 : Int32)), .val (.int (1 : Int32)), .val (.ref db), .val (.int (1 : Int32)), .unset] [(.int (1 : Int32)), (.int (1 : Int32))])
  refine hs.go (fun _ kk_ => XS.icmpYes X2.here hx rfl (pc0 := 17) (pc' := 57) rfl (hb hby d5_17) rfl (teq (rfl : (1 : Int32) = (1 : Int32))).1 (by decide) (by decide) kk_) ?_
  show G T2 (mkF m 57 #[.val (.ref cb), .val (.int (0 : Int32)), .val (.int (1 : Int32)), .val (.ref db), .val (.int (1 : Int32)), .unset] [])
  refine hs.go (fun _ kk_ => XS.aloadN X2.here hx rfl (hb hby d5_57) rfl rfl kk_) ?_
  show G T2 (mkF m 58 #[.val (.ref cb), .val (.int (0 : Int32)), .val (.int (1 : Int32)), .val (.ref db), .val (.int (1 : Int32)), .unset] [(.ref db)])
  exact rRetA fin hJ X2 hx (by decide) (by decide) hret rfl rfl rfl (hb hby d5_58) (fun vm' hj => ⟨db, _, rfl, K, V_db, sz_db, hj⟩)
theorem d7_0 : decode jdk_52_method_15_code 0 = .ok (.iload_n 1, 1) := by decide +kernel
theorem d7_1 : decode jdk_52_method_15_code 1 = .ok (.aload_n 0, 1) := by decide +kernel
theorem d7_2 : decode jdk_52_method_15_code 2 = .ok (.arraylength, 1) := by decide +kernel
theorem d7_3 : decode jdk_52_method_15_code 3 = .ok (.isub, 1) := by decide +kernel
theorem d7_4 : decode jdk_52_method_15_code 4 = .ok (.bipush 31, 2) := by decide +kernel
theorem d7_6 : decode jdk_52_method_15_code 6 = .ok (.iushr, 1) := by decide +kernel
theorem d7_7 : decode jdk_52_method_15_code 7 = .ok (.i2b, 1) := by decide +kernel
theorem d7_8 : decode jdk_52_method_15_code 8 = .ok (.ireturn, 1) := by decide +kernel
theorem pn_7 : plainFor (⟨"java/lang/StringUTF16", "coderFromArrayLen", "([BI)B"⟩ : MethodName) = true := plainFor_of_name (by first | (simp [plainName, overriddenIn]; done) | decide +kernel)
theorem ef_7 (m : MethodId) (x0 : Addr) (x1 : Int32) : entryFrame m #[(.ref x0), (.int x1)] 2 = mkF m 0 #[.val (.ref x0), .val (.int x1)] [] := by first | (simp [entryFrame, mkF, argsToLocals, Value.category]; done) | rfl
theorem hy_7 : ((⟨"java/lang/StringUTF16", "coderFromArrayLen", "([BI)B"⟩ : MethodName)).cls ≠ "java/lang/invoke/MethodHandle" ∧ ((⟨"java/lang/StringUTF16", "coderFromArrayLen", "([BI)B"⟩ : MethodName)).cls ≠ "java/lang/invoke/VarHandle" := by decide
set_option maxRecDepth 65536 in
set_option maxHeartbeats 40000000 in
theorem cf_1 (l : Launch) (Z : State) (a0 : Array Value) (hw : ∀ d ∈ tables_1, d.before a0 Z = true) (ws : List Jvm.Cond) (J : Vm → Prop) (hJ : Stb J) (db : Addr) (vs : List Value) (kd : ClassId) (h0 : Heap) (n0 : Nat) (Z0 : n0 ≤ h0.size) (V_db : Arv Z h0 db kd .byte (1 : Int32) vs (.int (0 : Int32))) :
    Con l Z (⟨"java/lang/StringUTF16", "coderFromArrayLen", "([BI)B"⟩ : MethodName) jdk_52_method_15_code 2 (some .byte) ws ({ frames := 0, cells := 0, slots := 0, locals := 0 } : Room) #[(.ref db), (.int (1 : Int32))] h0 n0 J (fun v h vm => v = some (.int (0 : Int32)) ∧ h = h0 ∧ J vm) := by
  refine Con.of pn_7 ?_
  intro G p e s m below meth c s₁ hs hx hby hml hown hnm hret hZ X0 XR hh0 hJ0 fin
  have hml : c.maxLocals = 2 := hml
  have hown : s.vm.findClass "java/lang/StringUTF16" = some m.cls := hown
  rw [ef_7]
  show G s₁ (mkF m 0 #[.val (.ref db), .val (.int (1 : Int32))] [])
  refine hs.go (fun _ kk_ => XS.iloadN X0.here hx rfl (hb hby d7_0) rfl  kk_) ?_
  show G s₁ (mkF m 1 #[.val (.ref db), .val (.int (1 : Int32))] [(.int (1 : Int32))])
  refine hs.go (fun _ kk_ => XS.aloadN X0.here hx rfl (hb hby d7_1) rfl rfl kk_) ?_
  show G s₁ (mkF m 2 #[.val (.ref db), .val (.int (1 : Int32))] [(.ref db), (.int (1 : Int32))])
  refine rLen hs X0 hx hZ V_db rfl rfl (hb hby d7_2) ?_
  show G s₁ (mkF m 3 #[.val (.ref db), .val (.int (1 : Int32))] [(.int (1 : Int32)), (.int (1 : Int32))])
  refine hs.go (fun _ kk_ => XS.isub X0.here hx rfl (hb hby d7_3) rfl kk_) ?_
  show G s₁ (mkF m 4 #[.val (.ref db), .val (.int (1 : Int32))] [(.int ((1 : Int32) - (1 : Int32)))])
  refine hs.go (fun _ kk_ => XS.bipush X0.here hx rfl (hb hby d7_4) kk_) ?_
  show G s₁ (mkF m 6 #[.val (.ref db), .val (.int (1 : Int32))] [(.int (31 : Int32)), (.int ((1 : Int32) - (1 : Int32)))])
  refine hs.go (fun _ kk_ => XS.iushr X0.here hx rfl (hb hby d7_6) rfl kk_) ?_
  show G s₁ (mkF m 7 #[.val (.ref db), .val (.int (1 : Int32))] [(.int ((((1 : Int32) - (1 : Int32)).toUInt32 >>> ((31 : Int32) &&& 31).toUInt32).toInt32))])
  refine hs.go (fun _ kk_ => XS.i2b X0.here hx rfl (hb hby d7_7) rfl kk_) ?_
  show G s₁ (mkF m 8 #[.val (.ref db), .val (.int (1 : Int32))] [(.int (((((1 : Int32) - (1 : Int32)).toUInt32 >>> ((31 : Int32) &&& 31).toUInt32).toInt32).toInt8.toInt32))])
  exact rRetN fin hJ X0 hx (by decide) (by decide) hret (by simp) (hb hby d7_8) (z' := (0 : Int32)) (by decide) (fun vm' hj => ⟨rfl, rfl, hj⟩)
theorem pd_1 : parseMethodDescriptor "([CII)[B" = some ⟨[(.array .char), .int, .int], some (.array .byte)⟩ := by decide +kernel
theorem pd_2 : parseMethodDescriptor "([BI)B" = some ⟨[(.array .byte), .int], some .byte⟩ := by decide +kernel
theorem d3_0 : decode jdk_42_method_149_code 0 = .ok (.aload_n 0, 1) := by decide +kernel
theorem d3_1 : decode jdk_42_method_149_code 1 = .ok (.invokespecial 1, 3) := by decide +kernel
theorem d3_4 : decode jdk_42_method_149_code 4 = .ok (.iload_n 3, 1) := by decide +kernel
theorem d3_5 : decode jdk_42_method_149_code 5 = .ok (.ifCond .ne 22, 3) := by decide +kernel
theorem d3_27 : decode jdk_42_method_149_code 27 = .ok (.getstatic 38, 3) := by decide +kernel
theorem d3_30 : decode jdk_42_method_149_code 30 = .ok (.ifCond .eq 28, 3) := by decide +kernel
theorem d3_33 : decode jdk_42_method_149_code 33 = .ok (.aload_n 1, 1) := by decide +kernel
theorem d3_34 : decode jdk_42_method_149_code 34 = .ok (.iload_n 2, 1) := by decide +kernel
theorem d3_35 : decode jdk_42_method_149_code 35 = .ok (.iload_n 3, 1) := by decide +kernel
theorem d3_36 : decode jdk_42_method_149_code 36 = .ok (.invokestatic 177, 3) := by decide +kernel
theorem d3_39 : decode jdk_42_method_149_code 39 = .ok (.astore 5, 2) := by decide +kernel
theorem d3_41 : decode jdk_42_method_149_code 41 = .ok (.aload_n 0, 1) := by decide +kernel
theorem d3_42 : decode jdk_42_method_149_code 42 = .ok (.aload 5, 2) := by decide +kernel
theorem d3_44 : decode jdk_42_method_149_code 44 = .ok (.iload_n 3, 1) := by decide +kernel
theorem d3_45 : decode jdk_42_method_149_code 45 = .ok (.invokestatic 47, 3) := by decide +kernel
theorem d3_48 : decode jdk_42_method_149_code 48 = .ok (.putfield 15, 3) := by decide +kernel
theorem d3_51 : decode jdk_42_method_149_code 51 = .ok (.aload_n 0, 1) := by decide +kernel
theorem d3_52 : decode jdk_42_method_149_code 52 = .ok (.aload 5, 2) := by decide +kernel
theorem d3_54 : decode jdk_42_method_149_code 54 = .ok (.putfield 9, 3) := by decide +kernel
theorem d3_57 : decode jdk_42_method_149_code 57 = .ok (.return_, 1) := by decide +kernel
theorem pn_3 : plainFor (⟨"java/lang/String", "<init>", "([CIILjava/lang/Void;)V"⟩ : MethodName) = true := plainFor_of_name (by first | (simp [plainName, overriddenIn]; done) | decide +kernel)
theorem ef_3_xxxxn (m : MethodId) (x0 : Addr) (x1 : Addr) (x2 : Int32) (x3 : Int32) : entryFrame m #[(.ref x0), (.ref x1), (.int x2), (.int x3), .null] 6 = mkF m 0 #[.val (.ref x0), .val (.ref x1), .val (.int x2), .val (.int x3), .val .null, .unset] [] := by first | (simp [entryFrame, mkF, argsToLocals, Value.category]; done) | rfl
theorem hy_3 : ((⟨"java/lang/String", "<init>", "([CIILjava/lang/Void;)V"⟩ : MethodName)).cls ≠ "java/lang/invoke/MethodHandle" ∧ ((⟨"java/lang/String", "<init>", "([CIILjava/lang/Void;)V"⟩ : MethodName)).cls ≠ "java/lang/invoke/VarHandle" := by decide
set_option maxRecDepth 65536 in
set_option maxHeartbeats 40000000 in
theorem i4_1 (l : Launch) (Z : State) (a0 : Array Value) (hw : ∀ d ∈ tables_1, d.before a0 Z = true) (ws : List Jvm.Cond) (J : Vm → Prop) (hJ : Stb J) (a cb : Addr) (x0 : Int32) (kc : ClassId) (h0 : Heap) (n0 : Nat) (Z0 : n0 ≤ h0.size) (O : Old Z n0 h0) (cw : Int32) (S0 : Sta Z Z.heap "java/lang/String" "COMPACT_STRINGS" "Z" (.int cw)) (hcw : ¬ (cw = (0 : Int32))) (E_a : Exa Z h0 a "java/lang/String") (g_a : n0 ≤ a) (F_value_a : Fld Z h0 a "java/lang/String" "value" "[B" .null) (F_coder_a : Fld Z h0 a "java/lang/String" "coder" "B" (.int (0 : Int32))) (V_cb : Arv Z h0 cb kc .char (1 : Int32) [(.int x0)] (.int (0 : Int32))) (hx0 : ¬ ((255 : Int32) < x0)) :
    Con l Z (⟨"java/lang/String", "<init>", "([CIILjava/lang/Void;)V"⟩ : MethodName) jdk_42_method_149_code 6 none ws ({ frames := 2, cells := 1, slots := 1, locals := 35 } : Room) #[(.ref a), (.ref cb), (.int (0 : Int32)), (.int (1 : Int32)), .null] h0 n0 J (fun v h vm => v = none ∧ Keep h0 h [a] ∧ Exa Z h a "java/lang/String" ∧ (∃ (b : Addr) (k : ClassId) (vs : List Value), Fld Z h a "java/lang/String" "value" "[B" (.ref b) ∧ Arv Z h b k .byte (1 : Int32) vs (.int (0 : Int32))) ∧ J vm) := by
  refine Con.of pn_3 ?_
  intro G p e s m below meth c s₁ hs hx hby hml hown hnm hret hZ X0 XR hh0 hJ0 fin
  have hml : c.maxLocals = 6 := hml
  have hown : s.vm.findClass "java/lang/String" = some m.cls := hown
  rw [ef_3_xxxxn]
  have K := Keep.refl h0 ([a] : List Addr)
  have Ksz := K.1
  show G s₁ (mkF m 0 #[.val (.ref a), .val (.ref cb), .val (.int (0 : Int32)), .val (.int (1 : Int32)), .val .null, .unset] [])
  refine hs.go (fun _ kk_ => XS.aloadN X0.here hx rfl (hb hby d3_0) rfl rfl kk_) ?_
  show G s₁ (mkF m 1 #[.val (.ref a), .val (.ref cb), .val (.int (0 : Int32)), .val (.int (1 : Int32)), .val .null, .unset] [(.ref a)])
  refine rInitO hs X0 hx hZ hown (hw _ (List.mem_of_getElem? (i := 15) rfl)) (hw _ (List.mem_of_getElem? (i := 16) rfl)) (hw _ (List.mem_of_getElem? (i := 17) rfl)) rfl (by rw [hml]; rfl) rfl (hb hby d3_1) (by decide) (W := 0) (by show 2 * 0 + _ ≤ _; exact Nat.le_of_eq rfl) (by decide) (fun T1 X1 => ?_)
  show G T1 (mkF m 4 #[.val (.ref a), .val (.ref cb), .val (.int (0 : Int32)), .val (.int (1 : Int32)), .val .null, .unset] [])
  refine hs.go (fun _ kk_ => XS.iloadN X1.here hx rfl (hb hby d3_4) rfl  kk_) ?_
  show G T1 (mkF m 5 #[.val (.ref a), .val (.ref cb), .val (.int (0 : Int32)), .val (.int (1 : Int32)), .val .null, .unset] [(.int (1 : Int32))])
  refine hs.go (fun _ kk_ => XS.ifYes X1.here hx rfl (pc0 := 5) (pc' := 27) rfl (hb hby d3_5) rfl ((if0 _ _).trans (feq ((by decide) : ¬ ((1 : Int32) = (0 : Int32)))).2) (by decide) (by decide) kk_) ?_
  show G T1 (mkF m 27 #[.val (.ref a), .val (.ref cb), .val (.int (0 : Int32)), .val (.int (1 : Int32)), .val .null, .unset] [])
  refine rGetS hs X1 hx hZ hown (host := "") (Or.inl (hw _ (List.mem_of_getElem? (i := 26) rfl))) Via.refl (S0.ext O.2) rfl (hb hby d3_27) (fun T2 X2 => ?_)
  show G T2 (mkF m 30 #[.val (.ref a), .val (.ref cb), .val (.int (0 : Int32)), .val (.int (1 : Int32)), .val .null, .unset] [(.int cw)])
  refine hs.go (fun _ kk_ => XS.ifNo X2.here hx rfl (hb hby d3_30) rfl ((if0 _ _).trans (feq (hcw : ¬ (cw = (0 : Int32)))).1) kk_) ?_
  show G T2 (mkF m 33 #[.val (.ref a), .val (.ref cb), .val (.int (0 : Int32)), .val (.int (1 : Int32)), .val .null, .unset] [])
  refine hs.go (fun _ kk_ => XS.aloadN X2.here hx rfl (hb hby d3_33) rfl rfl kk_) ?_
  show G T2 (mkF m 34 #[.val (.ref a), .val (.ref cb), .val (.int (0 : Int32)), .val (.int (1 : Int32)), .val .null, .unset] [(.ref cb)])
  refine hs.go (fun _ kk_ => XS.iloadN X2.here hx rfl (hb hby d3_34) rfl  kk_) ?_
  show G T2 (mkF m 35 #[.val (.ref a), .val (.ref cb), .val (.int (0 : Int32)), .val (.int (1 : Int32)), .val .null, .unset] [(.int (0 : Int32)), (.ref cb)])
  refine hs.go (fun _ kk_ => XS.iloadN X2.here hx rfl (hb hby d3_35) rfl  kk_) ?_
  show G T2 (mkF m 36 #[.val (.ref a), .val (.ref cb), .val (.int (0 : Int32)), .val (.int (1 : Int32)), .val .null, .unset] [(.int (1 : Int32)), (.int (0 : Int32)), (.ref cb)])
  refine rCallS hs X2 hx hZ (as' := [(.ref cb), (.int (0 : Int32)), (.int (1 : Int32))]) hJ (c3_1 l Z a0 hw [] (J) hJ cb x0 kc h0 n0 Z0 V_cb hx0) hown (hw _ (List.mem_of_getElem? (i := 27) rfl)) (hw _ (List.mem_of_getElem? (i := 28) rfl)) (hw _ (List.mem_of_getElem? (i := 29) rfl)) (hw _ (List.mem_of_getElem? (i := 30) rfl)) hy_5 rfl (by rw [hml]; rfl) [] (lenOf pd_1 rfl) rfl 0 (by show 2 * 0 + _ ≤ _; exact Nat.le_of_eq rfl) (hb hby d3_36) (by decide) (by decide) (by decide) (by decide) (fun r3 T3 h3 vm3 X3 q3 => ?_)
  obtain ⟨db, kd, rfl, Kc3, V_db, hge, hj3⟩ := q3
  have X3 := X3 _ hj3
  have ne_a_db : a ≠ db := Nat.ne_of_lt (Nat.lt_of_lt_of_le E_a.lt hge)
  have ne_cb_db : cb ≠ db := Nat.ne_of_lt (Nat.lt_of_lt_of_le V_cb.lt hge)
  have g_db : n0 ≤ db := Nat.le_trans Z0 hge
  have O := O.keep Kc3 all0
  have E_a := E_a.keep Kc3
  have F_value_a := F_value_a.keep Kc3 nin0
  have F_coder_a := F_coder_a.keep Kc3 nin0
  have K := K.trans Kc3 (fun x hx => by simp at hx)
  have Ksz := K.1
  have Z0 := Nat.le_trans Z0 Kc3.1
  show G T3 (mkF m 39 #[.val (.ref a), .val (.ref cb), .val (.int (0 : Int32)), .val (.int (1 : Int32)), .val .null, .unset] [(.ref db)])
  refine hs.go (fun _ kk_ => XS.astore X3.here hx rfl (hb hby d3_39) rfl rfl (l' := #[.val (.ref a), .val (.ref cb), .val (.int (0 : Int32)), .val (.int (1 : Int32)), .val .null, .val (.ref db)]) rfl kk_) ?_
  show G T3 (mkF m 41 #[.val (.ref a), .val (.ref cb), .val (.int (0 : Int32)), .val (.int (1 : Int32)), .val .null, .val (.ref db)] [])
  refine hs.go (fun _ kk_ => XS.aloadN X3.here hx rfl (hb hby d3_41) rfl rfl kk_) ?_
  show G T3 (mkF m 42 #[.val (.ref a), .val (.ref cb), .val (.int (0 : Int32)), .val (.int (1 : Int32)), .val .null, .val (.ref db)] [(.ref a)])
  refine hs.go (fun _ kk_ => XS.aload X3.here hx rfl (hb hby d3_42) rfl rfl kk_) ?_
  show G T3 (mkF m 44 #[.val (.ref a), .val (.ref cb), .val (.int (0 : Int32)), .val (.int (1 : Int32)), .val .null, .val (.ref db)] [(.ref db), (.ref a)])
  refine hs.go (fun _ kk_ => XS.iloadN X3.here hx rfl (hb hby d3_44) rfl  kk_) ?_
  show G T3 (mkF m 45 #[.val (.ref a), .val (.ref cb), .val (.int (0 : Int32)), .val (.int (1 : Int32)), .val .null, .val (.ref db)] [(.int (1 : Int32)), (.ref db), (.ref a)])
  refine rCallS hs X3 hx hZ (as' := [(.ref db), (.int (1 : Int32))]) hJ (cf_1 l Z a0 hw [] (J) hJ db [(.int (x0.toInt8.toInt32))] kd h3 n0 Z0 V_db) hown (hw _ (List.mem_of_getElem? (i := 34) rfl)) (hw _ (List.mem_of_getElem? (i := 35) rfl)) (hw _ (List.mem_of_getElem? (i := 29) rfl)) (hw _ (List.mem_of_getElem? (i := 36) rfl)) hy_7 rfl (by rw [hml]; rfl) [(.ref a)] (lenOf pd_2 rfl) rfl 1 (by show 2 * 0 + _ ≤ _; exact Nat.le_of_eq rfl) (hb hby d3_45) (by decide) (by decide) (by decide) (by decide) (fun r4 T4 h4 vm4 X4 q4 => ?_)
  obtain ⟨rfl, qh4, hj4⟩ := q4
  have X4 := X4 _ hj4
  rw [qh4] at X4
  show G T4 (mkF m 48 #[.val (.ref a), .val (.ref cb), .val (.int (0 : Int32)), .val (.int (1 : Int32)), .val .null, .val (.ref db)] [(.int (0 : Int32)), (.ref a)])
  refine rPutF hs X4 hx hZ .byte hown (host := "") (Or.inl (hw _ (List.mem_of_getElem? (i := 25) rfl))) Via.refl F_coder_a E_a g_a (Or.inr ⟨(hw _ (List.mem_of_getElem? (i := 21) rfl)), rfl, hnm⟩) (hw _ (List.mem_of_getElem? (i := 5) rfl)) (by decide) rfl rfl rfl rfl (hb hby d3_48) (fun T5 h5 X5 W5 F_coder_a => ?_)
  have O := O.wr W5 g_a
  have E_a := E_a.wr W5
  have F_value_a := F_value_a.other W5 (Or.inr (slot_ne (Or.inr (hw _ (List.mem_of_getElem? (i := 20) rfl))) (Or.inr (hw _ (List.mem_of_getElem? (i := 21) rfl))) (by decide) (t := (.array .byte)) (t' := .byte) (by decide) (by decide)))
  have V_db := V_db.other W5 ne_a_db.symm
  have K := K.wr W5 (Or.inl (by simp))
  have Ksz := K.1
  have Z0 := Nat.le_trans Z0 (Keep.of_wr W5).1
  show G T5 (mkF m 51 #[.val (.ref a), .val (.ref cb), .val (.int (0 : Int32)), .val (.int (1 : Int32)), .val .null, .val (.ref db)] [])
  refine hs.go (fun _ kk_ => XS.aloadN X5.here hx rfl (hb hby d3_51) rfl rfl kk_) ?_
  show G T5 (mkF m 52 #[.val (.ref a), .val (.ref cb), .val (.int (0 : Int32)), .val (.int (1 : Int32)), .val .null, .val (.ref db)] [(.ref a)])
  refine hs.go (fun _ kk_ => XS.aload X5.here hx rfl (hb hby d3_52) rfl rfl kk_) ?_
  show G T5 (mkF m 54 #[.val (.ref a), .val (.ref cb), .val (.int (0 : Int32)), .val (.int (1 : Int32)), .val .null, .val (.ref db)] [(.ref db), (.ref a)])
  refine rPutF hs X5 hx hZ (.array .byte) hown (host := "") (Or.inl (hw _ (List.mem_of_getElem? (i := 24) rfl))) Via.refl F_value_a E_a g_a (Or.inr ⟨(hw _ (List.mem_of_getElem? (i := 20) rfl)), rfl, hnm⟩) (hw _ (List.mem_of_getElem? (i := 5) rfl)) (by decide) rfl rfl rfl rfl (hb hby d3_54) (fun T6 h6 X6 W6 F_value_a => ?_)
  have O := O.wr W6 g_a
  have E_a := E_a.wr W6
  have F_coder_a := F_coder_a.other W6 (Or.inr (slot_ne (Or.inr (hw _ (List.mem_of_getElem? (i := 21) rfl))) (Or.inr (hw _ (List.mem_of_getElem? (i := 20) rfl))) (by decide) (t := .byte) (t' := (.array .byte)) (by decide) (by decide)))
  have V_db := V_db.other W6 ne_a_db.symm
  have K := K.wr W6 (Or.inl (by simp))
  have Ksz := K.1
  have Z0 := Nat.le_trans Z0 (Keep.of_wr W6).1
  show G T6 (mkF m 57 #[.val (.ref a), .val (.ref cb), .val (.int (0 : Int32)), .val (.int (1 : Int32)), .val .null, .val (.ref db)] [])
  exact rRetV fin hJ X6 hx (by decide) (by decide) hret (hb hby d3_57) (fun vm' hj => ⟨rfl, K, E_a, ⟨db, _, _, F_value_a, V_db⟩, hj⟩)
theorem pd_3 : parseMethodDescriptor "([CIILjava/lang/Void;)V" = some ⟨[(.array .char), .int, .int, (.object "java/lang/Void")], none⟩ := by decide +kernel
theorem d2_0 : decode jdk_42_method_3_code 0 = .ok (.aload_n 0, 1) := by decide +kernel
theorem d2_1 : decode jdk_42_method_3_code 1 = .ok (.aload_n 1, 1) := by decide +kernel
theorem d2_2 : decode jdk_42_method_3_code 2 = .ok (.iconst 0, 1) := by decide +kernel
theorem d2_3 : decode jdk_42_method_3_code 3 = .ok (.aload_n 1, 1) := by decide +kernel
theorem d2_4 : decode jdk_42_method_3_code 4 = .ok (.arraylength, 1) := by decide +kernel
theorem d2_5 : decode jdk_42_method_3_code 5 = .ok (.aconst_null, 1) := by decide +kernel
theorem d2_6 : decode jdk_42_method_3_code 6 = .ok (.invokespecial 27, 3) := by decide +kernel
theorem d2_9 : decode jdk_42_method_3_code 9 = .ok (.return_, 1) := by decide +kernel
theorem pn_2 : plainFor (⟨"java/lang/String", "<init>", "([C)V"⟩ : MethodName) = true := plainFor_of_name (by first | (simp [plainName, overriddenIn]; done) | decide +kernel)
theorem ef_2 (m : MethodId) (x0 : Addr) (x1 : Addr) : entryFrame m #[(.ref x0), (.ref x1)] 2 = mkF m 0 #[.val (.ref x0), .val (.ref x1)] [] := by first | (simp [entryFrame, mkF, argsToLocals, Value.category]; done) | rfl
theorem hy_2 : ((⟨"java/lang/String", "<init>", "([C)V"⟩ : MethodName)).cls ≠ "java/lang/invoke/MethodHandle" ∧ ((⟨"java/lang/String", "<init>", "([C)V"⟩ : MethodName)).cls ≠ "java/lang/invoke/VarHandle" := by decide
set_option maxRecDepth 65536 in
set_option maxHeartbeats 40000000 in
theorem i1_1 (l : Launch) (Z : State) (a0 : Array Value) (hw : ∀ d ∈ tables_1, d.before a0 Z = true) (ws : List Jvm.Cond) (J : Vm → Prop) (hJ : Stb J) (a cb : Addr) (x0 : Int32) (kc : ClassId) (h0 : Heap) (n0 : Nat) (Z0 : n0 ≤ h0.size) (O : Old Z n0 h0) (cw : Int32) (S0 : Sta Z Z.heap "java/lang/String" "COMPACT_STRINGS" "Z" (.int cw)) (hcw : ¬ (cw = (0 : Int32))) (E_a : Exa Z h0 a "java/lang/String") (g_a : n0 ≤ a) (F_value_a : Fld Z h0 a "java/lang/String" "value" "[B" .null) (F_coder_a : Fld Z h0 a "java/lang/String" "coder" "B" (.int (0 : Int32))) (V_cb : Arv Z h0 cb kc .char (1 : Int32) [(.int x0)] (.int (0 : Int32))) (hx0 : ¬ ((255 : Int32) < x0)) :
    Con l Z (⟨"java/lang/String", "<init>", "([C)V"⟩ : MethodName) jdk_42_method_3_code 2 none ws ({ frames := 3, cells := 1, slots := 1, locals := 52 } : Room) #[(.ref a), (.ref cb)] h0 n0 J (fun v h vm => v = none ∧ Keep h0 h [a] ∧ Exa Z h a "java/lang/String" ∧ (∃ (b : Addr) (k : ClassId) (vs : List Value), Fld Z h a "java/lang/String" "value" "[B" (.ref b) ∧ Arv Z h b k .byte (1 : Int32) vs (.int (0 : Int32))) ∧ J vm) := by
  refine Con.of pn_2 ?_
  intro G p e s m below meth c s₁ hs hx hby hml hown hnm hret hZ X0 XR hh0 hJ0 fin
  have hml : c.maxLocals = 2 := hml
  have hown : s.vm.findClass "java/lang/String" = some m.cls := hown
  rw [ef_2]
  have K := Keep.refl h0 ([a] : List Addr)
  have Ksz := K.1
  show G s₁ (mkF m 0 #[.val (.ref a), .val (.ref cb)] [])
  refine hs.go (fun _ kk_ => XS.aloadN X0.here hx rfl (hb hby d2_0) rfl rfl kk_) ?_
  show G s₁ (mkF m 1 #[.val (.ref a), .val (.ref cb)] [(.ref a)])
  refine hs.go (fun _ kk_ => XS.aloadN X0.here hx rfl (hb hby d2_1) rfl rfl kk_) ?_
  show G s₁ (mkF m 2 #[.val (.ref a), .val (.ref cb)] [(.ref cb), (.ref a)])
  refine hs.go (fun _ kk_ => XS.iconst X0.here hx rfl (hb hby d2_2) kk_) ?_
  show G s₁ (mkF m 3 #[.val (.ref a), .val (.ref cb)] [(.int (0 : Int32)), (.ref cb), (.ref a)])
  refine hs.go (fun _ kk_ => XS.aloadN X0.here hx rfl (hb hby d2_3) rfl rfl kk_) ?_
  show G s₁ (mkF m 4 #[.val (.ref a), .val (.ref cb)] [(.ref cb), (.int (0 : Int32)), (.ref cb), (.ref a)])
  refine rLen hs X0 hx hZ V_cb rfl rfl (hb hby d2_4) ?_
  show G s₁ (mkF m 5 #[.val (.ref a), .val (.ref cb)] [(.int (1 : Int32)), (.int (0 : Int32)), (.ref cb), (.ref a)])
  refine hs.go (fun _ kk_ => XS.aconstNull X0.here hx rfl (hb hby d2_5) kk_) ?_
  show G s₁ (mkF m 6 #[.val (.ref a), .val (.ref cb)] [.null, (.int (1 : Int32)), (.int (0 : Int32)), (.ref cb), (.ref a)])
  refine rCallI hs X0 hx hZ (as' := [(.ref cb), (.int (0 : Int32)), (.int (1 : Int32)), .null]) hJ (i4_1 l Z a0 hw [] (J) hJ a cb x0 kc h0 n0 Z0 O cw S0 hcw E_a g_a F_value_a F_coder_a V_cb hx0) rfl hown (hw _ (List.mem_of_getElem? (i := 11) rfl)) (hw _ (List.mem_of_getElem? (i := 12) rfl)) (hw _ (List.mem_of_getElem? (i := 6) rfl)) (hw _ (List.mem_of_getElem? (i := 14) rfl)) hy_3 rfl (by rw [hml]; rfl) [] (lenOf pd_3 rfl) rfl 0 (by show 2 * 0 + _ ≤ _; exact Nat.le_of_eq rfl) (hb hby d2_6) (by decide) (by decide) (by decide) (by decide) (fun r1 T1 h1 vm1 X1 q1 => ?_)
  obtain ⟨rfl, Kc1, E_a, ⟨vb, kv, vv, F_value_a, V_vb⟩, hj1⟩ := q1
  have X1 := X1 _ hj1
  have O := O.keep Kc1 (allS g_a all0)
  have K := K.trans Kc1 (fun x hx => Or.inl hx)
  have Ksz := K.1
  have Z0 := Nat.le_trans Z0 Kc1.1
  show G T1 (mkF m 9 #[.val (.ref a), .val (.ref cb)] [])
  exact rRetV fin hJ X1 hx (by decide) (by decide) hret (hb hby d2_9) (fun vm' hj => ⟨rfl, K, E_a, ⟨vb, kv, vv, F_value_a, V_vb⟩, hj⟩)
set_option maxRecDepth 65536 in
set_option maxHeartbeats 40000000 in
theorem c5_2 (l : Launch) (Z : State) (a0 : Array Value) (hw : ∀ d ∈ tables_1, d.before a0 Z = true) (ws : List Jvm.Cond) (J : Vm → Prop) (hJ : Stb J) (cb db : Addr) (x0 x1 : Int32) (kc kd : ClassId) (h0 : Heap) (n0 : Nat) (Z0 : n0 ≤ h0.size) (V_cb : Arv Z h0 cb kc .char (2 : Int32) [(.int x0), (.int x1)] (.int (0 : Int32))) (V_db : Arv Z h0 db kd .byte (2 : Int32) [(.int (0 : Int32)), (.int (0 : Int32))] (.int (0 : Int32))) (g_db : n0 ≤ db) (hx0 : ¬ ((255 : Int32) < x0)) (hx1 : ¬ ((255 : Int32) < x1)) :
    Con l Z (⟨"java/lang/StringUTF16", "compress", "([CI[BII)I"⟩ : MethodName) jdk_52_method_21_code 7 (some .int) ws ({ frames := 0, cells := 0, slots := 0, locals := 0 } : Room) #[(.ref cb), (.int (0 : Int32)), (.ref db), (.int (0 : Int32)), (.int (2 : Int32))] h0 n0 J (fun v h vm => v = some (.int (2 : Int32)) ∧ Keep h0 h [db] ∧ Arv Z h db kd .byte (2 : Int32) [(.int (x0.toInt8.toInt32)), (.int (x1.toInt8.toInt32))] (.int (0 : Int32)) ∧ J vm) := by
  refine Con.of pn_6 ?_
  intro G p e s m below meth c s₁ hs hx hby hml hown hnm hret hZ X0 XR hh0 hJ0 fin
  have hml : c.maxLocals = 7 := hml
  have hown : s.vm.findClass "java/lang/StringUTF16" = some m.cls := hown
  rw [ef_6]
  have K := Keep.refl h0 ([db] : List Addr)
  have Ksz := K.1
  have hne : cb ≠ db := fun q => by subst q; exact own_cb V_cb V_db
  show G s₁ (mkF m 0 #[.val (.ref cb), .val (.int (0 : Int32)), .val (.ref db), .val (.int (0 : Int32)), .val (.int (2 : Int32)), .unset, .unset] [])
  refine hs.go (fun _ kk_ => XS.iconst X0.here hx rfl (hb hby d6_0) kk_) ?_
  show G s₁ (mkF m 1 #[.val (.ref cb), .val (.int (0 : Int32)), .val (.ref db), .val (.int (0 : Int32)), .val (.int (2 : Int32)), .unset, .unset] [(.int (0 : Int32))])
  refine hs.go (fun _ kk_ => XS.istore X0.here hx rfl (hb hby d6_1) rfl (l' := #[.val (.ref cb), .val (.int (0 : Int32)), .val (.ref db), .val (.int (0 : Int32)), .val (.int (2 : Int32)), .val (.int (0 : Int32)), .unset]) rfl kk_) ?_
  show G s₁ (mkF m 3 #[.val (.ref cb), .val (.int (0 : Int32)), .val (.ref db), .val (.int (0 : Int32)), .val (.int (2 : Int32)), .val (.int (0 : Int32)), .unset] [])
  refine hs.go (fun _ kk_ => XS.iload X0.here hx rfl (hb hby d6_3) rfl  kk_) ?_
  show G s₁ (mkF m 5 #[.val (.ref cb), .val (.int (0 : Int32)), .val (.ref db), .val (.int (0 : Int32)), .val (.int (2 : Int32)), .val (.int (0 : Int32)), .unset] [(.int (0 : Int32))])
  refine hs.go (fun _ kk_ => XS.iload X0.here hx rfl (hb hby d6_5) rfl  kk_) ?_
  show G s₁ (mkF m 7 #[.val (.ref cb), .val (.int (0 : Int32)), .val (.ref db), .val (.int (0 : Int32)), .val (.int (2 : Int32)), .val (.int (0 : Int32)), .unset] [(.int (2 : Int32)), (.int (0 : Int32))])
  refine hs.go (fun _ kk_ => XS.icmpNo X0.here hx rfl (hb hby d6_7) rfl (tlt ((by decide) : (0 : Int32) < (2 : Int32))).2.1 kk_) ?_
  show G s₁ (mkF m 10 #[.val (.ref cb), .val (.int (0 : Int32)), .val (.ref db), .val (.int (0 : Int32)), .val (.int (2 : Int32)), .val (.int (0 : Int32)), .unset] [])
  refine hs.go (fun _ kk_ => XS.aloadN X0.here hx rfl (hb hby d6_10) rfl rfl kk_) ?_
  show G s₁ (mkF m 11 #[.val (.ref cb), .val (.int (0 : Int32)), .val (.ref db), .val (.int (0 : Int32)), .val (.int (2 : Int32)), .val (.int (0 : Int32)), .unset] [(.ref cb)])
  refine hs.go (fun _ kk_ => XS.iloadN X0.here hx rfl (hb hby d6_11) rfl  kk_) ?_
  show G s₁ (mkF m 12 #[.val (.ref cb), .val (.int (0 : Int32)), .val (.ref db), .val (.int (0 : Int32)), .val (.int (2 : Int32)), .val (.int (0 : Int32)), .unset] [(.int (0 : Int32)), (.ref cb)])
  refine rLdC hs X0 hx hZ V_cb ⟨by decide, by decide⟩ (v := (.int x0)) rfl rfl rfl (hb hby d6_12) ?_
  show G s₁ (mkF m 13 #[.val (.ref cb), .val (.int (0 : Int32)), .val (.ref db), .val (.int (0 : Int32)), .val (.int (2 : Int32)), .val (.int (0 : Int32)), .unset] [(.int x0)])
  refine hs.go (fun _ kk_ => XS.istore X0.here hx rfl (hb hby d6_13) rfl (l' := #[.val (.ref cb), .val (.int (0 : Int32)), .val (.ref db), .val (.int (0 : Int32)), .val (.int (2 : Int32)), .val (.int (0 : Int32)), .val (.int x0)]) rfl kk_) ?_
  show G s₁ (mkF m 15 #[.val (.ref cb), .val (.int (0 : Int32)), .val (.ref db), .val (.int (0 : Int32)), .val (.int (2 : Int32)), .val (.int (0 : Int32)), .val (.int x0)] [])
  refine hs.go (fun _ kk_ => XS.iload X0.here hx rfl (hb hby d6_15) rfl  kk_) ?_
  show G s₁ (mkF m 17 #[.val (.ref cb), .val (.int (0 : Int32)), .val (.ref db), .val (.int (0 : Int32)), .val (.int (2 : Int32)), .val (.int (0 : Int32)), .val (.int x0)] [(.int x0)])
  refine hs.go (fun _ kk_ => XS.sipush X0.here hx rfl (hb hby d6_17) kk_) ?_
  show G s₁ (mkF m 20 #[.val (.ref cb), .val (.int (0 : Int32)), .val (.ref db), .val (.int (0 : Int32)), .val (.int (2 : Int32)), .val (.int (0 : Int32)), .val (.int x0)] [(.int (255 : Int32)), (.int x0)])
  refine hs.go (fun _ kk_ => XS.icmpYes X0.here hx rfl (pc0 := 20) (pc' := 26) rfl (hb hby d6_20) rfl (flt (hx0 : ¬ ((255 : Int32) < x0))).2.2.2 (by decide) (by decide) kk_) ?_
  show G s₁ (mkF m 26 #[.val (.ref cb), .val (.int (0 : Int32)), .val (.ref db), .val (.int (0 : Int32)), .val (.int (2 : Int32)), .val (.int (0 : Int32)), .val (.int x0)] [])
  refine hs.go (fun _ kk_ => XS.aloadN X0.here hx rfl (hb hby d6_26) rfl rfl kk_) ?_
  show G s₁ (mkF m 27 #[.val (.ref cb), .val (.int (0 : Int32)), .val (.ref db), .val (.int (0 : Int32)), .val (.int (2 : Int32)), .val (.int (0 : Int32)), .val (.int x0)] [(.ref db)])
  refine hs.go (fun _ kk_ => XS.iloadN X0.here hx rfl (hb hby d6_27) rfl  kk_) ?_
  show G s₁ (mkF m 28 #[.val (.ref cb), .val (.int (0 : Int32)), .val (.ref db), .val (.int (0 : Int32)), .val (.int (2 : Int32)), .val (.int (0 : Int32)), .val (.int x0)] [(.int (0 : Int32)), (.ref db)])
  refine hs.go (fun _ kk_ => XS.iload X0.here hx rfl (hb hby d6_28) rfl  kk_) ?_
  show G s₁ (mkF m 30 #[.val (.ref cb), .val (.int (0 : Int32)), .val (.ref db), .val (.int (0 : Int32)), .val (.int (2 : Int32)), .val (.int (0 : Int32)), .val (.int x0)] [(.int x0), (.int (0 : Int32)), (.ref db)])
  refine hs.go (fun _ kk_ => XS.i2b X0.here hx rfl (hb hby d6_30) rfl kk_) ?_
  show G s₁ (mkF m 31 #[.val (.ref cb), .val (.int (0 : Int32)), .val (.ref db), .val (.int (0 : Int32)), .val (.int (2 : Int32)), .val (.int (0 : Int32)), .val (.int x0)] [(.int (x0.toInt8.toInt32)), (.int (0 : Int32)), (.ref db)])
  refine rStB hs X0 hx hZ V_db g_db ⟨by decide, by decide⟩ 0 (by decide) (by simp) (x' := (x0.toInt8.toInt32)) (nar_byte _) rfl rfl (hb hby d6_31) (fun T1 h1 X1 W1 V_db => ?_)
  have V_db : Arv Z h1 db kd .byte (2 : Int32) [(.int (x0.toInt8.toInt32)), (.int (0 : Int32))] (.int (0 : Int32)) := V_db
  have V_cb := V_cb.other W1 hne
  have K := K.wr W1 (Or.inl (by simp))
  have Ksz := K.1
  have Z0 := Nat.le_trans Z0 (Keep.of_wr W1).1
  show G T1 (mkF m 32 #[.val (.ref cb), .val (.int (0 : Int32)), .val (.ref db), .val (.int (0 : Int32)), .val (.int (2 : Int32)), .val (.int (0 : Int32)), .val (.int x0)] [])
  refine hs.go (fun _ kk_ => XS.iinc X1.here hx rfl (hb hby d6_32) rfl (l' := #[.val (.ref cb), .val (.int (1 : Int32)), .val (.ref db), .val (.int (0 : Int32)), .val (.int (2 : Int32)), .val (.int (0 : Int32)), .val (.int x0)]) rfl kk_) ?_
  show G T1 (mkF m 35 #[.val (.ref cb), .val (.int (1 : Int32)), .val (.ref db), .val (.int (0 : Int32)), .val (.int (2 : Int32)), .val (.int (0 : Int32)), .val (.int x0)] [])
  refine hs.go (fun _ kk_ => XS.iinc X1.here hx rfl (hb hby d6_35) rfl (l' := #[.val (.ref cb), .val (.int (1 : Int32)), .val (.ref db), .val (.int (1 : Int32)), .val (.int (2 : Int32)), .val (.int (0 : Int32)), .val (.int x0)]) rfl kk_) ?_
  show G T1 (mkF m 38 #[.val (.ref cb), .val (.int (1 : Int32)), .val (.ref db), .val (.int (1 : Int32)), .val (.int (2 : Int32)), .val (.int (0 : Int32)), .val (.int x0)] [])
  refine hs.go (fun _ kk_ => XS.iinc X1.here hx rfl (hb hby d6_38) rfl (l' := #[.val (.ref cb), .val (.int (1 : Int32)), .val (.ref db), .val (.int (1 : Int32)), .val (.int (2 : Int32)), .val (.int (1 : Int32)), .val (.int x0)]) rfl kk_) ?_
  show G T1 (mkF m 41 #[.val (.ref cb), .val (.int (1 : Int32)), .val (.ref db), .val (.int (1 : Int32)), .val (.int (2 : Int32)), .val (.int (1 : Int32)), .val (.int x0)] [])
  refine hs.go (fun _ kk_ => XS.goto X1.here hx rfl (pc0 := 41) (pc' := 3) rfl (hb hby d6_41) (by decide) (by decide) kk_) ?_
  show G T1 (mkF m 3 #[.val (.ref cb), .val (.int (1 : Int32)), .val (.ref db), .val (.int (1 : Int32)), .val (.int (2 : Int32)), .val (.int (1 : Int32)), .val (.int x0)] [])
  refine hs.go (fun _ kk_ => XS.iload X1.here hx rfl (hb hby d6_3) rfl  kk_) ?_
  show G T1 (mkF m 5 #[.val (.ref cb), .val (.int (1 : Int32)), .val (.ref db), .val (.int (1 : Int32)), .val (.int (2 : Int32)), .val (.int (1 : Int32)), .val (.int x0)] [(.int (1 : Int32))])
  refine hs.go (fun _ kk_ => XS.iload X1.here hx rfl (hb hby d6_5) rfl  kk_) ?_
  show G T1 (mkF m 7 #[.val (.ref cb), .val (.int (1 : Int32)), .val (.ref db), .val (.int (1 : Int32)), .val (.int (2 : Int32)), .val (.int (1 : Int32)), .val (.int x0)] [(.int (2 : Int32)), (.int (1 : Int32))])
  refine hs.go (fun _ kk_ => XS.icmpNo X1.here hx rfl (hb hby d6_7) rfl (tlt ((by decide) : (1 : Int32) < (2 : Int32))).2.1 kk_) ?_
  show G T1 (mkF m 10 #[.val (.ref cb), .val (.int (1 : Int32)), .val (.ref db), .val (.int (1 : Int32)), .val (.int (2 : Int32)), .val (.int (1 : Int32)), .val (.int x0)] [])
  refine hs.go (fun _ kk_ => XS.aloadN X1.here hx rfl (hb hby d6_10) rfl rfl kk_) ?_
  show G T1 (mkF m 11 #[.val (.ref cb), .val (.int (1 : Int32)), .val (.ref db), .val (.int (1 : Int32)), .val (.int (2 : Int32)), .val (.int (1 : Int32)), .val (.int x0)] [(.ref cb)])
  refine hs.go (fun _ kk_ => XS.iloadN X1.here hx rfl (hb hby d6_11) rfl  kk_) ?_
  show G T1 (mkF m 12 #[.val (.ref cb), .val (.int (1 : Int32)), .val (.ref db), .val (.int (1 : Int32)), .val (.int (2 : Int32)), .val (.int (1 : Int32)), .val (.int x0)] [(.int (1 : Int32)), (.ref cb)])
  refine rLdC hs X1 hx hZ V_cb ⟨by decide, by decide⟩ (v := (.int x1)) rfl rfl rfl (hb hby d6_12) ?_
  show G T1 (mkF m 13 #[.val (.ref cb), .val (.int (1 : Int32)), .val (.ref db), .val (.int (1 : Int32)), .val (.int (2 : Int32)), .val (.int (1 : Int32)), .val (.int x0)] [(.int x1)])
  refine hs.go (fun _ kk_ => XS.istore X1.here hx rfl (hb hby d6_13) rfl (l' := #[.val (.ref cb), .val (.int (1 : Int32)), .val (.ref db), .val (.int (1 : Int32)), .val (.int (2 : Int32)), .val (.int (1 : Int32)), .val (.int x1)]) rfl kk_) ?_
  show G T1 (mkF m 15 #[.val (.ref cb), .val (.int (1 : Int32)), .val (.ref db), .val (.int (1 : Int32)), .val (.int (2 : Int32)), .val (.int (1 : Int32)), .val (.int x1)] [])
  refine hs.go (fun _ kk_ => XS.iload X1.here hx rfl (hb hby d6_15) rfl  kk_) ?_
  show G T1 (mkF m 17 #[.val (.ref cb), .val (.int (1 : Int32)), .val (.ref db), .val (.int (1 : Int32)), .val (.int (2 : Int32)), .val (.int (1 : Int32)), .val (.int x1)] [(.int x1)])
  refine hs.go (fun _ kk_ => XS.sipush X1.here hx rfl (hb hby d6_17) kk_) ?_
  show G T1 (mkF m 20 #[.val (.ref cb), .val (.int (1 : Int32)), .val (.ref db), .val (.int (1 : Int32)), .val (.int (2 : Int32)), .val (.int (1 : Int32)), .val (.int x1)] [(.int (255 : Int32)), (.int x1)])
  refine hs.go (fun _ kk_ => XS.icmpYes X1.here hx rfl (pc0 := 20) (pc' := 26) rfl (hb hby d6_20) rfl (flt (hx1 : ¬ ((255 : Int32) < x1))).2.2.2 (by decide) (by decide) kk_) ?_
  show G T1 (mkF m 26 #[.val (.ref cb), .val (.int (1 : Int32)), .val (.ref db), .val (.int (1 : Int32)), .val (.int (2 : Int32)), .val (.int (1 : Int32)), .val (.int x1)] [])
  refine hs.go (fun _ kk_ => XS.aloadN X1.here hx rfl (hb hby d6_26) rfl rfl kk_) ?_
  show G T1 (mkF m 27 #[.val (.ref cb), .val (.int (1 : Int32)), .val (.ref db), .val (.int (1 : Int32)), .val (.int (2 : Int32)), .val (.int (1 : Int32)), .val (.int x1)] [(.ref db)])
  refine hs.go (fun _ kk_ => XS.iloadN X1.here hx rfl (hb hby d6_27) rfl  kk_) ?_
  show G T1 (mkF m 28 #[.val (.ref cb), .val (.int (1 : Int32)), .val (.ref db), .val (.int (1 : Int32)), .val (.int (2 : Int32)), .val (.int (1 : Int32)), .val (.int x1)] [(.int (1 : Int32)), (.ref db)])
  refine hs.go (fun _ kk_ => XS.iload X1.here hx rfl (hb hby d6_28) rfl  kk_) ?_
  show G T1 (mkF m 30 #[.val (.ref cb), .val (.int (1 : Int32)), .val (.ref db), .val (.int (1 : Int32)), .val (.int (2 : Int32)), .val (.int (1 : Int32)), .val (.int x1)] [(.int x1), (.int (1 : Int32)), (.ref db)])
  refine hs.go (fun _ kk_ => XS.i2b X1.here hx rfl (hb hby d6_30) rfl kk_) ?_
  show G T1 (mkF m 31 #[.val (.ref cb), .val (.int (1 : Int32)), .val (.ref db), .val (.int (1 : Int32)), .val (.int (2 : Int32)), .val (.int (1 : Int32)), .val (.int x1)] [(.int (x1.toInt8.toInt32)), (.int (1 : Int32)), (.ref db)])
  refine rStB hs X1 hx hZ V_db g_db ⟨by decide, by decide⟩ 1 (by decide) (by simp) (x' := (x1.toInt8.toInt32)) (nar_byte _) rfl rfl (hb hby d6_31) (fun T2 h2 X2 W2 V_db => ?_)
  have V_db : Arv Z h2 db kd .byte (2 : Int32) [(.int (x0.toInt8.toInt32)), (.int (x1.toInt8.toInt32))] (.int (0 : Int32)) := V_db
  have V_cb := V_cb.other W2 hne
  have K := K.wr W2 (Or.inl (by simp))
  have Ksz := K.1
  have Z0 := Nat.le_trans Z0 (Keep.of_wr W2).1
  show G T2 (mkF m 32 #[.val (.ref cb), .val (.int (1 : Int32)), .val (.ref db), .val (.int (1 : Int32)), .val (.int (2 : Int32)), .val (.int (1 : Int32)), .val (.int x1)] [])
  refine hs.go (fun _ kk_ => XS.iinc X2.here hx rfl (hb hby d6_32) rfl (l' := #[.val (.ref cb), .val (.int (2 : Int32)), .val (.ref db), .val (.int (1 : Int32)), .val (.int (2 : Int32)), .val (.int (1 : Int32)), .val (.int x1)]) rfl kk_) ?_
  show G T2 (mkF m 35 #[.val (.ref cb), .val (.int (2 : Int32)), .val (.ref db), .val (.int (1 : Int32)), .val (.int (2 : Int32)), .val (.int (1 : Int32)), .val (.int x1)] [])
  refine hs.go (fun _ kk_ => XS.iinc X2.here hx rfl (hb hby d6_35) rfl (l' := #[.val (.ref cb), .val (.int (2 : Int32)), .val (.ref db), .val (.int (2 : Int32)), .val (.int (2 : Int32)), .val (.int (1 : Int32)), .val (.int x1)]) rfl kk_) ?_
  show G T2 (mkF m 38 #[.val (.ref cb), .val (.int (2 : Int32)), .val (.ref db), .val (.int (2 : Int32)), .val (.int (2 : Int32)), .val (.int (1 : Int32)), .val (.int x1)] [])
  refine hs.go (fun _ kk_ => XS.iinc X2.here hx rfl (hb hby d6_38) rfl (l' := #[.val (.ref cb), .val (.int (2 : Int32)), .val (.ref db), .val (.int (2 : Int32)), .val (.int (2 : Int32)), .val (.int (2 : Int32)), .val (.int x1)]) rfl kk_) ?_
  show G T2 (mkF m 41 #[.val (.ref cb), .val (.int (2 : Int32)), .val (.ref db), .val (.int (2 : Int32)), .val (.int (2 : Int32)), .val (.int (2 : Int32)), .val (.int x1)] [])
  refine hs.go (fun _ kk_ => XS.goto X2.here hx rfl (pc0 := 41) (pc' := 3) rfl (hb hby d6_41) (by decide) (by decide) kk_) ?_
  show G T2 (mkF m 3 #[.val (.ref cb), .val (.int (2 : Int32)), .val (.ref db), .val (.int (2 : Int32)), .val (.int (2 : Int32)), .val (.int (2 : Int32)), .val (.int x1)] [])
  refine hs.go (fun _ kk_ => XS.iload X2.here hx rfl (hb hby d6_3) rfl  kk_) ?_
  show G T2 (mkF m 5 #[.val (.ref cb), .val (.int (2 : Int32)), .val (.ref db), .val (.int (2 : Int32)), .val (.int (2 : Int32)), .val (.int (2 : Int32)), .val (.int x1)] [(.int (2 : Int32))])
  refine hs.go (fun _ kk_ => XS.iload X2.here hx rfl (hb hby d6_5) rfl  kk_) ?_
  show G T2 (mkF m 7 #[.val (.ref cb), .val (.int (2 : Int32)), .val (.ref db), .val (.int (2 : Int32)), .val (.int (2 : Int32)), .val (.int (2 : Int32)), .val (.int x1)] [(.int (2 : Int32)), (.int (2 : Int32))])
  refine hs.go (fun _ kk_ => XS.icmpYes X2.here hx rfl (pc0 := 7) (pc' := 44) rfl (hb hby d6_7) rfl (flt ((by decide) : ¬ ((2 : Int32) < (2 : Int32)))).2.1 (by decide) (by decide) kk_) ?_
  show G T2 (mkF m 44 #[.val (.ref cb), .val (.int (2 : Int32)), .val (.ref db), .val (.int (2 : Int32)), .val (.int (2 : Int32)), .val (.int (2 : Int32)), .val (.int x1)] [])
  refine hs.go (fun _ kk_ => XS.iload X2.here hx rfl (hb hby d6_44) rfl  kk_) ?_
  show G T2 (mkF m 46 #[.val (.ref cb), .val (.int (2 : Int32)), .val (.ref db), .val (.int (2 : Int32)), .val (.int (2 : Int32)), .val (.int (2 : Int32)), .val (.int x1)] [(.int (2 : Int32))])
  exact rRetI fin hJ X2 hx (by decide) (by decide) hret (hb hby d6_46) (fun vm' hj => ⟨rfl, K, V_db, hj⟩)
set_option maxRecDepth 65536 in
set_option maxHeartbeats 40000000 in
theorem c3_2 (l : Launch) (Z : State) (a0 : Array Value) (hw : ∀ d ∈ tables_1, d.before a0 Z = true) (ws : List Jvm.Cond) (J : Vm → Prop) (hJ : Stb J) (cb : Addr) (x0 x1 : Int32) (kc : ClassId) (h0 : Heap) (n0 : Nat) (Z0 : n0 ≤ h0.size) (V_cb : Arv Z h0 cb kc .char (2 : Int32) [(.int x0), (.int x1)] (.int (0 : Int32))) (hx0 : ¬ ((255 : Int32) < x0)) (hx1 : ¬ ((255 : Int32) < x1)) :
    Con l Z (⟨"java/lang/StringUTF16", "compress", "([CII)[B"⟩ : MethodName) jdk_52_method_16_code 6 (some (.array .byte)) ws ({ frames := 1, cells := 1, slots := 2, locals := 18 } : Room) #[(.ref cb), (.int (0 : Int32)), (.int (2 : Int32))] h0 n0 J (fun v h vm => ∃ (db : Addr) (kd : ClassId), v = some (.ref db) ∧ Keep h0 h [] ∧ Arv Z h db kd .byte (2 : Int32) [(.int (x0.toInt8.toInt32)), (.int (x1.toInt8.toInt32))] (.int (0 : Int32)) ∧ h0.size ≤ db ∧ J vm) := by
  refine Con.of pn_5 ?_
  intro G p e s m below meth c s₁ hs hx hby hml hown hnm hret hZ X0 XR hh0 hJ0 fin
  have hml : c.maxLocals = 6 := hml
  have hown : s.vm.findClass "java/lang/StringUTF16" = some m.cls := hown
  rw [ef_5]
  have K := Keep.refl h0 ([] : List Addr)
  have Ksz := K.1
  show G s₁ (mkF m 0 #[.val (.ref cb), .val (.int (0 : Int32)), .val (.int (2 : Int32)), .unset, .unset, .unset] [])
  refine hs.go (fun _ kk_ => XS.iloadN X0.here hx rfl (hb hby d5_0) rfl  kk_) ?_
  show G s₁ (mkF m 1 #[.val (.ref cb), .val (.int (0 : Int32)), .val (.int (2 : Int32)), .unset, .unset, .unset] [(.int (2 : Int32))])
  refine rNewP hs X0 hx hZ (hw _ (List.mem_of_getElem? (i := 19) rfl)) rfl (hb hby d5_1) rfl (by decide) 2 2 (by decide) (by decide) (by decide) (by decide) (fun T1 h1 k1 db g1 X1 E1 V_db => ?_)
  have V_db : Arv Z h1 db k1 .byte (2 : Int32) [(.int (0 : Int32)), (.int (0 : Int32))] (.int (0 : Int32)) := V_db
  have g_db : n0 ≤ db := by rw [g1]; exact Z0
  have Z0 := Nat.le_trans Z0 E1.1
  have ne_cb_db : cb ≠ db := Nat.ne_of_lt (Nat.lt_of_lt_of_le V_cb.lt (Nat.le_of_eq g1.symm))
  have V_cb := V_cb.ext E1
  have K := K.ext E1
  have sz_db : h0.size ≤ db := by rw [g1]; exact Ksz
  have Ksz := K.1
  show G T1 (mkF m 3 #[.val (.ref cb), .val (.int (0 : Int32)), .val (.int (2 : Int32)), .unset, .unset, .unset] [(.ref db)])
  refine hs.go (fun _ kk_ => XS.astoreN X1.here hx rfl (hb hby d5_3) rfl rfl (l' := #[.val (.ref cb), .val (.int (0 : Int32)), .val (.int (2 : Int32)), .val (.ref db), .unset, .unset]) rfl kk_) ?_
  show G T1 (mkF m 4 #[.val (.ref cb), .val (.int (0 : Int32)), .val (.int (2 : Int32)), .val (.ref db), .unset, .unset] [])
  refine hs.go (fun _ kk_ => XS.aloadN X1.here hx rfl (hb hby d5_4) rfl rfl kk_) ?_
  show G T1 (mkF m 5 #[.val (.ref cb), .val (.int (0 : Int32)), .val (.int (2 : Int32)), .val (.ref db), .unset, .unset] [(.ref cb)])
  refine hs.go (fun _ kk_ => XS.iloadN X1.here hx rfl (hb hby d5_5) rfl  kk_) ?_
  show G T1 (mkF m 6 #[.val (.ref cb), .val (.int (0 : Int32)), .val (.int (2 : Int32)), .val (.ref db), .unset, .unset] [(.int (0 : Int32)), (.ref cb)])
  refine hs.go (fun _ kk_ => XS.aloadN X1.here hx rfl (hb hby d5_6) rfl rfl kk_) ?_
  show G T1 (mkF m 7 #[.val (.ref cb), .val (.int (0 : Int32)), .val (.int (2 : Int32)), .val (.ref db), .unset, .unset] [(.ref db), (.int (0 : Int32)), (.ref cb)])
  refine hs.go (fun _ kk_ => XS.iconst X1.here hx rfl (hb hby d5_7) kk_) ?_
  show G T1 (mkF m 8 #[.val (.ref cb), .val (.int (0 : Int32)), .val (.int (2 : Int32)), .val (.ref db), .unset, .unset] [(.int (0 : Int32)), (.ref db), (.int (0 : Int32)), (.ref cb)])
  refine hs.go (fun _ kk_ => XS.iloadN X1.here hx rfl (hb hby d5_8) rfl  kk_) ?_
  show G T1 (mkF m 9 #[.val (.ref cb), .val (.int (0 : Int32)), .val (.int (2 : Int32)), .val (.ref db), .unset, .unset] [(.int (2 : Int32)), (.int (0 : Int32)), (.ref db), (.int (0 : Int32)), (.ref cb)])
  refine rCallS hs X1 hx hZ (as' := [(.ref cb), (.int (0 : Int32)), (.ref db), (.int (0 : Int32)), (.int (2 : Int32))]) hJ (c5_2 l Z a0 hw [] (J) hJ cb db x0 x1 kc k1 h1 n0 Z0 V_cb V_db g_db hx0 hx1) hown (hw _ (List.mem_of_getElem? (i := 31) rfl)) (hw _ (List.mem_of_getElem? (i := 32) rfl)) (hw _ (List.mem_of_getElem? (i := 29) rfl)) (hw _ (List.mem_of_getElem? (i := 33) rfl)) hy_6 rfl (by rw [hml]; rfl) [] (lenOf pd_0 rfl) rfl 0 (by show 2 * 0 + _ ≤ _; exact Nat.le_of_eq rfl) (hb hby d5_9) (by decide) (by decide) (by decide) (by decide) (fun r2 T2 h2 vm2 X2 q2 => ?_)
  obtain ⟨rfl, Kc2, V_db, hj2⟩ := q2
  have X2 := X2 _ hj2
  have K := K.trans Kc2 (fun x hx => Or.inr (by cases List.mem_singleton.mp hx; exact sz_db))
  have Ksz := K.1
  have Z0 := Nat.le_trans Z0 Kc2.1
  show G T2 (mkF m 12 #[.val (.ref cb), .val (.int (0 : Int32)), .val (.int (2 : Int32)), .val (.ref db), .unset, .unset] [(.int (2 : Int32))])
  refine hs.go (fun _ kk_ => XS.istore X2.here hx rfl (hb hby d5_12) rfl (l' := #[.val (.ref cb), .val (.int (0 : Int32)), .val (.int (2 : Int32)), .val (.ref db), .val (.int (2 : Int32)), .unset]) rfl kk_) ?_
  show G T2 (mkF m 14 #[.val (.ref cb), .val (.int (0 : Int32)), .val (.int (2 : Int32)), .val (.ref db), .val (.int (2 : Int32)), .unset] [])
  refine hs.go (fun _ kk_ => XS.iload X2.here hx rfl (hb hby d5_14) rfl  kk_) ?_
  show G T2 (mkF m 16 #[.val (.ref cb), .val (.int (0 : Int32)), .val (.int (2 : Int32)), .val (.ref db), .val (.int (2 : Int32)), .unset] [(.int (2 : Int32))])
  refine hs.go (fun _ kk_ => XS.iloadN X2.here hx rfl (hb hby d5_16) rfl  kk_) ?_
  show G T2 (mkF m 17 #[.val (.ref cb), .val (.int (0 : Int32)), .val (.int (2 : Int32)), .val (.ref db), .val (.int (2 : Int32)), .unset] [(.int (2 : Int32)), (.int (2 : Int32))])
  refine hs.go (fun _ kk_ => XS.icmpYes X2.here hx rfl (pc0 := 17) (pc' := 57) rfl (hb hby d5_17) rfl (teq (rfl : (2 : Int32) = (2 : Int32))).1 (by decide) (by decide) kk_) ?_
  show G T2 (mkF m 57 #[.val (.ref cb), .val (.int (0 : Int32)), .val (.int (2 : Int32)), .val (.ref db), .val (.int (2 : Int32)), .unset] [])
  refine hs.go (fun _ kk_ => XS.aloadN X2.here hx rfl (hb hby d5_57) rfl rfl kk_) ?_
  show G T2 (mkF m 58 #[.val (.ref cb), .val (.int (0 : Int32)), .val (.int (2 : Int32)), .val (.ref db), .val (.int (2 : Int32)), .unset] [(.ref db)])
  exact rRetA fin hJ X2 hx (by decide) (by decide) hret rfl rfl rfl (hb hby d5_58) (fun vm' hj => ⟨db, _, rfl, K, V_db, sz_db, hj⟩)
set_option maxRecDepth 65536 in
set_option maxHeartbeats 40000000 in
theorem cf_2 (l : Launch) (Z : State) (a0 : Array Value) (hw : ∀ d ∈ tables_1, d.before a0 Z = true) (ws : List Jvm.Cond) (J : Vm → Prop) (hJ : Stb J) (db : Addr) (vs : List Value) (kd : ClassId) (h0 : Heap) (n0 : Nat) (Z0 : n0 ≤ h0.size) (V_db : Arv Z h0 db kd .byte (2 : Int32) vs (.int (0 : Int32))) :
    Con l Z (⟨"java/lang/StringUTF16", "coderFromArrayLen", "([BI)B"⟩ : MethodName) jdk_52_method_15_code 2 (some .byte) ws ({ frames := 0, cells := 0, slots := 0, locals := 0 } : Room) #[(.ref db), (.int (2 : Int32))] h0 n0 J (fun v h vm => v = some (.int (0 : Int32)) ∧ h = h0 ∧ J vm) := by
  refine Con.of pn_7 ?_
  intro G p e s m below meth c s₁ hs hx hby hml hown hnm hret hZ X0 XR hh0 hJ0 fin
  have hml : c.maxLocals = 2 := hml
  have hown : s.vm.findClass "java/lang/StringUTF16" = some m.cls := hown
  rw [ef_7]
  show G s₁ (mkF m 0 #[.val (.ref db), .val (.int (2 : Int32))] [])
  refine hs.go (fun _ kk_ => XS.iloadN X0.here hx rfl (hb hby d7_0) rfl  kk_) ?_
  show G s₁ (mkF m 1 #[.val (.ref db), .val (.int (2 : Int32))] [(.int (2 : Int32))])
  refine hs.go (fun _ kk_ => XS.aloadN X0.here hx rfl (hb hby d7_1) rfl rfl kk_) ?_
  show G s₁ (mkF m 2 #[.val (.ref db), .val (.int (2 : Int32))] [(.ref db), (.int (2 : Int32))])
  refine rLen hs X0 hx hZ V_db rfl rfl (hb hby d7_2) ?_
  show G s₁ (mkF m 3 #[.val (.ref db), .val (.int (2 : Int32))] [(.int (2 : Int32)), (.int (2 : Int32))])
  refine hs.go (fun _ kk_ => XS.isub X0.here hx rfl (hb hby d7_3) rfl kk_) ?_
  show G s₁ (mkF m 4 #[.val (.ref db), .val (.int (2 : Int32))] [(.int ((2 : Int32) - (2 : Int32)))])
  refine hs.go (fun _ kk_ => XS.bipush X0.here hx rfl (hb hby d7_4) kk_) ?_
  show G s₁ (mkF m 6 #[.val (.ref db), .val (.int (2 : Int32))] [(.int (31 : Int32)), (.int ((2 : Int32) - (2 : Int32)))])
  refine hs.go (fun _ kk_ => XS.iushr X0.here hx rfl (hb hby d7_6) rfl kk_) ?_
  show G s₁ (mkF m 7 #[.val (.ref db), .val (.int (2 : Int32))] [(.int ((((2 : Int32) - (2 : Int32)).toUInt32 >>> ((31 : Int32) &&& 31).toUInt32).toInt32))])
  refine hs.go (fun _ kk_ => XS.i2b X0.here hx rfl (hb hby d7_7) rfl kk_) ?_
  show G s₁ (mkF m 8 #[.val (.ref db), .val (.int (2 : Int32))] [(.int (((((2 : Int32) - (2 : Int32)).toUInt32 >>> ((31 : Int32) &&& 31).toUInt32).toInt32).toInt8.toInt32))])
  exact rRetN fin hJ X0 hx (by decide) (by decide) hret (by simp) (hb hby d7_8) (z' := (0 : Int32)) (by decide) (fun vm' hj => ⟨rfl, rfl, hj⟩)
set_option maxRecDepth 65536 in
set_option maxHeartbeats 40000000 in
theorem i4_2 (l : Launch) (Z : State) (a0 : Array Value) (hw : ∀ d ∈ tables_1, d.before a0 Z = true) (ws : List Jvm.Cond) (J : Vm → Prop) (hJ : Stb J) (a cb : Addr) (x0 x1 : Int32) (kc : ClassId) (h0 : Heap) (n0 : Nat) (Z0 : n0 ≤ h0.size) (O : Old Z n0 h0) (cw : Int32) (S0 : Sta Z Z.heap "java/lang/String" "COMPACT_STRINGS" "Z" (.int cw)) (hcw : ¬ (cw = (0 : Int32))) (E_a : Exa Z h0 a "java/lang/String") (g_a : n0 ≤ a) (F_value_a : Fld Z h0 a "java/lang/String" "value" "[B" .null) (F_coder_a : Fld Z h0 a "java/lang/String" "coder" "B" (.int (0 : Int32))) (V_cb : Arv Z h0 cb kc .char (2 : Int32) [(.int x0), (.int x1)] (.int (0 : Int32))) (hx0 : ¬ ((255 : Int32) < x0)) (hx1 : ¬ ((255 : Int32) < x1)) :
    Con l Z (⟨"java/lang/String", "<init>", "([CIILjava/lang/Void;)V"⟩ : MethodName) jdk_42_method_149_code 6 none ws ({ frames := 2, cells := 1, slots := 2, locals := 35 } : Room) #[(.ref a), (.ref cb), (.int (0 : Int32)), (.int (2 : Int32)), .null] h0 n0 J (fun v h vm => v = none ∧ Keep h0 h [a] ∧ Exa Z h a "java/lang/String" ∧ (∃ (b : Addr) (k : ClassId) (vs : List Value), Fld Z h a "java/lang/String" "value" "[B" (.ref b) ∧ Arv Z h b k .byte (2 : Int32) vs (.int (0 : Int32))) ∧ J vm) := by
  refine Con.of pn_3 ?_
  intro G p e s m below meth c s₁ hs hx hby hml hown hnm hret hZ X0 XR hh0 hJ0 fin
  have hml : c.maxLocals = 6 := hml
  have hown : s.vm.findClass "java/lang/String" = some m.cls := hown
  rw [ef_3_xxxxn]
  have K := Keep.refl h0 ([a] : List Addr)
  have Ksz := K.1
  show G s₁ (mkF m 0 #[.val (.ref a), .val (.ref cb), .val (.int (0 : Int32)), .val (.int (2 : Int32)), .val .null, .unset] [])
  refine hs.go (fun _ kk_ => XS.aloadN X0.here hx rfl (hb hby d3_0) rfl rfl kk_) ?_
  show G s₁ (mkF m 1 #[.val (.ref a), .val (.ref cb), .val (.int (0 : Int32)), .val (.int (2 : Int32)), .val .null, .unset] [(.ref a)])
  refine rInitO hs X0 hx hZ hown (hw _ (List.mem_of_getElem? (i := 15) rfl)) (hw _ (List.mem_of_getElem? (i := 16) rfl)) (hw _ (List.mem_of_getElem? (i := 17) rfl)) rfl (by rw [hml]; rfl) rfl (hb hby d3_1) (by decide) (W := 0) (by show 2 * 0 + _ ≤ _; exact Nat.le_of_eq rfl) (by decide) (fun T1 X1 => ?_)
  show G T1 (mkF m 4 #[.val (.ref a), .val (.ref cb), .val (.int (0 : Int32)), .val (.int (2 : Int32)), .val .null, .unset] [])
  refine hs.go (fun _ kk_ => XS.iloadN X1.here hx rfl (hb hby d3_4) rfl  kk_) ?_
  show G T1 (mkF m 5 #[.val (.ref a), .val (.ref cb), .val (.int (0 : Int32)), .val (.int (2 : Int32)), .val .null, .unset] [(.int (2 : Int32))])
  refine hs.go (fun _ kk_ => XS.ifYes X1.here hx rfl (pc0 := 5) (pc' := 27) rfl (hb hby d3_5) rfl ((if0 _ _).trans (feq ((by decide) : ¬ ((2 : Int32) = (0 : Int32)))).2) (by decide) (by decide) kk_) ?_
  show G T1 (mkF m 27 #[.val (.ref a), .val (.ref cb), .val (.int (0 : Int32)), .val (.int (2 : Int32)), .val .null, .unset] [])
  refine rGetS hs X1 hx hZ hown (host := "") (Or.inl (hw _ (List.mem_of_getElem? (i := 26) rfl))) Via.refl (S0.ext O.2) rfl (hb hby d3_27) (fun T2 X2 => ?_)
  show G T2 (mkF m 30 #[.val (.ref a), .val (.ref cb), .val (.int (0 : Int32)), .val (.int (2 : Int32)), .val .null, .unset] [(.int cw)])
  refine hs.go (fun _ kk_ => XS.ifNo X2.here hx rfl (hb hby d3_30) rfl ((if0 _ _).trans (feq (hcw : ¬ (cw = (0 : Int32)))).1) kk_) ?_
  show G T2 (mkF m 33 #[.val (.ref a), .val (.ref cb), .val (.int (0 : Int32)), .val (.int (2 : Int32)), .val .null, .unset] [])
  refine hs.go (fun _ kk_ => XS.aloadN X2.here hx rfl (hb hby d3_33) rfl rfl kk_) ?_
  show G T2 (mkF m 34 #[.val (.ref a), .val (.ref cb), .val (.int (0 : Int32)), .val (.int (2 : Int32)), .val .null, .unset] [(.ref cb)])
  refine hs.go (fun _ kk_ => XS.iloadN X2.here hx rfl (hb hby d3_34) rfl  kk_) ?_
  show G T2 (mkF m 35 #[.val (.ref a), .val (.ref cb), .val (.int (0 : Int32)), .val (.int (2 : Int32)), .val .null, .unset] [(.int (0 : Int32)), (.ref cb)])
  refine hs.go (fun _ kk_ => XS.iloadN X2.here hx rfl (hb hby d3_35) rfl  kk_) ?_
  show G T2 (mkF m 36 #[.val (.ref a), .val (.ref cb), .val (.int (0 : Int32)), .val (.int (2 : Int32)), .val .null, .unset] [(.int (2 : Int32)), (.int (0 : Int32)), (.ref cb)])
  refine rCallS hs X2 hx hZ (as' := [(.ref cb), (.int (0 : Int32)), (.int (2 : Int32))]) hJ (c3_2 l Z a0 hw [] (J) hJ cb x0 x1 kc h0 n0 Z0 V_cb hx0 hx1) hown (hw _ (List.mem_of_getElem? (i := 27) rfl)) (hw _ (List.mem_of_getElem? (i := 28) rfl)) (hw _ (List.mem_of_getElem? (i := 29) rfl)) (hw _ (List.mem_of_getElem? (i := 30) rfl)) hy_5 rfl (by rw [hml]; rfl) [] (lenOf pd_1 rfl) rfl 0 (by show 2 * 0 + _ ≤ _; exact Nat.le_of_eq rfl) (hb hby d3_36) (by decide) (by decide) (by decide) (by decide) (fun r3 T3 h3 vm3 X3 q3 => ?_)
  obtain ⟨db, kd, rfl, Kc3, V_db, hge, hj3⟩ := q3
  have X3 := X3 _ hj3
  have ne_a_db : a ≠ db := Nat.ne_of_lt (Nat.lt_of_lt_of_le E_a.lt hge)
  have ne_cb_db : cb ≠ db := Nat.ne_of_lt (Nat.lt_of_lt_of_le V_cb.lt hge)
  have g_db : n0 ≤ db := Nat.le_trans Z0 hge
  have O := O.keep Kc3 all0
  have E_a := E_a.keep Kc3
  have F_value_a := F_value_a.keep Kc3 nin0
  have F_coder_a := F_coder_a.keep Kc3 nin0
  have K := K.trans Kc3 (fun x hx => by simp at hx)
  have Ksz := K.1
  have Z0 := Nat.le_trans Z0 Kc3.1
  show G T3 (mkF m 39 #[.val (.ref a), .val (.ref cb), .val (.int (0 : Int32)), .val (.int (2 : Int32)), .val .null, .unset] [(.ref db)])
  refine hs.go (fun _ kk_ => XS.astore X3.here hx rfl (hb hby d3_39) rfl rfl (l' := #[.val (.ref a), .val (.ref cb), .val (.int (0 : Int32)), .val (.int (2 : Int32)), .val .null, .val (.ref db)]) rfl kk_) ?_
  show G T3 (mkF m 41 #[.val (.ref a), .val (.ref cb), .val (.int (0 : Int32)), .val (.int (2 : Int32)), .val .null, .val (.ref db)] [])
  refine hs.go (fun _ kk_ => XS.aloadN X3.here hx rfl (hb hby d3_41) rfl rfl kk_) ?_
  show G T3 (mkF m 42 #[.val (.ref a), .val (.ref cb), .val (.int (0 : Int32)), .val (.int (2 : Int32)), .val .null, .val (.ref db)] [(.ref a)])
  refine hs.go (fun _ kk_ => XS.aload X3.here hx rfl (hb hby d3_42) rfl rfl kk_) ?_
  show G T3 (mkF m 44 #[.val (.ref a), .val (.ref cb), .val (.int (0 : Int32)), .val (.int (2 : Int32)), .val .null, .val (.ref db)] [(.ref db), (.ref a)])
  refine hs.go (fun _ kk_ => XS.iloadN X3.here hx rfl (hb hby d3_44) rfl  kk_) ?_
  show G T3 (mkF m 45 #[.val (.ref a), .val (.ref cb), .val (.int (0 : Int32)), .val (.int (2 : Int32)), .val .null, .val (.ref db)] [(.int (2 : Int32)), (.ref db), (.ref a)])
  refine rCallS hs X3 hx hZ (as' := [(.ref db), (.int (2 : Int32))]) hJ (cf_2 l Z a0 hw [] (J) hJ db [(.int (x0.toInt8.toInt32)), (.int (x1.toInt8.toInt32))] kd h3 n0 Z0 V_db) hown (hw _ (List.mem_of_getElem? (i := 34) rfl)) (hw _ (List.mem_of_getElem? (i := 35) rfl)) (hw _ (List.mem_of_getElem? (i := 29) rfl)) (hw _ (List.mem_of_getElem? (i := 36) rfl)) hy_7 rfl (by rw [hml]; rfl) [(.ref a)] (lenOf pd_2 rfl) rfl 1 (by show 2 * 0 + _ ≤ _; exact Nat.le_of_eq rfl) (hb hby d3_45) (by decide) (by decide) (by decide) (by decide) (fun r4 T4 h4 vm4 X4 q4 => ?_)
  obtain ⟨rfl, qh4, hj4⟩ := q4
  have X4 := X4 _ hj4
  rw [qh4] at X4
  show G T4 (mkF m 48 #[.val (.ref a), .val (.ref cb), .val (.int (0 : Int32)), .val (.int (2 : Int32)), .val .null, .val (.ref db)] [(.int (0 : Int32)), (.ref a)])
  refine rPutF hs X4 hx hZ .byte hown (host := "") (Or.inl (hw _ (List.mem_of_getElem? (i := 25) rfl))) Via.refl F_coder_a E_a g_a (Or.inr ⟨(hw _ (List.mem_of_getElem? (i := 21) rfl)), rfl, hnm⟩) (hw _ (List.mem_of_getElem? (i := 5) rfl)) (by decide) rfl rfl rfl rfl (hb hby d3_48) (fun T5 h5 X5 W5 F_coder_a => ?_)
  have O := O.wr W5 g_a
  have E_a := E_a.wr W5
  have F_value_a := F_value_a.other W5 (Or.inr (slot_ne (Or.inr (hw _ (List.mem_of_getElem? (i := 20) rfl))) (Or.inr (hw _ (List.mem_of_getElem? (i := 21) rfl))) (by decide) (t := (.array .byte)) (t' := .byte) (by decide) (by decide)))
  have V_db := V_db.other W5 ne_a_db.symm
  have K := K.wr W5 (Or.inl (by simp))
  have Ksz := K.1
  have Z0 := Nat.le_trans Z0 (Keep.of_wr W5).1
  show G T5 (mkF m 51 #[.val (.ref a), .val (.ref cb), .val (.int (0 : Int32)), .val (.int (2 : Int32)), .val .null, .val (.ref db)] [])
  refine hs.go (fun _ kk_ => XS.aloadN X5.here hx rfl (hb hby d3_51) rfl rfl kk_) ?_
  show G T5 (mkF m 52 #[.val (.ref a), .val (.ref cb), .val (.int (0 : Int32)), .val (.int (2 : Int32)), .val .null, .val (.ref db)] [(.ref a)])
  refine hs.go (fun _ kk_ => XS.aload X5.here hx rfl (hb hby d3_52) rfl rfl kk_) ?_
  show G T5 (mkF m 54 #[.val (.ref a), .val (.ref cb), .val (.int (0 : Int32)), .val (.int (2 : Int32)), .val .null, .val (.ref db)] [(.ref db), (.ref a)])
  refine rPutF hs X5 hx hZ (.array .byte) hown (host := "") (Or.inl (hw _ (List.mem_of_getElem? (i := 24) rfl))) Via.refl F_value_a E_a g_a (Or.inr ⟨(hw _ (List.mem_of_getElem? (i := 20) rfl)), rfl, hnm⟩) (hw _ (List.mem_of_getElem? (i := 5) rfl)) (by decide) rfl rfl rfl rfl (hb hby d3_54) (fun T6 h6 X6 W6 F_value_a => ?_)
  have O := O.wr W6 g_a
  have E_a := E_a.wr W6
  have F_coder_a := F_coder_a.other W6 (Or.inr (slot_ne (Or.inr (hw _ (List.mem_of_getElem? (i := 21) rfl))) (Or.inr (hw _ (List.mem_of_getElem? (i := 20) rfl))) (by decide) (t := .byte) (t' := (.array .byte)) (by decide) (by decide)))
  have V_db := V_db.other W6 ne_a_db.symm
  have K := K.wr W6 (Or.inl (by simp))
  have Ksz := K.1
  have Z0 := Nat.le_trans Z0 (Keep.of_wr W6).1
  show G T6 (mkF m 57 #[.val (.ref a), .val (.ref cb), .val (.int (0 : Int32)), .val (.int (2 : Int32)), .val .null, .val (.ref db)] [])
  exact rRetV fin hJ X6 hx (by decide) (by decide) hret (hb hby d3_57) (fun vm' hj => ⟨rfl, K, E_a, ⟨db, _, _, F_value_a, V_db⟩, hj⟩)
set_option maxRecDepth 65536 in
set_option maxHeartbeats 40000000 in
theorem i1_2 (l : Launch) (Z : State) (a0 : Array Value) (hw : ∀ d ∈ tables_1, d.before a0 Z = true) (ws : List Jvm.Cond) (J : Vm → Prop) (hJ : Stb J) (a cb : Addr) (x0 x1 : Int32) (kc : ClassId) (h0 : Heap) (n0 : Nat) (Z0 : n0 ≤ h0.size) (O : Old Z n0 h0) (cw : Int32) (S0 : Sta Z Z.heap "java/lang/String" "COMPACT_STRINGS" "Z" (.int cw)) (hcw : ¬ (cw = (0 : Int32))) (E_a : Exa Z h0 a "java/lang/String") (g_a : n0 ≤ a) (F_value_a : Fld Z h0 a "java/lang/String" "value" "[B" .null) (F_coder_a : Fld Z h0 a "java/lang/String" "coder" "B" (.int (0 : Int32))) (V_cb : Arv Z h0 cb kc .char (2 : Int32) [(.int x0), (.int x1)] (.int (0 : Int32))) (hx0 : ¬ ((255 : Int32) < x0)) (hx1 : ¬ ((255 : Int32) < x1)) :
    Con l Z (⟨"java/lang/String", "<init>", "([C)V"⟩ : MethodName) jdk_42_method_3_code 2 none ws ({ frames := 3, cells := 1, slots := 2, locals := 52 } : Room) #[(.ref a), (.ref cb)] h0 n0 J (fun v h vm => v = none ∧ Keep h0 h [a] ∧ Exa Z h a "java/lang/String" ∧ (∃ (b : Addr) (k : ClassId) (vs : List Value), Fld Z h a "java/lang/String" "value" "[B" (.ref b) ∧ Arv Z h b k .byte (2 : Int32) vs (.int (0 : Int32))) ∧ J vm) := by
  refine Con.of pn_2 ?_
  intro G p e s m below meth c s₁ hs hx hby hml hown hnm hret hZ X0 XR hh0 hJ0 fin
  have hml : c.maxLocals = 2 := hml
  have hown : s.vm.findClass "java/lang/String" = some m.cls := hown
  rw [ef_2]
  have K := Keep.refl h0 ([a] : List Addr)
  have Ksz := K.1
  show G s₁ (mkF m 0 #[.val (.ref a), .val (.ref cb)] [])
  refine hs.go (fun _ kk_ => XS.aloadN X0.here hx rfl (hb hby d2_0) rfl rfl kk_) ?_
  show G s₁ (mkF m 1 #[.val (.ref a), .val (.ref cb)] [(.ref a)])
  refine hs.go (fun _ kk_ => XS.aloadN X0.here hx rfl (hb hby d2_1) rfl rfl kk_) ?_
  show G s₁ (mkF m 2 #[.val (.ref a), .val (.ref cb)] [(.ref cb), (.ref a)])
  refine hs.go (fun _ kk_ => XS.iconst X0.here hx rfl (hb hby d2_2) kk_) ?_
  show G s₁ (mkF m 3 #[.val (.ref a), .val (.ref cb)] [(.int (0 : Int32)), (.ref cb), (.ref a)])
  refine hs.go (fun _ kk_ => XS.aloadN X0.here hx rfl (hb hby d2_3) rfl rfl kk_) ?_
  show G s₁ (mkF m 4 #[.val (.ref a), .val (.ref cb)] [(.ref cb), (.int (0 : Int32)), (.ref cb), (.ref a)])
  refine rLen hs X0 hx hZ V_cb rfl rfl (hb hby d2_4) ?_
  show G s₁ (mkF m 5 #[.val (.ref a), .val (.ref cb)] [(.int (2 : Int32)), (.int (0 : Int32)), (.ref cb), (.ref a)])
  refine hs.go (fun _ kk_ => XS.aconstNull X0.here hx rfl (hb hby d2_5) kk_) ?_
  show G s₁ (mkF m 6 #[.val (.ref a), .val (.ref cb)] [.null, (.int (2 : Int32)), (.int (0 : Int32)), (.ref cb), (.ref a)])
  refine rCallI hs X0 hx hZ (as' := [(.ref cb), (.int (0 : Int32)), (.int (2 : Int32)), .null]) hJ (i4_2 l Z a0 hw [] (J) hJ a cb x0 x1 kc h0 n0 Z0 O cw S0 hcw E_a g_a F_value_a F_coder_a V_cb hx0 hx1) rfl hown (hw _ (List.mem_of_getElem? (i := 11) rfl)) (hw _ (List.mem_of_getElem? (i := 12) rfl)) (hw _ (List.mem_of_getElem? (i := 6) rfl)) (hw _ (List.mem_of_getElem? (i := 14) rfl)) hy_3 rfl (by rw [hml]; rfl) [] (lenOf pd_3 rfl) rfl 0 (by show 2 * 0 + _ ≤ _; exact Nat.le_of_eq rfl) (hb hby d2_6) (by decide) (by decide) (by decide) (by decide) (fun r1 T1 h1 vm1 X1 q1 => ?_)
  obtain ⟨rfl, Kc1, E_a, ⟨vb, kv, vv, F_value_a, V_vb⟩, hj1⟩ := q1
  have X1 := X1 _ hj1
  have O := O.keep Kc1 (allS g_a all0)
  have K := K.trans Kc1 (fun x hx => Or.inl hx)
  have Ksz := K.1
  have Z0 := Nat.le_trans Z0 Kc1.1
  show G T1 (mkF m 9 #[.val (.ref a), .val (.ref cb)] [])
  exact rRetV fin hJ X1 hx (by decide) (by decide) hret (hb hby d2_9) (fun vm' hj => ⟨rfl, K, E_a, ⟨vb, kv, vv, F_value_a, V_vb⟩, hj⟩)
set_option maxRecDepth 65536 in
set_option maxHeartbeats 40000000 in
theorem c5_3 (l : Launch) (Z : State) (a0 : Array Value) (hw : ∀ d ∈ tables_1, d.before a0 Z = true) (ws : List Jvm.Cond) (J : Vm → Prop) (hJ : Stb J) (cb db : Addr) (x0 x1 x2 : Int32) (kc kd : ClassId) (h0 : Heap) (n0 : Nat) (Z0 : n0 ≤ h0.size) (V_cb : Arv Z h0 cb kc .char (3 : Int32) [(.int x0), (.int x1), (.int x2)] (.int (0 : Int32))) (V_db : Arv Z h0 db kd .byte (3 : Int32) [(.int (0 : Int32)), (.int (0 : Int32)), (.int (0 : Int32))] (.int (0 : Int32))) (g_db : n0 ≤ db) (hx0 : ¬ ((255 : Int32) < x0)) (hx1 : ¬ ((255 : Int32) < x1)) (hx2 : ¬ ((255 : Int32) < x2)) :
    Con l Z (⟨"java/lang/StringUTF16", "compress", "([CI[BII)I"⟩ : MethodName) jdk_52_method_21_code 7 (some .int) ws ({ frames := 0, cells := 0, slots := 0, locals := 0 } : Room) #[(.ref cb), (.int (0 : Int32)), (.ref db), (.int (0 : Int32)), (.int (3 : Int32))] h0 n0 J (fun v h vm => v = some (.int (3 : Int32)) ∧ Keep h0 h [db] ∧ Arv Z h db kd .byte (3 : Int32) [(.int (x0.toInt8.toInt32)), (.int (x1.toInt8.toInt32)), (.int (x2.toInt8.toInt32))] (.int (0 : Int32)) ∧ J vm) := by
  refine Con.of pn_6 ?_
  intro G p e s m below meth c s₁ hs hx hby hml hown hnm hret hZ X0 XR hh0 hJ0 fin
  have hml : c.maxLocals = 7 := hml
  have hown : s.vm.findClass "java/lang/StringUTF16" = some m.cls := hown
  rw [ef_6]
  have K := Keep.refl h0 ([db] : List Addr)
  have Ksz := K.1
  have hne : cb ≠ db := fun q => by subst q; exact own_cb V_cb V_db
  show G s₁ (mkF m 0 #[.val (.ref cb), .val (.int (0 : Int32)), .val (.ref db), .val (.int (0 : Int32)), .val (.int (3 : Int32)), .unset, .unset] [])
  refine hs.go (fun _ kk_ => XS.iconst X0.here hx rfl (hb hby d6_0) kk_) ?_
  show G s₁ (mkF m 1 #[.val (.ref cb), .val (.int (0 : Int32)), .val (.ref db), .val (.int (0 : Int32)), .val (.int (3 : Int32)), .unset, .unset] [(.int (0 : Int32))])
  refine hs.go (fun _ kk_ => XS.istore X0.here hx rfl (hb hby d6_1) rfl (l' := #[.val (.ref cb), .val (.int (0 : Int32)), .val (.ref db), .val (.int (0 : Int32)), .val (.int (3 : Int32)), .val (.int (0 : Int32)), .unset]) rfl kk_) ?_
  show G s₁ (mkF m 3 #[.val (.ref cb), .val (.int (0 : Int32)), .val (.ref db), .val (.int (0 : Int32)), .val (.int (3 : Int32)), .val (.int (0 : Int32)), .unset] [])
  refine hs.go (fun _ kk_ => XS.iload X0.here hx rfl (hb hby d6_3) rfl  kk_) ?_
  show G s₁ (mkF m 5 #[.val (.ref cb), .val (.int (0 : Int32)), .val (.ref db), .val (.int (0 : Int32)), .val (.int (3 : Int32)), .val (.int (0 : Int32)), .unset] [(.int (0 : Int32))])
  refine hs.go (fun _ kk_ => XS.iload X0.here hx rfl (hb hby d6_5) rfl  kk_) ?_
  show G s₁ (mkF m 7 #[.val (.ref cb), .val (.int (0 : Int32)), .val (.ref db), .val (.int (0 : Int32)), .val (.int (3 : Int32)), .val (.int (0 : Int32)), .unset] [(.int (3 : Int32)), (.int (0 : Int32))])
  refine hs.go (fun _ kk_ => XS.icmpNo X0.here hx rfl (hb hby d6_7) rfl (tlt ((by decide) : (0 : Int32) < (3 : Int32))).2.1 kk_) ?_
  show G s₁ (mkF m 10 #[.val (.ref cb), .val (.int (0 : Int32)), .val (.ref db), .val (.int (0 : Int32)), .val (.int (3 : Int32)), .val (.int (0 : Int32)), .unset] [])
  refine hs.go (fun _ kk_ => XS.aloadN X0.here hx rfl (hb hby d6_10) rfl rfl kk_) ?_
  show G s₁ (mkF m 11 #[.val (.ref cb), .val (.int (0 : Int32)), .val (.ref db), .val (.int (0 : Int32)), .val (.int (3 : Int32)), .val (.int (0 : Int32)), .unset] [(.ref cb)])
  refine hs.go (fun _ kk_ => XS.iloadN X0.here hx rfl (hb hby d6_11) rfl  kk_) ?_
  show G s₁ (mkF m 12 #[.val (.ref cb), .val (.int (0 : Int32)), .val (.ref db), .val (.int (0 : Int32)), .val (.int (3 : Int32)), .val (.int (0 : Int32)), .unset] [(.int (0 : Int32)), (.ref cb)])
  refine rLdC hs X0 hx hZ V_cb ⟨by decide, by decide⟩ (v := (.int x0)) rfl rfl rfl (hb hby d6_12) ?_
  show G s₁ (mkF m 13 #[.val (.ref cb), .val (.int (0 : Int32)), .val (.ref db), .val (.int (0 : Int32)), .val (.int (3 : Int32)), .val (.int (0 : Int32)), .unset] [(.int x0)])
  refine hs.go (fun _ kk_ => XS.istore X0.here hx rfl (hb hby d6_13) rfl (l' := #[.val (.ref cb), .val (.int (0 : Int32)), .val (.ref db), .val (.int (0 : Int32)), .val (.int (3 : Int32)), .val (.int (0 : Int32)), .val (.int x0)]) rfl kk_) ?_
  show G s₁ (mkF m 15 #[.val (.ref cb), .val (.int (0 : Int32)), .val (.ref db), .val (.int (0 : Int32)), .val (.int (3 : Int32)), .val (.int (0 : Int32)), .val (.int x0)] [])
  refine hs.go (fun _ kk_ => XS.iload X0.here hx rfl (hb hby d6_15) rfl  kk_) ?_
  show G s₁ (mkF m 17 #[.val (.ref cb), .val (.int (0 : Int32)), .val (.ref db), .val (.int (0 : Int32)), .val (.int (3 : Int32)), .val (.int (0 : Int32)), .val (.int x0)] [(.int x0)])
  refine hs.go (fun _ kk_ => XS.sipush X0.here hx rfl (hb hby d6_17) kk_) ?_
  show G s₁ (mkF m 20 #[.val (.ref cb), .val (.int (0 : Int32)), .val (.ref db), .val (.int (0 : Int32)), .val (.int (3 : Int32)), .val (.int (0 : Int32)), .val (.int x0)] [(.int (255 : Int32)), (.int x0)])
  refine hs.go (fun _ kk_ => XS.icmpYes X0.here hx rfl (pc0 := 20) (pc' := 26) rfl (hb hby d6_20) rfl (flt (hx0 : ¬ ((255 : Int32) < x0))).2.2.2 (by decide) (by decide) kk_) ?_
  show G s₁ (mkF m 26 #[.val (.ref cb), .val (.int (0 : Int32)), .val (.ref db), .val (.int (0 : Int32)), .val (.int (3 : Int32)), .val (.int (0 : Int32)), .val (.int x0)] [])
  refine hs.go (fun _ kk_ => XS.aloadN X0.here hx rfl (hb hby d6_26) rfl rfl kk_) ?_
  show G s₁ (mkF m 27 #[.val (.ref cb), .val (.int (0 : Int32)), .val (.ref db), .val (.int (0 : Int32)), .val (.int (3 : Int32)), .val (.int (0 : Int32)), .val (.int x0)] [(.ref db)])
  refine hs.go (fun _ kk_ => XS.iloadN X0.here hx rfl (hb hby d6_27) rfl  kk_) ?_
  show G s₁ (mkF m 28 #[.val (.ref cb), .val (.int (0 : Int32)), .val (.ref db), .val (.int (0 : Int32)), .val (.int (3 : Int32)), .val (.int (0 : Int32)), .val (.int x0)] [(.int (0 : Int32)), (.ref db)])
  refine hs.go (fun _ kk_ => XS.iload X0.here hx rfl (hb hby d6_28) rfl  kk_) ?_
  show G s₁ (mkF m 30 #[.val (.ref cb), .val (.int (0 : Int32)), .val (.ref db), .val (.int (0 : Int32)), .val (.int (3 : Int32)), .val (.int (0 : Int32)), .val (.int x0)] [(.int x0), (.int (0 : Int32)), (.ref db)])
  refine hs.go (fun _ kk_ => XS.i2b X0.here hx rfl (hb hby d6_30) rfl kk_) ?_
  show G s₁ (mkF m 31 #[.val (.ref cb), .val (.int (0 : Int32)), .val (.ref db), .val (.int (0 : Int32)), .val (.int (3 : Int32)), .val (.int (0 : Int32)), .val (.int x0)] [(.int (x0.toInt8.toInt32)), (.int (0 : Int32)), (.ref db)])
  refine rStB hs X0 hx hZ V_db g_db ⟨by decide, by decide⟩ 0 (by decide) (by simp) (x' := (x0.toInt8.toInt32)) (nar_byte _) rfl rfl (hb hby d6_31) (fun T1 h1 X1 W1 V_db => ?_)
  have V_db : Arv Z h1 db kd .byte (3 : Int32) [(.int (x0.toInt8.toInt32)), (.int (0 : Int32)), (.int (0 : Int32))] (.int (0 : Int32)) := V_db
  have V_cb := V_cb.other W1 hne
  have K := K.wr W1 (Or.inl (by simp))
  have Ksz := K.1
  have Z0 := Nat.le_trans Z0 (Keep.of_wr W1).1
  show G T1 (mkF m 32 #[.val (.ref cb), .val (.int (0 : Int32)), .val (.ref db), .val (.int (0 : Int32)), .val (.int (3 : Int32)), .val (.int (0 : Int32)), .val (.int x0)] [])
  refine hs.go (fun _ kk_ => XS.iinc X1.here hx rfl (hb hby d6_32) rfl (l' := #[.val (.ref cb), .val (.int (1 : Int32)), .val (.ref db), .val (.int (0 : Int32)), .val (.int (3 : Int32)), .val (.int (0 : Int32)), .val (.int x0)]) rfl kk_) ?_
  show G T1 (mkF m 35 #[.val (.ref cb), .val (.int (1 : Int32)), .val (.ref db), .val (.int (0 : Int32)), .val (.int (3 : Int32)), .val (.int (0 : Int32)), .val (.int x0)] [])
  refine hs.go (fun _ kk_ => XS.iinc X1.here hx rfl (hb hby d6_35) rfl (l' := #[.val (.ref cb), .val (.int (1 : Int32)), .val (.ref db), .val (.int (1 : Int32)), .val (.int (3 : Int32)), .val (.int (0 : Int32)), .val (.int x0)]) rfl kk_) ?_
  show G T1 (mkF m 38 #[.val (.ref cb), .val (.int (1 : Int32)), .val (.ref db), .val (.int (1 : Int32)), .val (.int (3 : Int32)), .val (.int (0 : Int32)), .val (.int x0)] [])
  refine hs.go (fun _ kk_ => XS.iinc X1.here hx rfl (hb hby d6_38) rfl (l' := #[.val (.ref cb), .val (.int (1 : Int32)), .val (.ref db), .val (.int (1 : Int32)), .val (.int (3 : Int32)), .val (.int (1 : Int32)), .val (.int x0)]) rfl kk_) ?_
  show G T1 (mkF m 41 #[.val (.ref cb), .val (.int (1 : Int32)), .val (.ref db), .val (.int (1 : Int32)), .val (.int (3 : Int32)), .val (.int (1 : Int32)), .val (.int x0)] [])
  refine hs.go (fun _ kk_ => XS.goto X1.here hx rfl (pc0 := 41) (pc' := 3) rfl (hb hby d6_41) (by decide) (by decide) kk_) ?_
  show G T1 (mkF m 3 #[.val (.ref cb), .val (.int (1 : Int32)), .val (.ref db), .val (.int (1 : Int32)), .val (.int (3 : Int32)), .val (.int (1 : Int32)), .val (.int x0)] [])
  refine hs.go (fun _ kk_ => XS.iload X1.here hx rfl (hb hby d6_3) rfl  kk_) ?_
  show G T1 (mkF m 5 #[.val (.ref cb), .val (.int (1 : Int32)), .val (.ref db), .val (.int (1 : Int32)), .val (.int (3 : Int32)), .val (.int (1 : Int32)), .val (.int x0)] [(.int (1 : Int32))])
  refine hs.go (fun _ kk_ => XS.iload X1.here hx rfl (hb hby d6_5) rfl  kk_) ?_
  show G T1 (mkF m 7 #[.val (.ref cb), .val (.int (1 : Int32)), .val (.ref db), .val (.int (1 : Int32)), .val (.int (3 : Int32)), .val (.int (1 : Int32)), .val (.int x0)] [(.int (3 : Int32)), (.int (1 : Int32))])
  refine hs.go (fun _ kk_ => XS.icmpNo X1.here hx rfl (hb hby d6_7) rfl (tlt ((by decide) : (1 : Int32) < (3 : Int32))).2.1 kk_) ?_
  show G T1 (mkF m 10 #[.val (.ref cb), .val (.int (1 : Int32)), .val (.ref db), .val (.int (1 : Int32)), .val (.int (3 : Int32)), .val (.int (1 : Int32)), .val (.int x0)] [])
  refine hs.go (fun _ kk_ => XS.aloadN X1.here hx rfl (hb hby d6_10) rfl rfl kk_) ?_
  show G T1 (mkF m 11 #[.val (.ref cb), .val (.int (1 : Int32)), .val (.ref db), .val (.int (1 : Int32)), .val (.int (3 : Int32)), .val (.int (1 : Int32)), .val (.int x0)] [(.ref cb)])
  refine hs.go (fun _ kk_ => XS.iloadN X1.here hx rfl (hb hby d6_11) rfl  kk_) ?_
  show G T1 (mkF m 12 #[.val (.ref cb), .val (.int (1 : Int32)), .val (.ref db), .val (.int (1 : Int32)), .val (.int (3 : Int32)), .val (.int (1 : Int32)), .val (.int x0)] [(.int (1 : Int32)), (.ref cb)])
  refine rLdC hs X1 hx hZ V_cb ⟨by decide, by decide⟩ (v := (.int x1)) rfl rfl rfl (hb hby d6_12) ?_
  show G T1 (mkF m 13 #[.val (.ref cb), .val (.int (1 : Int32)), .val (.ref db), .val (.int (1 : Int32)), .val (.int (3 : Int32)), .val (.int (1 : Int32)), .val (.int x0)] [(.int x1)])
  refine hs.go (fun _ kk_ => XS.istore X1.here hx rfl (hb hby d6_13) rfl (l' := #[.val (.ref cb), .val (.int (1 : Int32)), .val (.ref db), .val (.int (1 : Int32)), .val (.int (3 : Int32)), .val (.int (1 : Int32)), .val (.int x1)]) rfl kk_) ?_
  show G T1 (mkF m 15 #[.val (.ref cb), .val (.int (1 : Int32)), .val (.ref db), .val (.int (1 : Int32)), .val (.int (3 : Int32)), .val (.int (1 : Int32)), .val (.int x1)] [])
  refine hs.go (fun _ kk_ => XS.iload X1.here hx rfl (hb hby d6_15) rfl  kk_) ?_
  show G T1 (mkF m 17 #[.val (.ref cb), .val (.int (1 : Int32)), .val (.ref db), .val (.int (1 : Int32)), .val (.int (3 : Int32)), .val (.int (1 : Int32)), .val (.int x1)] [(.int x1)])
  refine hs.go (fun _ kk_ => XS.sipush X1.here hx rfl (hb hby d6_17) kk_) ?_
  show G T1 (mkF m 20 #[.val (.ref cb), .val (.int (1 : Int32)), .val (.ref db), .val (.int (1 : Int32)), .val (.int (3 : Int32)), .val (.int (1 : Int32)), .val (.int x1)] [(.int (255 : Int32)), (.int x1)])
  refine hs.go (fun _ kk_ => XS.icmpYes X1.here hx rfl (pc0 := 20) (pc' := 26) rfl (hb hby d6_20) rfl (flt (hx1 : ¬ ((255 : Int32) < x1))).2.2.2 (by decide) (by decide) kk_) ?_
  show G T1 (mkF m 26 #[.val (.ref cb), .val (.int (1 : Int32)), .val (.ref db), .val (.int (1 : Int32)), .val (.int (3 : Int32)), .val (.int (1 : Int32)), .val (.int x1)] [])
  refine hs.go (fun _ kk_ => XS.aloadN X1.here hx rfl (hb hby d6_26) rfl rfl kk_) ?_
  show G T1 (mkF m 27 #[.val (.ref cb), .val (.int (1 : Int32)), .val (.ref db), .val (.int (1 : Int32)), .val (.int (3 : Int32)), .val (.int (1 : Int32)), .val (.int x1)] [(.ref db)])
  refine hs.go (fun _ kk_ => XS.iloadN X1.here hx rfl (hb hby d6_27) rfl  kk_) ?_
  show G T1 (mkF m 28 #[.val (.ref cb), .val (.int (1 : Int32)), .val (.ref db), .val (.int (1 : Int32)), .val (.int (3 : Int32)), .val (.int (1 : Int32)), .val (.int x1)] [(.int (1 : Int32)), (.ref db)])
  refine hs.go (fun _ kk_ => XS.iload X1.here hx rfl (hb hby d6_28) rfl  kk_) ?_
  show G T1 (mkF m 30 #[.val (.ref cb), .val (.int (1 : Int32)), .val (.ref db), .val (.int (1 : Int32)), .val (.int (3 : Int32)), .val (.int (1 : Int32)), .val (.int x1)] [(.int x1), (.int (1 : Int32)), (.ref db)])
  refine hs.go (fun _ kk_ => XS.i2b X1.here hx rfl (hb hby d6_30) rfl kk_) ?_
  show G T1 (mkF m 31 #[.val (.ref cb), .val (.int (1 : Int32)), .val (.ref db), .val (.int (1 : Int32)), .val (.int (3 : Int32)), .val (.int (1 : Int32)), .val (.int x1)] [(.int (x1.toInt8.toInt32)), (.int (1 : Int32)), (.ref db)])
  refine rStB hs X1 hx hZ V_db g_db ⟨by decide, by decide⟩ 1 (by decide) (by simp) (x' := (x1.toInt8.toInt32)) (nar_byte _) rfl rfl (hb hby d6_31) (fun T2 h2 X2 W2 V_db => ?_)
  have V_db : Arv Z h2 db kd .byte (3 : Int32) [(.int (x0.toInt8.toInt32)), (.int (x1.toInt8.toInt32)), (.int (0 : Int32))] (.int (0 : Int32)) := V_db
  have V_cb := V_cb.other W2 hne
  have K := K.wr W2 (Or.inl (by simp))
  have Ksz := K.1
  have Z0 := Nat.le_trans Z0 (Keep.of_wr W2).1
  show G T2 (mkF m 32 #[.val (.ref cb), .val (.int (1 : Int32)), .val (.ref db), .val (.int (1 : Int32)), .val (.int (3 : Int32)), .val (.int (1 : Int32)), .val (.int x1)] [])
  refine hs.go (fun _ kk_ => XS.iinc X2.here hx rfl (hb hby d6_32) rfl (l' := #[.val (.ref cb), .val (.int (2 : Int32)), .val (.ref db), .val (.int (1 : Int32)), .val (.int (3 : Int32)), .val (.int (1 : Int32)), .val (.int x1)]) rfl kk_) ?_
  show G T2 (mkF m 35 #[.val (.ref cb), .val (.int (2 : Int32)), .val (.ref db), .val (.int (1 : Int32)), .val (.int (3 : Int32)), .val (.int (1 : Int32)), .val (.int x1)] [])
  refine hs.go (fun _ kk_ => XS.iinc X2.here hx rfl (hb hby d6_35) rfl (l' := #[.val (.ref cb), .val (.int (2 : Int32)), .val (.ref db), .val (.int (2 : Int32)), .val (.int (3 : Int32)), .val (.int (1 : Int32)), .val (.int x1)]) rfl kk_) ?_
  show G T2 (mkF m 38 #[.val (.ref cb), .val (.int (2 : Int32)), .val (.ref db), .val (.int (2 : Int32)), .val (.int (3 : Int32)), .val (.int (1 : Int32)), .val (.int x1)] [])
  refine hs.go (fun _ kk_ => XS.iinc X2.here hx rfl (hb hby d6_38) rfl (l' := #[.val (.ref cb), .val (.int (2 : Int32)), .val (.ref db), .val (.int (2 : Int32)), .val (.int (3 : Int32)), .val (.int (2 : Int32)), .val (.int x1)]) rfl kk_) ?_
  show G T2 (mkF m 41 #[.val (.ref cb), .val (.int (2 : Int32)), .val (.ref db), .val (.int (2 : Int32)), .val (.int (3 : Int32)), .val (.int (2 : Int32)), .val (.int x1)] [])
  refine hs.go (fun _ kk_ => XS.goto X2.here hx rfl (pc0 := 41) (pc' := 3) rfl (hb hby d6_41) (by decide) (by decide) kk_) ?_
  show G T2 (mkF m 3 #[.val (.ref cb), .val (.int (2 : Int32)), .val (.ref db), .val (.int (2 : Int32)), .val (.int (3 : Int32)), .val (.int (2 : Int32)), .val (.int x1)] [])
  refine hs.go (fun _ kk_ => XS.iload X2.here hx rfl (hb hby d6_3) rfl  kk_) ?_
  show G T2 (mkF m 5 #[.val (.ref cb), .val (.int (2 : Int32)), .val (.ref db), .val (.int (2 : Int32)), .val (.int (3 : Int32)), .val (.int (2 : Int32)), .val (.int x1)] [(.int (2 : Int32))])
  refine hs.go (fun _ kk_ => XS.iload X2.here hx rfl (hb hby d6_5) rfl  kk_) ?_
  show G T2 (mkF m 7 #[.val (.ref cb), .val (.int (2 : Int32)), .val (.ref db), .val (.int (2 : Int32)), .val (.int (3 : Int32)), .val (.int (2 : Int32)), .val (.int x1)] [(.int (3 : Int32)), (.int (2 : Int32))])
  refine hs.go (fun _ kk_ => XS.icmpNo X2.here hx rfl (hb hby d6_7) rfl (tlt ((by decide) : (2 : Int32) < (3 : Int32))).2.1 kk_) ?_
  show G T2 (mkF m 10 #[.val (.ref cb), .val (.int (2 : Int32)), .val (.ref db), .val (.int (2 : Int32)), .val (.int (3 : Int32)), .val (.int (2 : Int32)), .val (.int x1)] [])
  refine hs.go (fun _ kk_ => XS.aloadN X2.here hx rfl (hb hby d6_10) rfl rfl kk_) ?_
  show G T2 (mkF m 11 #[.val (.ref cb), .val (.int (2 : Int32)), .val (.ref db), .val (.int (2 : Int32)), .val (.int (3 : Int32)), .val (.int (2 : Int32)), .val (.int x1)] [(.ref cb)])
  refine hs.go (fun _ kk_ => XS.iloadN X2.here hx rfl (hb hby d6_11) rfl  kk_) ?_
  show G T2 (mkF m 12 #[.val (.ref cb), .val (.int (2 : Int32)), .val (.ref db), .val (.int (2 : Int32)), .val (.int (3 : Int32)), .val (.int (2 : Int32)), .val (.int x1)] [(.int (2 : Int32)), (.ref cb)])
  refine rLdC hs X2 hx hZ V_cb ⟨by decide, by decide⟩ (v := (.int x2)) rfl rfl rfl (hb hby d6_12) ?_
  show G T2 (mkF m 13 #[.val (.ref cb), .val (.int (2 : Int32)), .val (.ref db), .val (.int (2 : Int32)), .val (.int (3 : Int32)), .val (.int (2 : Int32)), .val (.int x1)] [(.int x2)])
  refine hs.go (fun _ kk_ => XS.istore X2.here hx rfl (hb hby d6_13) rfl (l' := #[.val (.ref cb), .val (.int (2 : Int32)), .val (.ref db), .val (.int (2 : Int32)), .val (.int (3 : Int32)), .val (.int (2 : Int32)), .val (.int x2)]) rfl kk_) ?_
  show G T2 (mkF m 15 #[.val (.ref cb), .val (.int (2 : Int32)), .val (.ref db), .val (.int (2 : Int32)), .val (.int (3 : Int32)), .val (.int (2 : Int32)), .val (.int x2)] [])
  refine hs.go (fun _ kk_ => XS.iload X2.here hx rfl (hb hby d6_15) rfl  kk_) ?_
  show G T2 (mkF m 17 #[.val (.ref cb), .val (.int (2 : Int32)), .val (.ref db), .val (.int (2 : Int32)), .val (.int (3 : Int32)), .val (.int (2 : Int32)), .val (.int x2)] [(.int x2)])
  refine hs.go (fun _ kk_ => XS.sipush X2.here hx rfl (hb hby d6_17) kk_) ?_
  show G T2 (mkF m 20 #[.val (.ref cb), .val (.int (2 : Int32)), .val (.ref db), .val (.int (2 : Int32)), .val (.int (3 : Int32)), .val (.int (2 : Int32)), .val (.int x2)] [(.int (255 : Int32)), (.int x2)])
  refine hs.go (fun _ kk_ => XS.icmpYes X2.here hx rfl (pc0 := 20) (pc' := 26) rfl (hb hby d6_20) rfl (flt (hx2 : ¬ ((255 : Int32) < x2))).2.2.2 (by decide) (by decide) kk_) ?_
  show G T2 (mkF m 26 #[.val (.ref cb), .val (.int (2 : Int32)), .val (.ref db), .val (.int (2 : Int32)), .val (.int (3 : Int32)), .val (.int (2 : Int32)), .val (.int x2)] [])
  refine hs.go (fun _ kk_ => XS.aloadN X2.here hx rfl (hb hby d6_26) rfl rfl kk_) ?_
  show G T2 (mkF m 27 #[.val (.ref cb), .val (.int (2 : Int32)), .val (.ref db), .val (.int (2 : Int32)), .val (.int (3 : Int32)), .val (.int (2 : Int32)), .val (.int x2)] [(.ref db)])
  refine hs.go (fun _ kk_ => XS.iloadN X2.here hx rfl (hb hby d6_27) rfl  kk_) ?_
  show G T2 (mkF m 28 #[.val (.ref cb), .val (.int (2 : Int32)), .val (.ref db), .val (.int (2 : Int32)), .val (.int (3 : Int32)), .val (.int (2 : Int32)), .val (.int x2)] [(.int (2 : Int32)), (.ref db)])
  refine hs.go (fun _ kk_ => XS.iload X2.here hx rfl (hb hby d6_28) rfl  kk_) ?_
  show G T2 (mkF m 30 #[.val (.ref cb), .val (.int (2 : Int32)), .val (.ref db), .val (.int (2 : Int32)), .val (.int (3 : Int32)), .val (.int (2 : Int32)), .val (.int x2)] [(.int x2), (.int (2 : Int32)), (.ref db)])
  refine hs.go (fun _ kk_ => XS.i2b X2.here hx rfl (hb hby d6_30) rfl kk_) ?_
  show G T2 (mkF m 31 #[.val (.ref cb), .val (.int (2 : Int32)), .val (.ref db), .val (.int (2 : Int32)), .val (.int (3 : Int32)), .val (.int (2 : Int32)), .val (.int x2)] [(.int (x2.toInt8.toInt32)), (.int (2 : Int32)), (.ref db)])
  refine rStB hs X2 hx hZ V_db g_db ⟨by decide, by decide⟩ 2 (by decide) (by simp) (x' := (x2.toInt8.toInt32)) (nar_byte _) rfl rfl (hb hby d6_31) (fun T3 h3 X3 W3 V_db => ?_)
  have V_db : Arv Z h3 db kd .byte (3 : Int32) [(.int (x0.toInt8.toInt32)), (.int (x1.toInt8.toInt32)), (.int (x2.toInt8.toInt32))] (.int (0 : Int32)) := V_db
  have V_cb := V_cb.other W3 hne
  have K := K.wr W3 (Or.inl (by simp))
  have Ksz := K.1
  have Z0 := Nat.le_trans Z0 (Keep.of_wr W3).1
  show G T3 (mkF m 32 #[.val (.ref cb), .val (.int (2 : Int32)), .val (.ref db), .val (.int (2 : Int32)), .val (.int (3 : Int32)), .val (.int (2 : Int32)), .val (.int x2)] [])
  refine hs.go (fun _ kk_ => XS.iinc X3.here hx rfl (hb hby d6_32) rfl (l' := #[.val (.ref cb), .val (.int (3 : Int32)), .val (.ref db), .val (.int (2 : Int32)), .val (.int (3 : Int32)), .val (.int (2 : Int32)), .val (.int x2)]) rfl kk_) ?_
  show G T3 (mkF m 35 #[.val (.ref cb), .val (.int (3 : Int32)), .val (.ref db), .val (.int (2 : Int32)), .val (.int (3 : Int32)), .val (.int (2 : Int32)), .val (.int x2)] [])
  refine hs.go (fun _ kk_ => XS.iinc X3.here hx rfl (hb hby d6_35) rfl (l' := #[.val (.ref cb), .val (.int (3 : Int32)), .val (.ref db), .val (.int (3 : Int32)), .val (.int (3 : Int32)), .val (.int (2 : Int32)), .val (.int x2)]) rfl kk_) ?_
  show G T3 (mkF m 38 #[.val (.ref cb), .val (.int (3 : Int32)), .val (.ref db), .val (.int (3 : Int32)), .val (.int (3 : Int32)), .val (.int (2 : Int32)), .val (.int x2)] [])
  refine hs.go (fun _ kk_ => XS.iinc X3.here hx rfl (hb hby d6_38) rfl (l' := #[.val (.ref cb), .val (.int (3 : Int32)), .val (.ref db), .val (.int (3 : Int32)), .val (.int (3 : Int32)), .val (.int (3 : Int32)), .val (.int x2)]) rfl kk_) ?_
  show G T3 (mkF m 41 #[.val (.ref cb), .val (.int (3 : Int32)), .val (.ref db), .val (.int (3 : Int32)), .val (.int (3 : Int32)), .val (.int (3 : Int32)), .val (.int x2)] [])
  refine hs.go (fun _ kk_ => XS.goto X3.here hx rfl (pc0 := 41) (pc' := 3) rfl (hb hby d6_41) (by decide) (by decide) kk_) ?_
  show G T3 (mkF m 3 #[.val (.ref cb), .val (.int (3 : Int32)), .val (.ref db), .val (.int (3 : Int32)), .val (.int (3 : Int32)), .val (.int (3 : Int32)), .val (.int x2)] [])
  refine hs.go (fun _ kk_ => XS.iload X3.here hx rfl (hb hby d6_3) rfl  kk_) ?_
  show G T3 (mkF m 5 #[.val (.ref cb), .val (.int (3 : Int32)), .val (.ref db), .val (.int (3 : Int32)), .val (.int (3 : Int32)), .val (.int (3 : Int32)), .val (.int x2)] [(.int (3 : Int32))])
  refine hs.go (fun _ kk_ => XS.iload X3.here hx rfl (hb hby d6_5) rfl  kk_) ?_
  show G T3 (mkF m 7 #[.val (.ref cb), .val (.int (3 : Int32)), .val (.ref db), .val (.int (3 : Int32)), .val (.int (3 : Int32)), .val (.int (3 : Int32)), .val (.int x2)] [(.int (3 : Int32)), (.int (3 : Int32))])
  refine hs.go (fun _ kk_ => XS.icmpYes X3.here hx rfl (pc0 := 7) (pc' := 44) rfl (hb hby d6_7) rfl (flt ((by decide) : ¬ ((3 : Int32) < (3 : Int32)))).2.1 (by decide) (by decide) kk_) ?_
  show G T3 (mkF m 44 #[.val (.ref cb), .val (.int (3 : Int32)), .val (.ref db), .val (.int (3 : Int32)), .val (.int (3 : Int32)), .val (.int (3 : Int32)), .val (.int x2)] [])
  refine hs.go (fun _ kk_ => XS.iload X3.here hx rfl (hb hby d6_44) rfl  kk_) ?_
  show G T3 (mkF m 46 #[.val (.ref cb), .val (.int (3 : Int32)), .val (.ref db), .val (.int (3 : Int32)), .val (.int (3 : Int32)), .val (.int (3 : Int32)), .val (.int x2)] [(.int (3 : Int32))])
  exact rRetI fin hJ X3 hx (by decide) (by decide) hret (hb hby d6_46) (fun vm' hj => ⟨rfl, K, V_db, hj⟩)
set_option maxRecDepth 65536 in
set_option maxHeartbeats 40000000 in
theorem c3_3 (l : Launch) (Z : State) (a0 : Array Value) (hw : ∀ d ∈ tables_1, d.before a0 Z = true) (ws : List Jvm.Cond) (J : Vm → Prop) (hJ : Stb J) (cb : Addr) (x0 x1 x2 : Int32) (kc : ClassId) (h0 : Heap) (n0 : Nat) (Z0 : n0 ≤ h0.size) (V_cb : Arv Z h0 cb kc .char (3 : Int32) [(.int x0), (.int x1), (.int x2)] (.int (0 : Int32))) (hx0 : ¬ ((255 : Int32) < x0)) (hx1 : ¬ ((255 : Int32) < x1)) (hx2 : ¬ ((255 : Int32) < x2)) :
    Con l Z (⟨"java/lang/StringUTF16", "compress", "([CII)[B"⟩ : MethodName) jdk_52_method_16_code 6 (some (.array .byte)) ws ({ frames := 1, cells := 1, slots := 3, locals := 18 } : Room) #[(.ref cb), (.int (0 : Int32)), (.int (3 : Int32))] h0 n0 J (fun v h vm => ∃ (db : Addr) (kd : ClassId), v = some (.ref db) ∧ Keep h0 h [] ∧ Arv Z h db kd .byte (3 : Int32) [(.int (x0.toInt8.toInt32)), (.int (x1.toInt8.toInt32)), (.int (x2.toInt8.toInt32))] (.int (0 : Int32)) ∧ h0.size ≤ db ∧ J vm) := by
  refine Con.of pn_5 ?_
  intro G p e s m below meth c s₁ hs hx hby hml hown hnm hret hZ X0 XR hh0 hJ0 fin
  have hml : c.maxLocals = 6 := hml
  have hown : s.vm.findClass "java/lang/StringUTF16" = some m.cls := hown
  rw [ef_5]
  have K := Keep.refl h0 ([] : List Addr)
  have Ksz := K.1
  show G s₁ (mkF m 0 #[.val (.ref cb), .val (.int (0 : Int32)), .val (.int (3 : Int32)), .unset, .unset, .unset] [])
  refine hs.go (fun _ kk_ => XS.iloadN X0.here hx rfl (hb hby d5_0) rfl  kk_) ?_
  show G s₁ (mkF m 1 #[.val (.ref cb), .val (.int (0 : Int32)), .val (.int (3 : Int32)), .unset, .unset, .unset] [(.int (3 : Int32))])
  refine rNewP hs X0 hx hZ (hw _ (List.mem_of_getElem? (i := 19) rfl)) rfl (hb hby d5_1) rfl (by decide) 3 3 (by decide) (by decide) (by decide) (by decide) (fun T1 h1 k1 db g1 X1 E1 V_db => ?_)
  have V_db : Arv Z h1 db k1 .byte (3 : Int32) [(.int (0 : Int32)), (.int (0 : Int32)), (.int (0 : Int32))] (.int (0 : Int32)) := V_db
  have g_db : n0 ≤ db := by rw [g1]; exact Z0
  have Z0 := Nat.le_trans Z0 E1.1
  have ne_cb_db : cb ≠ db := Nat.ne_of_lt (Nat.lt_of_lt_of_le V_cb.lt (Nat.le_of_eq g1.symm))
  have V_cb := V_cb.ext E1
  have K := K.ext E1
  have sz_db : h0.size ≤ db := by rw [g1]; exact Ksz
  have Ksz := K.1
  show G T1 (mkF m 3 #[.val (.ref cb), .val (.int (0 : Int32)), .val (.int (3 : Int32)), .unset, .unset, .unset] [(.ref db)])
  refine hs.go (fun _ kk_ => XS.astoreN X1.here hx rfl (hb hby d5_3) rfl rfl (l' := #[.val (.ref cb), .val (.int (0 : Int32)), .val (.int (3 : Int32)), .val (.ref db), .unset, .unset]) rfl kk_) ?_
  show G T1 (mkF m 4 #[.val (.ref cb), .val (.int (0 : Int32)), .val (.int (3 : Int32)), .val (.ref db), .unset, .unset] [])
  refine hs.go (fun _ kk_ => XS.aloadN X1.here hx rfl (hb hby d5_4) rfl rfl kk_) ?_
  show G T1 (mkF m 5 #[.val (.ref cb), .val (.int (0 : Int32)), .val (.int (3 : Int32)), .val (.ref db), .unset, .unset] [(.ref cb)])
  refine hs.go (fun _ kk_ => XS.iloadN X1.here hx rfl (hb hby d5_5) rfl  kk_) ?_
  show G T1 (mkF m 6 #[.val (.ref cb), .val (.int (0 : Int32)), .val (.int (3 : Int32)), .val (.ref db), .unset, .unset] [(.int (0 : Int32)), (.ref cb)])
  refine hs.go (fun _ kk_ => XS.aloadN X1.here hx rfl (hb hby d5_6) rfl rfl kk_) ?_
  show G T1 (mkF m 7 #[.val (.ref cb), .val (.int (0 : Int32)), .val (.int (3 : Int32)), .val (.ref db), .unset, .unset] [(.ref db), (.int (0 : Int32)), (.ref cb)])
  refine hs.go (fun _ kk_ => XS.iconst X1.here hx rfl (hb hby d5_7) kk_) ?_
  show G T1 (mkF m 8 #[.val (.ref cb), .val (.int (0 : Int32)), .val (.int (3 : Int32)), .val (.ref db), .unset, .unset] [(.int (0 : Int32)), (.ref db), (.int (0 : Int32)), (.ref cb)])
  refine hs.go (fun _ kk_ => XS.iloadN X1.here hx rfl (hb hby d5_8) rfl  kk_) ?_
  show G T1 (mkF m 9 #[.val (.ref cb), .val (.int (0 : Int32)), .val (.int (3 : Int32)), .val (.ref db), .unset, .unset] [(.int (3 : Int32)), (.int (0 : Int32)), (.ref db), (.int (0 : Int32)), (.ref cb)])
  refine rCallS hs X1 hx hZ (as' := [(.ref cb), (.int (0 : Int32)), (.ref db), (.int (0 : Int32)), (.int (3 : Int32))]) hJ (c5_3 l Z a0 hw [] (J) hJ cb db x0 x1 x2 kc k1 h1 n0 Z0 V_cb V_db g_db hx0 hx1 hx2) hown (hw _ (List.mem_of_getElem? (i := 31) rfl)) (hw _ (List.mem_of_getElem? (i := 32) rfl)) (hw _ (List.mem_of_getElem? (i := 29) rfl)) (hw _ (List.mem_of_getElem? (i := 33) rfl)) hy_6 rfl (by rw [hml]; rfl) [] (lenOf pd_0 rfl) rfl 0 (by show 2 * 0 + _ ≤ _; exact Nat.le_of_eq rfl) (hb hby d5_9) (by decide) (by decide) (by decide) (by decide) (fun r2 T2 h2 vm2 X2 q2 => ?_)
  obtain ⟨rfl, Kc2, V_db, hj2⟩ := q2
  have X2 := X2 _ hj2
  have K := K.trans Kc2 (fun x hx => Or.inr (by cases List.mem_singleton.mp hx; exact sz_db))
  have Ksz := K.1
  have Z0 := Nat.le_trans Z0 Kc2.1
  show G T2 (mkF m 12 #[.val (.ref cb), .val (.int (0 : Int32)), .val (.int (3 : Int32)), .val (.ref db), .unset, .unset] [(.int (3 : Int32))])
  refine hs.go (fun _ kk_ => XS.istore X2.here hx rfl (hb hby d5_12) rfl (l' := #[.val (.ref cb), .val (.int (0 : Int32)), .val (.int (3 : Int32)), .val (.ref db), .val (.int (3 : Int32)), .unset]) rfl kk_) ?_
  show G T2 (mkF m 14 #[.val (.ref cb), .val (.int (0 : Int32)), .val (.int (3 : Int32)), .val (.ref db), .val (.int (3 : Int32)), .unset] [])
  refine hs.go (fun _ kk_ => XS.iload X2.here hx rfl (hb hby d5_14) rfl  kk_) ?_
  show G T2 (mkF m 16 #[.val (.ref cb), .val (.int (0 : Int32)), .val (.int (3 : Int32)), .val (.ref db), .val (.int (3 : Int32)), .unset] [(.int (3 : Int32))])
  refine hs.go (fun _ kk_ => XS.iloadN X2.here hx rfl (hb hby d5_16) rfl  kk_) ?_
  show G T2 (mkF m 17 #[.val (.ref cb), .val (.int (0 : Int32)), .val (.int (3 : Int32)), .val (.ref db), .val (.int (3 : Int32)), .unset] [(.int (3 : Int32)), (.int (3 : Int32))])
  refine hs.go (fun _ kk_ => XS.icmpYes X2.here hx rfl (pc0 := 17) (pc' := 57) rfl (hb hby d5_17) rfl (teq (rfl : (3 : Int32) = (3 : Int32))).1 (by decide) (by decide) kk_) ?_
  show G T2 (mkF m 57 #[.val (.ref cb), .val (.int (0 : Int32)), .val (.int (3 : Int32)), .val (.ref db), .val (.int (3 : Int32)), .unset] [])
  refine hs.go (fun _ kk_ => XS.aloadN X2.here hx rfl (hb hby d5_57) rfl rfl kk_) ?_
  show G T2 (mkF m 58 #[.val (.ref cb), .val (.int (0 : Int32)), .val (.int (3 : Int32)), .val (.ref db), .val (.int (3 : Int32)), .unset] [(.ref db)])
  exact rRetA fin hJ X2 hx (by decide) (by decide) hret rfl rfl rfl (hb hby d5_58) (fun vm' hj => ⟨db, _, rfl, K, V_db, sz_db, hj⟩)
set_option maxRecDepth 65536 in
set_option maxHeartbeats 40000000 in
theorem cf_3 (l : Launch) (Z : State) (a0 : Array Value) (hw : ∀ d ∈ tables_1, d.before a0 Z = true) (ws : List Jvm.Cond) (J : Vm → Prop) (hJ : Stb J) (db : Addr) (vs : List Value) (kd : ClassId) (h0 : Heap) (n0 : Nat) (Z0 : n0 ≤ h0.size) (V_db : Arv Z h0 db kd .byte (3 : Int32) vs (.int (0 : Int32))) :
    Con l Z (⟨"java/lang/StringUTF16", "coderFromArrayLen", "([BI)B"⟩ : MethodName) jdk_52_method_15_code 2 (some .byte) ws ({ frames := 0, cells := 0, slots := 0, locals := 0 } : Room) #[(.ref db), (.int (3 : Int32))] h0 n0 J (fun v h vm => v = some (.int (0 : Int32)) ∧ h = h0 ∧ J vm) := by
  refine Con.of pn_7 ?_
  intro G p e s m below meth c s₁ hs hx hby hml hown hnm hret hZ X0 XR hh0 hJ0 fin
  have hml : c.maxLocals = 2 := hml
  have hown : s.vm.findClass "java/lang/StringUTF16" = some m.cls := hown
  rw [ef_7]
  show G s₁ (mkF m 0 #[.val (.ref db), .val (.int (3 : Int32))] [])
  refine hs.go (fun _ kk_ => XS.iloadN X0.here hx rfl (hb hby d7_0) rfl  kk_) ?_
  show G s₁ (mkF m 1 #[.val (.ref db), .val (.int (3 : Int32))] [(.int (3 : Int32))])
  refine hs.go (fun _ kk_ => XS.aloadN X0.here hx rfl (hb hby d7_1) rfl rfl kk_) ?_
  show G s₁ (mkF m 2 #[.val (.ref db), .val (.int (3 : Int32))] [(.ref db), (.int (3 : Int32))])
  refine rLen hs X0 hx hZ V_db rfl rfl (hb hby d7_2) ?_
  show G s₁ (mkF m 3 #[.val (.ref db), .val (.int (3 : Int32))] [(.int (3 : Int32)), (.int (3 : Int32))])
  refine hs.go (fun _ kk_ => XS.isub X0.here hx rfl (hb hby d7_3) rfl kk_) ?_
  show G s₁ (mkF m 4 #[.val (.ref db), .val (.int (3 : Int32))] [(.int ((3 : Int32) - (3 : Int32)))])
  refine hs.go (fun _ kk_ => XS.bipush X0.here hx rfl (hb hby d7_4) kk_) ?_
  show G s₁ (mkF m 6 #[.val (.ref db), .val (.int (3 : Int32))] [(.int (31 : Int32)), (.int ((3 : Int32) - (3 : Int32)))])
  refine hs.go (fun _ kk_ => XS.iushr X0.here hx rfl (hb hby d7_6) rfl kk_) ?_
  show G s₁ (mkF m 7 #[.val (.ref db), .val (.int (3 : Int32))] [(.int ((((3 : Int32) - (3 : Int32)).toUInt32 >>> ((31 : Int32) &&& 31).toUInt32).toInt32))])
  refine hs.go (fun _ kk_ => XS.i2b X0.here hx rfl (hb hby d7_7) rfl kk_) ?_
  show G s₁ (mkF m 8 #[.val (.ref db), .val (.int (3 : Int32))] [(.int (((((3 : Int32) - (3 : Int32)).toUInt32 >>> ((31 : Int32) &&& 31).toUInt32).toInt32).toInt8.toInt32))])
  exact rRetN fin hJ X0 hx (by decide) (by decide) hret (by simp) (hb hby d7_8) (z' := (0 : Int32)) (by decide) (fun vm' hj => ⟨rfl, rfl, hj⟩)
set_option maxRecDepth 65536 in
set_option maxHeartbeats 40000000 in
theorem i4_3 (l : Launch) (Z : State) (a0 : Array Value) (hw : ∀ d ∈ tables_1, d.before a0 Z = true) (ws : List Jvm.Cond) (J : Vm → Prop) (hJ : Stb J) (a cb : Addr) (x0 x1 x2 : Int32) (kc : ClassId) (h0 : Heap) (n0 : Nat) (Z0 : n0 ≤ h0.size) (O : Old Z n0 h0) (cw : Int32) (S0 : Sta Z Z.heap "java/lang/String" "COMPACT_STRINGS" "Z" (.int cw)) (hcw : ¬ (cw = (0 : Int32))) (E_a : Exa Z h0 a "java/lang/String") (g_a : n0 ≤ a) (F_value_a : Fld Z h0 a "java/lang/String" "value" "[B" .null) (F_coder_a : Fld Z h0 a "java/lang/String" "coder" "B" (.int (0 : Int32))) (V_cb : Arv Z h0 cb kc .char (3 : Int32) [(.int x0), (.int x1), (.int x2)] (.int (0 : Int32))) (hx0 : ¬ ((255 : Int32) < x0)) (hx1 : ¬ ((255 : Int32) < x1)) (hx2 : ¬ ((255 : Int32) < x2)) :
    Con l Z (⟨"java/lang/String", "<init>", "([CIILjava/lang/Void;)V"⟩ : MethodName) jdk_42_method_149_code 6 none ws ({ frames := 2, cells := 1, slots := 3, locals := 35 } : Room) #[(.ref a), (.ref cb), (.int (0 : Int32)), (.int (3 : Int32)), .null] h0 n0 J (fun v h vm => v = none ∧ Keep h0 h [a] ∧ Exa Z h a "java/lang/String" ∧ (∃ (b : Addr) (k : ClassId) (vs : List Value), Fld Z h a "java/lang/String" "value" "[B" (.ref b) ∧ Arv Z h b k .byte (3 : Int32) vs (.int (0 : Int32))) ∧ J vm) := by
  refine Con.of pn_3 ?_
  intro G p e s m below meth c s₁ hs hx hby hml hown hnm hret hZ X0 XR hh0 hJ0 fin
  have hml : c.maxLocals = 6 := hml
  have hown : s.vm.findClass "java/lang/String" = some m.cls := hown
  rw [ef_3_xxxxn]
  have K := Keep.refl h0 ([a] : List Addr)
  have Ksz := K.1
  show G s₁ (mkF m 0 #[.val (.ref a), .val (.ref cb), .val (.int (0 : Int32)), .val (.int (3 : Int32)), .val .null, .unset] [])
  refine hs.go (fun _ kk_ => XS.aloadN X0.here hx rfl (hb hby d3_0) rfl rfl kk_) ?_
  show G s₁ (mkF m 1 #[.val (.ref a), .val (.ref cb), .val (.int (0 : Int32)), .val (.int (3 : Int32)), .val .null, .unset] [(.ref a)])
  refine rInitO hs X0 hx hZ hown (hw _ (List.mem_of_getElem? (i := 15) rfl)) (hw _ (List.mem_of_getElem? (i := 16) rfl)) (hw _ (List.mem_of_getElem? (i := 17) rfl)) rfl (by rw [hml]; rfl) rfl (hb hby d3_1) (by decide) (W := 0) (by show 2 * 0 + _ ≤ _; exact Nat.le_of_eq rfl) (by decide) (fun T1 X1 => ?_)
  show G T1 (mkF m 4 #[.val (.ref a), .val (.ref cb), .val (.int (0 : Int32)), .val (.int (3 : Int32)), .val .null, .unset] [])
  refine hs.go (fun _ kk_ => XS.iloadN X1.here hx rfl (hb hby d3_4) rfl  kk_) ?_
  show G T1 (mkF m 5 #[.val (.ref a), .val (.ref cb), .val (.int (0 : Int32)), .val (.int (3 : Int32)), .val .null, .unset] [(.int (3 : Int32))])
  refine hs.go (fun _ kk_ => XS.ifYes X1.here hx rfl (pc0 := 5) (pc' := 27) rfl (hb hby d3_5) rfl ((if0 _ _).trans (feq ((by decide) : ¬ ((3 : Int32) = (0 : Int32)))).2) (by decide) (by decide) kk_) ?_
  show G T1 (mkF m 27 #[.val (.ref a), .val (.ref cb), .val (.int (0 : Int32)), .val (.int (3 : Int32)), .val .null, .unset] [])
  refine rGetS hs X1 hx hZ hown (host := "") (Or.inl (hw _ (List.mem_of_getElem? (i := 26) rfl))) Via.refl (S0.ext O.2) rfl (hb hby d3_27) (fun T2 X2 => ?_)
  show G T2 (mkF m 30 #[.val (.ref a), .val (.ref cb), .val (.int (0 : Int32)), .val (.int (3 : Int32)), .val .null, .unset] [(.int cw)])
  refine hs.go (fun _ kk_ => XS.ifNo X2.here hx rfl (hb hby d3_30) rfl ((if0 _ _).trans (feq (hcw : ¬ (cw = (0 : Int32)))).1) kk_) ?_
  show G T2 (mkF m 33 #[.val (.ref a), .val (.ref cb), .val (.int (0 : Int32)), .val (.int (3 : Int32)), .val .null, .unset] [])
  refine hs.go (fun _ kk_ => XS.aloadN X2.here hx rfl (hb hby d3_33) rfl rfl kk_) ?_
  show G T2 (mkF m 34 #[.val (.ref a), .val (.ref cb), .val (.int (0 : Int32)), .val (.int (3 : Int32)), .val .null, .unset] [(.ref cb)])
  refine hs.go (fun _ kk_ => XS.iloadN X2.here hx rfl (hb hby d3_34) rfl  kk_) ?_
  show G T2 (mkF m 35 #[.val (.ref a), .val (.ref cb), .val (.int (0 : Int32)), .val (.int (3 : Int32)), .val .null, .unset] [(.int (0 : Int32)), (.ref cb)])
  refine hs.go (fun _ kk_ => XS.iloadN X2.here hx rfl (hb hby d3_35) rfl  kk_) ?_
  show G T2 (mkF m 36 #[.val (.ref a), .val (.ref cb), .val (.int (0 : Int32)), .val (.int (3 : Int32)), .val .null, .unset] [(.int (3 : Int32)), (.int (0 : Int32)), (.ref cb)])
  refine rCallS hs X2 hx hZ (as' := [(.ref cb), (.int (0 : Int32)), (.int (3 : Int32))]) hJ (c3_3 l Z a0 hw [] (J) hJ cb x0 x1 x2 kc h0 n0 Z0 V_cb hx0 hx1 hx2) hown (hw _ (List.mem_of_getElem? (i := 27) rfl)) (hw _ (List.mem_of_getElem? (i := 28) rfl)) (hw _ (List.mem_of_getElem? (i := 29) rfl)) (hw _ (List.mem_of_getElem? (i := 30) rfl)) hy_5 rfl (by rw [hml]; rfl) [] (lenOf pd_1 rfl) rfl 0 (by show 2 * 0 + _ ≤ _; exact Nat.le_of_eq rfl) (hb hby d3_36) (by decide) (by decide) (by decide) (by decide) (fun r3 T3 h3 vm3 X3 q3 => ?_)
  obtain ⟨db, kd, rfl, Kc3, V_db, hge, hj3⟩ := q3
  have X3 := X3 _ hj3
  have ne_a_db : a ≠ db := Nat.ne_of_lt (Nat.lt_of_lt_of_le E_a.lt hge)
  have ne_cb_db : cb ≠ db := Nat.ne_of_lt (Nat.lt_of_lt_of_le V_cb.lt hge)
  have g_db : n0 ≤ db := Nat.le_trans Z0 hge
  have O := O.keep Kc3 all0
  have E_a := E_a.keep Kc3
  have F_value_a := F_value_a.keep Kc3 nin0
  have F_coder_a := F_coder_a.keep Kc3 nin0
  have K := K.trans Kc3 (fun x hx => by simp at hx)
  have Ksz := K.1
  have Z0 := Nat.le_trans Z0 Kc3.1
  show G T3 (mkF m 39 #[.val (.ref a), .val (.ref cb), .val (.int (0 : Int32)), .val (.int (3 : Int32)), .val .null, .unset] [(.ref db)])
  refine hs.go (fun _ kk_ => XS.astore X3.here hx rfl (hb hby d3_39) rfl rfl (l' := #[.val (.ref a), .val (.ref cb), .val (.int (0 : Int32)), .val (.int (3 : Int32)), .val .null, .val (.ref db)]) rfl kk_) ?_
  show G T3 (mkF m 41 #[.val (.ref a), .val (.ref cb), .val (.int (0 : Int32)), .val (.int (3 : Int32)), .val .null, .val (.ref db)] [])
  refine hs.go (fun _ kk_ => XS.aloadN X3.here hx rfl (hb hby d3_41) rfl rfl kk_) ?_
  show G T3 (mkF m 42 #[.val (.ref a), .val (.ref cb), .val (.int (0 : Int32)), .val (.int (3 : Int32)), .val .null, .val (.ref db)] [(.ref a)])
  refine hs.go (fun _ kk_ => XS.aload X3.here hx rfl (hb hby d3_42) rfl rfl kk_) ?_
  show G T3 (mkF m 44 #[.val (.ref a), .val (.ref cb), .val (.int (0 : Int32)), .val (.int (3 : Int32)), .val .null, .val (.ref db)] [(.ref db), (.ref a)])
  refine hs.go (fun _ kk_ => XS.iloadN X3.here hx rfl (hb hby d3_44) rfl  kk_) ?_
  show G T3 (mkF m 45 #[.val (.ref a), .val (.ref cb), .val (.int (0 : Int32)), .val (.int (3 : Int32)), .val .null, .val (.ref db)] [(.int (3 : Int32)), (.ref db), (.ref a)])
  refine rCallS hs X3 hx hZ (as' := [(.ref db), (.int (3 : Int32))]) hJ (cf_3 l Z a0 hw [] (J) hJ db [(.int (x0.toInt8.toInt32)), (.int (x1.toInt8.toInt32)), (.int (x2.toInt8.toInt32))] kd h3 n0 Z0 V_db) hown (hw _ (List.mem_of_getElem? (i := 34) rfl)) (hw _ (List.mem_of_getElem? (i := 35) rfl)) (hw _ (List.mem_of_getElem? (i := 29) rfl)) (hw _ (List.mem_of_getElem? (i := 36) rfl)) hy_7 rfl (by rw [hml]; rfl) [(.ref a)] (lenOf pd_2 rfl) rfl 1 (by show 2 * 0 + _ ≤ _; exact Nat.le_of_eq rfl) (hb hby d3_45) (by decide) (by decide) (by decide) (by decide) (fun r4 T4 h4 vm4 X4 q4 => ?_)
  obtain ⟨rfl, qh4, hj4⟩ := q4
  have X4 := X4 _ hj4
  rw [qh4] at X4
  show G T4 (mkF m 48 #[.val (.ref a), .val (.ref cb), .val (.int (0 : Int32)), .val (.int (3 : Int32)), .val .null, .val (.ref db)] [(.int (0 : Int32)), (.ref a)])
  refine rPutF hs X4 hx hZ .byte hown (host := "") (Or.inl (hw _ (List.mem_of_getElem? (i := 25) rfl))) Via.refl F_coder_a E_a g_a (Or.inr ⟨(hw _ (List.mem_of_getElem? (i := 21) rfl)), rfl, hnm⟩) (hw _ (List.mem_of_getElem? (i := 5) rfl)) (by decide) rfl rfl rfl rfl (hb hby d3_48) (fun T5 h5 X5 W5 F_coder_a => ?_)
  have O := O.wr W5 g_a
  have E_a := E_a.wr W5
  have F_value_a := F_value_a.other W5 (Or.inr (slot_ne (Or.inr (hw _ (List.mem_of_getElem? (i := 20) rfl))) (Or.inr (hw _ (List.mem_of_getElem? (i := 21) rfl))) (by decide) (t := (.array .byte)) (t' := .byte) (by decide) (by decide)))
  have V_db := V_db.other W5 ne_a_db.symm
  have K := K.wr W5 (Or.inl (by simp))
  have Ksz := K.1
  have Z0 := Nat.le_trans Z0 (Keep.of_wr W5).1
  show G T5 (mkF m 51 #[.val (.ref a), .val (.ref cb), .val (.int (0 : Int32)), .val (.int (3 : Int32)), .val .null, .val (.ref db)] [])
  refine hs.go (fun _ kk_ => XS.aloadN X5.here hx rfl (hb hby d3_51) rfl rfl kk_) ?_
  show G T5 (mkF m 52 #[.val (.ref a), .val (.ref cb), .val (.int (0 : Int32)), .val (.int (3 : Int32)), .val .null, .val (.ref db)] [(.ref a)])
  refine hs.go (fun _ kk_ => XS.aload X5.here hx rfl (hb hby d3_52) rfl rfl kk_) ?_
  show G T5 (mkF m 54 #[.val (.ref a), .val (.ref cb), .val (.int (0 : Int32)), .val (.int (3 : Int32)), .val .null, .val (.ref db)] [(.ref db), (.ref a)])
  refine rPutF hs X5 hx hZ (.array .byte) hown (host := "") (Or.inl (hw _ (List.mem_of_getElem? (i := 24) rfl))) Via.refl F_value_a E_a g_a (Or.inr ⟨(hw _ (List.mem_of_getElem? (i := 20) rfl)), rfl, hnm⟩) (hw _ (List.mem_of_getElem? (i := 5) rfl)) (by decide) rfl rfl rfl rfl (hb hby d3_54) (fun T6 h6 X6 W6 F_value_a => ?_)
  have O := O.wr W6 g_a
  have E_a := E_a.wr W6
  have F_coder_a := F_coder_a.other W6 (Or.inr (slot_ne (Or.inr (hw _ (List.mem_of_getElem? (i := 21) rfl))) (Or.inr (hw _ (List.mem_of_getElem? (i := 20) rfl))) (by decide) (t := .byte) (t' := (.array .byte)) (by decide) (by decide)))
  have V_db := V_db.other W6 ne_a_db.symm
  have K := K.wr W6 (Or.inl (by simp))
  have Ksz := K.1
  have Z0 := Nat.le_trans Z0 (Keep.of_wr W6).1
  show G T6 (mkF m 57 #[.val (.ref a), .val (.ref cb), .val (.int (0 : Int32)), .val (.int (3 : Int32)), .val .null, .val (.ref db)] [])
  exact rRetV fin hJ X6 hx (by decide) (by decide) hret (hb hby d3_57) (fun vm' hj => ⟨rfl, K, E_a, ⟨db, _, _, F_value_a, V_db⟩, hj⟩)
set_option maxRecDepth 65536 in
set_option maxHeartbeats 40000000 in
theorem i1_3 (l : Launch) (Z : State) (a0 : Array Value) (hw : ∀ d ∈ tables_1, d.before a0 Z = true) (ws : List Jvm.Cond) (J : Vm → Prop) (hJ : Stb J) (a cb : Addr) (x0 x1 x2 : Int32) (kc : ClassId) (h0 : Heap) (n0 : Nat) (Z0 : n0 ≤ h0.size) (O : Old Z n0 h0) (cw : Int32) (S0 : Sta Z Z.heap "java/lang/String" "COMPACT_STRINGS" "Z" (.int cw)) (hcw : ¬ (cw = (0 : Int32))) (E_a : Exa Z h0 a "java/lang/String") (g_a : n0 ≤ a) (F_value_a : Fld Z h0 a "java/lang/String" "value" "[B" .null) (F_coder_a : Fld Z h0 a "java/lang/String" "coder" "B" (.int (0 : Int32))) (V_cb : Arv Z h0 cb kc .char (3 : Int32) [(.int x0), (.int x1), (.int x2)] (.int (0 : Int32))) (hx0 : ¬ ((255 : Int32) < x0)) (hx1 : ¬ ((255 : Int32) < x1)) (hx2 : ¬ ((255 : Int32) < x2)) :
    Con l Z (⟨"java/lang/String", "<init>", "([C)V"⟩ : MethodName) jdk_42_method_3_code 2 none ws ({ frames := 3, cells := 1, slots := 3, locals := 52 } : Room) #[(.ref a), (.ref cb)] h0 n0 J (fun v h vm => v = none ∧ Keep h0 h [a] ∧ Exa Z h a "java/lang/String" ∧ (∃ (b : Addr) (k : ClassId) (vs : List Value), Fld Z h a "java/lang/String" "value" "[B" (.ref b) ∧ Arv Z h b k .byte (3 : Int32) vs (.int (0 : Int32))) ∧ J vm) := by
  refine Con.of pn_2 ?_
  intro G p e s m below meth c s₁ hs hx hby hml hown hnm hret hZ X0 XR hh0 hJ0 fin
  have hml : c.maxLocals = 2 := hml
  have hown : s.vm.findClass "java/lang/String" = some m.cls := hown
  rw [ef_2]
  have K := Keep.refl h0 ([a] : List Addr)
  have Ksz := K.1
  show G s₁ (mkF m 0 #[.val (.ref a), .val (.ref cb)] [])
  refine hs.go (fun _ kk_ => XS.aloadN X0.here hx rfl (hb hby d2_0) rfl rfl kk_) ?_
  show G s₁ (mkF m 1 #[.val (.ref a), .val (.ref cb)] [(.ref a)])
  refine hs.go (fun _ kk_ => XS.aloadN X0.here hx rfl (hb hby d2_1) rfl rfl kk_) ?_
  show G s₁ (mkF m 2 #[.val (.ref a), .val (.ref cb)] [(.ref cb), (.ref a)])
  refine hs.go (fun _ kk_ => XS.iconst X0.here hx rfl (hb hby d2_2) kk_) ?_
  show G s₁ (mkF m 3 #[.val (.ref a), .val (.ref cb)] [(.int (0 : Int32)), (.ref cb), (.ref a)])
  refine hs.go (fun _ kk_ => XS.aloadN X0.here hx rfl (hb hby d2_3) rfl rfl kk_) ?_
  show G s₁ (mkF m 4 #[.val (.ref a), .val (.ref cb)] [(.ref cb), (.int (0 : Int32)), (.ref cb), (.ref a)])
  refine rLen hs X0 hx hZ V_cb rfl rfl (hb hby d2_4) ?_
  show G s₁ (mkF m 5 #[.val (.ref a), .val (.ref cb)] [(.int (3 : Int32)), (.int (0 : Int32)), (.ref cb), (.ref a)])
  refine hs.go (fun _ kk_ => XS.aconstNull X0.here hx rfl (hb hby d2_5) kk_) ?_
  show G s₁ (mkF m 6 #[.val (.ref a), .val (.ref cb)] [.null, (.int (3 : Int32)), (.int (0 : Int32)), (.ref cb), (.ref a)])
  refine rCallI hs X0 hx hZ (as' := [(.ref cb), (.int (0 : Int32)), (.int (3 : Int32)), .null]) hJ (i4_3 l Z a0 hw [] (J) hJ a cb x0 x1 x2 kc h0 n0 Z0 O cw S0 hcw E_a g_a F_value_a F_coder_a V_cb hx0 hx1 hx2) rfl hown (hw _ (List.mem_of_getElem? (i := 11) rfl)) (hw _ (List.mem_of_getElem? (i := 12) rfl)) (hw _ (List.mem_of_getElem? (i := 6) rfl)) (hw _ (List.mem_of_getElem? (i := 14) rfl)) hy_3 rfl (by rw [hml]; rfl) [] (lenOf pd_3 rfl) rfl 0 (by show 2 * 0 + _ ≤ _; exact Nat.le_of_eq rfl) (hb hby d2_6) (by decide) (by decide) (by decide) (by decide) (fun r1 T1 h1 vm1 X1 q1 => ?_)
  obtain ⟨rfl, Kc1, E_a, ⟨vb, kv, vv, F_value_a, V_vb⟩, hj1⟩ := q1
  have X1 := X1 _ hj1
  have O := O.keep Kc1 (allS g_a all0)
  have K := K.trans Kc1 (fun x hx => Or.inl hx)
  have Ksz := K.1
  have Z0 := Nat.le_trans Z0 Kc1.1
  show G T1 (mkF m 9 #[.val (.ref a), .val (.ref cb)] [])
  exact rRetV fin hJ X1 hx (by decide) (by decide) hret (hb hby d2_9) (fun vm' hj => ⟨rfl, K, E_a, ⟨vb, kv, vv, F_value_a, V_vb⟩, hj⟩)
theorem d3_8 : decode jdk_42_method_149_code 8 = .ok (.aload_n 0, 1) := by decide +kernel
theorem d3_9 : decode jdk_42_method_149_code 9 = .ok (.ldc 7, 2) := by decide +kernel
theorem d3_11 : decode jdk_42_method_149_code 11 = .ok (.getfield 9, 3) := by decide +kernel
theorem d3_14 : decode jdk_42_method_149_code 14 = .ok (.putfield 9, 3) := by decide +kernel
theorem d3_17 : decode jdk_42_method_149_code 17 = .ok (.aload_n 0, 1) := by decide +kernel
theorem d3_18 : decode jdk_42_method_149_code 18 = .ok (.ldc 7, 2) := by decide +kernel
theorem d3_20 : decode jdk_42_method_149_code 20 = .ok (.getfield 15, 3) := by decide +kernel
theorem d3_23 : decode jdk_42_method_149_code 23 = .ok (.putfield 15, 3) := by decide +kernel
theorem d3_26 : decode jdk_42_method_149_code 26 = .ok (.return_, 1) := by decide +kernel
set_option maxRecDepth 65536 in
set_option maxHeartbeats 40000000 in
theorem i4_f (l : Launch) (Z : State) (a0 : Array Value) (hw : ∀ d ∈ tables_1, d.before a0 Z = true) (ws : List Jvm.Cond) (a cb : Addr) (kc : ClassId) (h0 : Heap) (n0 : Nat) (Z0 : n0 ≤ h0.size) (E_a : Exa Z h0 a "java/lang/String") (g_a : n0 ≤ a) (F_value_a : Fld Z h0 a "java/lang/String" "value" "[B" .null) (F_coder_a : Fld Z h0 a "java/lang/String" "coder" "B" (.int (0 : Int32))) (V_cb : Arv Z h0 cb kc .char (0 : Int32) [] (.int (0 : Int32))) (O : Old Z n0 h0) (HC : Jvm.Lit.constHeld Z "java/lang/String" 7) (HW : Jvm.Lit.compactW.before a0 Z = true) :
    Con l Z (⟨"java/lang/String", "<init>", "([CIILjava/lang/Void;)V"⟩ : MethodName) jdk_42_method_149_code 6 none ws ({ frames := 1, cells := 2, slots := 4, locals := 12 } : Room) #[(.ref a), (.ref cb), (.int (0 : Int32)), (.int (0 : Int32)), .null] h0 n0 (Jn Z []) (fun v h vm => ∃ (aL bL : Addr) (kL : ClassId), v = none ∧ Keep h0 h [a] ∧ Exa Z h a "java/lang/String" ∧ Fld Z h a "java/lang/String" "value" "[B" (.ref bL) ∧ Exa Z h aL "java/lang/String" ∧ Fld Z h aL "java/lang/String" "value" "[B" (.ref bL) ∧ Fld Z h aL "java/lang/String" "coder" "B" (.int 0) ∧ Arv Z h bL kL .byte (0 : Int32) [] (.int 0) ∧ Jl Z "java/lang/String" 7 aL vm) := by
  refine Con.of pn_3 ?_
  intro G p e s m below meth c s₁ hs hx hby hml hown hnm hret hZ X0 XR hh0 hJ0 fin
  have hml : c.maxLocals = 6 := hml
  have hown : s.vm.findClass "java/lang/String" = some m.cls := hown
  rw [ef_3_xxxxn]
  have K := Keep.refl h0 ([a] : List Addr)
  have Ksz := K.1
  have ne_cb_a : cb ≠ a := by obtain ⟨cl_, A_, -⟩ := V_cb; exact (ne_arr E_a (hw _ (List.mem_of_getElem? (i := 5) rfl)) A_).symm
  have eR : s₁.heap = h0 := by obtain ⟨_, _, _, _, _, q, _⟩ := X0; exact q
  show G s₁ (mkF m 0 #[.val (.ref a), .val (.ref cb), .val (.int (0 : Int32)), .val (.int (0 : Int32)), .val .null, .unset] [])
  refine hs.go (fun _ kk_ => XS.aloadN XR.here hx rfl (hb hby d3_0) rfl rfl kk_) ?_
  show G s₁ (mkF m 1 #[.val (.ref a), .val (.ref cb), .val (.int (0 : Int32)), .val (.int (0 : Int32)), .val .null, .unset] [(.ref a)])
  refine rInitR hs XR eR hx hZ hown (hw _ (List.mem_of_getElem? (i := 15) rfl)) (hw _ (List.mem_of_getElem? (i := 16) rfl)) (hw _ (List.mem_of_getElem? (i := 17) rfl)) rfl (by rw [hml]; rfl) rfl (hb hby d3_1) (by decide) (W := 0) (by show 2 * 0 + _ ≤ _; exact Nat.le_of_eq rfl) (by decide) (fun T1 X1 e1 => ?_)
  show G T1 (mkF m 4 #[.val (.ref a), .val (.ref cb), .val (.int (0 : Int32)), .val (.int (0 : Int32)), .val .null, .unset] [])
  refine hs.go (fun _ kk_ => XS.iloadN X1.here hx rfl (hb hby d3_4) rfl  kk_) ?_
  show G T1 (mkF m 5 #[.val (.ref a), .val (.ref cb), .val (.int (0 : Int32)), .val (.int (0 : Int32)), .val .null, .unset] [(.int (0 : Int32))])
  refine hs.go (fun _ kk_ => XS.ifNo X1.here hx rfl (hb hby d3_5) rfl ((if0 _ _).trans (teq (rfl : (0 : Int32) = (0 : Int32))).2) kk_) ?_
  show G T1 (mkF m 8 #[.val (.ref a), .val (.ref cb), .val (.int (0 : Int32)), .val (.int (0 : Int32)), .val .null, .unset] [])
  refine hs.go (fun _ kk_ => XS.aloadN X1.here hx rfl (hb hby d3_8) rfl rfl kk_) ?_
  show G T1 (mkF m 9 #[.val (.ref a), .val (.ref cb), .val (.int (0 : Int32)), .val (.int (0 : Int32)), .val .null, .unset] [(.ref a)])
  refine rLdcF (n0 := n0) hs X1 e1 hx hZ hown (hw _ (List.mem_of_getElem? (i := 18) rfl)) (fun d hd => hw d (own_sa d hd)) (by rw [hh0]; exact O.2) hJ0 (by simp) HC HW (vs := []) (z := (0 : Int32)) ⟨by decide, rfl⟩ (by decide) rfl rfl (hb hby d3_9) 0 (by decide) (by decide) (by decide) (by decide) (fun T2 h2 aL bL kL X2 E2 E_aL F_coder_aL F_value_aL V_bL => ?_)
  have Z0 := Nat.le_trans Z0 E2.1
  have E_a := E_a.ext E2
  have F_value_a := F_value_a.ext E2
  have F_coder_a := F_coder_a.ext E2
  have V_cb := V_cb.ext E2
  have O := O.ext E2
  have K := K.ext E2
  have Ksz := K.1
  have ne_aL_a : aL ≠ a := Fld.ne F_value_aL F_value_a nofun
  have ne_bL_a : bL ≠ a := by obtain ⟨cl_, A_, -⟩ := V_bL; exact (ne_arr E_a (hw _ (List.mem_of_getElem? (i := 5) rfl)) A_).symm
  show G T2 (mkF m 11 #[.val (.ref a), .val (.ref cb), .val (.int (0 : Int32)), .val (.int (0 : Int32)), .val .null, .unset] [(.ref aL), (.ref a)])
  refine rGetF hs X2 hx hZ hown (host := "") (Or.inl (hw _ (List.mem_of_getElem? (i := 24) rfl))) Via.refl F_value_aL rfl rfl (hb hby d3_11) (fun T3 X3 => ?_)
  show G T3 (mkF m 14 #[.val (.ref a), .val (.ref cb), .val (.int (0 : Int32)), .val (.int (0 : Int32)), .val .null, .unset] [(.ref bL), (.ref a)])
  refine rPutF hs X3 hx hZ (.array .byte) hown (host := "") (Or.inl (hw _ (List.mem_of_getElem? (i := 24) rfl))) Via.refl F_value_a E_a g_a (Or.inr ⟨(hw _ (List.mem_of_getElem? (i := 20) rfl)), rfl, hnm⟩) (hw _ (List.mem_of_getElem? (i := 5) rfl)) (by decide) rfl rfl rfl rfl (hb hby d3_14) (fun T4 h4 X4 W4 F_value_a => ?_)
  have E_a := E_a.wr W4
  have F_coder_a := F_coder_a.other W4 (Or.inr (slot_ne (Or.inr (hw _ (List.mem_of_getElem? (i := 21) rfl))) (Or.inr (hw _ (List.mem_of_getElem? (i := 20) rfl))) (by decide) (t := .byte) (t' := (.array .byte)) (by decide) (by decide)))
  have V_cb := V_cb.other W4 ne_cb_a
  have E_aL := E_aL.wr W4
  have F_value_aL := F_value_aL.other W4 (Or.inl ne_aL_a)
  have F_coder_aL := F_coder_aL.other W4 (Or.inl ne_aL_a)
  have V_bL := V_bL.other W4 ne_bL_a
  have K := K.wr W4 (Or.inl (by simp))
  have Ksz := K.1
  have Z0 := Nat.le_trans Z0 (Keep.of_wr W4).1
  show G T4 (mkF m 17 #[.val (.ref a), .val (.ref cb), .val (.int (0 : Int32)), .val (.int (0 : Int32)), .val .null, .unset] [])
  refine hs.go (fun _ kk_ => XS.aloadN X4.here hx rfl (hb hby d3_17) rfl rfl kk_) ?_
  show G T4 (mkF m 18 #[.val (.ref a), .val (.ref cb), .val (.int (0 : Int32)), .val (.int (0 : Int32)), .val .null, .unset] [(.ref a)])
  refine rLdcA hs X4 hx hZ hown (hw _ (List.mem_of_getElem? (i := 18) rfl)) rfl (hb hby d3_18) ?_
  show G T4 (mkF m 20 #[.val (.ref a), .val (.ref cb), .val (.int (0 : Int32)), .val (.int (0 : Int32)), .val .null, .unset] [(.ref aL), (.ref a)])
  refine rGetF hs X4 hx hZ hown (host := "") (Or.inl (hw _ (List.mem_of_getElem? (i := 25) rfl))) Via.refl F_coder_aL rfl rfl (hb hby d3_20) (fun T5 X5 => ?_)
  show G T5 (mkF m 23 #[.val (.ref a), .val (.ref cb), .val (.int (0 : Int32)), .val (.int (0 : Int32)), .val .null, .unset] [(.int 0), (.ref a)])
  refine rPutF hs X5 hx hZ .byte hown (host := "") (Or.inl (hw _ (List.mem_of_getElem? (i := 25) rfl))) Via.refl F_coder_a E_a g_a (Or.inr ⟨(hw _ (List.mem_of_getElem? (i := 21) rfl)), rfl, hnm⟩) (hw _ (List.mem_of_getElem? (i := 5) rfl)) (by decide) rfl rfl rfl rfl (hb hby d3_23) (fun T6 h6 X6 W6 F_coder_a => ?_)
  have E_a := E_a.wr W6
  have F_value_a := F_value_a.other W6 (Or.inr (slot_ne (Or.inr (hw _ (List.mem_of_getElem? (i := 20) rfl))) (Or.inr (hw _ (List.mem_of_getElem? (i := 21) rfl))) (by decide) (t := (.array .byte)) (t' := .byte) (by decide) (by decide)))
  have V_cb := V_cb.other W6 ne_cb_a
  have E_aL := E_aL.wr W6
  have F_value_aL := F_value_aL.other W6 (Or.inl ne_aL_a)
  have F_coder_aL := F_coder_aL.other W6 (Or.inl ne_aL_a)
  have V_bL := V_bL.other W6 ne_bL_a
  have K := K.wr W6 (Or.inl (by simp))
  have Ksz := K.1
  have Z0 := Nat.le_trans Z0 (Keep.of_wr W6).1
  show G T6 (mkF m 26 #[.val (.ref a), .val (.ref cb), .val (.int (0 : Int32)), .val (.int (0 : Int32)), .val .null, .unset] [])
  exact rRetV fin Jl.stb X6 hx (by decide) (by decide) hret (hb hby d3_26) (fun vm' hj => ⟨aL, bL, kL, rfl, K, E_a, F_value_a, E_aL, F_value_aL, F_coder_aL, V_bL, hj⟩)
set_option maxRecDepth 65536 in
set_option maxHeartbeats 40000000 in
theorem i1_f (l : Launch) (Z : State) (a0 : Array Value) (hw : ∀ d ∈ tables_1, d.before a0 Z = true) (ws : List Jvm.Cond) (a cb : Addr) (kc : ClassId) (h0 : Heap) (n0 : Nat) (Z0 : n0 ≤ h0.size) (E_a : Exa Z h0 a "java/lang/String") (g_a : n0 ≤ a) (F_value_a : Fld Z h0 a "java/lang/String" "value" "[B" .null) (F_coder_a : Fld Z h0 a "java/lang/String" "coder" "B" (.int (0 : Int32))) (V_cb : Arv Z h0 cb kc .char (0 : Int32) [] (.int (0 : Int32))) (O : Old Z n0 h0) (HC : Jvm.Lit.constHeld Z "java/lang/String" 7) (HW : Jvm.Lit.compactW.before a0 Z = true) :
    Con l Z (⟨"java/lang/String", "<init>", "([C)V"⟩ : MethodName) jdk_42_method_3_code 2 none ws ({ frames := 2, cells := 2, slots := 4, locals := 29 } : Room) #[(.ref a), (.ref cb)] h0 n0 (Jn Z []) (fun v h vm => ∃ (aL bL : Addr) (kL : ClassId), v = none ∧ Keep h0 h [a] ∧ Exa Z h a "java/lang/String" ∧ Fld Z h a "java/lang/String" "value" "[B" (.ref bL) ∧ Exa Z h aL "java/lang/String" ∧ Fld Z h aL "java/lang/String" "value" "[B" (.ref bL) ∧ Fld Z h aL "java/lang/String" "coder" "B" (.int 0) ∧ Arv Z h bL kL .byte (0 : Int32) [] (.int 0) ∧ Jl Z "java/lang/String" 7 aL vm) := by
  refine Con.of pn_2 ?_
  intro G p e s m below meth c s₁ hs hx hby hml hown hnm hret hZ X0 XR hh0 hJ0 fin
  have hml : c.maxLocals = 2 := hml
  have hown : s.vm.findClass "java/lang/String" = some m.cls := hown
  rw [ef_2]
  have K := Keep.refl h0 ([a] : List Addr)
  have Ksz := K.1
  show G s₁ (mkF m 0 #[.val (.ref a), .val (.ref cb)] [])
  refine hs.go (fun _ kk_ => XS.aloadN X0.here hx rfl (hb hby d2_0) rfl rfl kk_) ?_
  show G s₁ (mkF m 1 #[.val (.ref a), .val (.ref cb)] [(.ref a)])
  refine hs.go (fun _ kk_ => XS.aloadN X0.here hx rfl (hb hby d2_1) rfl rfl kk_) ?_
  show G s₁ (mkF m 2 #[.val (.ref a), .val (.ref cb)] [(.ref cb), (.ref a)])
  refine hs.go (fun _ kk_ => XS.iconst X0.here hx rfl (hb hby d2_2) kk_) ?_
  show G s₁ (mkF m 3 #[.val (.ref a), .val (.ref cb)] [(.int (0 : Int32)), (.ref cb), (.ref a)])
  refine hs.go (fun _ kk_ => XS.aloadN X0.here hx rfl (hb hby d2_3) rfl rfl kk_) ?_
  show G s₁ (mkF m 4 #[.val (.ref a), .val (.ref cb)] [(.ref cb), (.int (0 : Int32)), (.ref cb), (.ref a)])
  refine rLen hs X0 hx hZ V_cb rfl rfl (hb hby d2_4) ?_
  show G s₁ (mkF m 5 #[.val (.ref a), .val (.ref cb)] [(.int (0 : Int32)), (.int (0 : Int32)), (.ref cb), (.ref a)])
  refine hs.go (fun _ kk_ => XS.aconstNull X0.here hx rfl (hb hby d2_5) kk_) ?_
  show G s₁ (mkF m 6 #[.val (.ref a), .val (.ref cb)] [.null, (.int (0 : Int32)), (.int (0 : Int32)), (.ref cb), (.ref a)])
  refine rCallI hs X0 hx hZ (as' := [(.ref cb), (.int (0 : Int32)), (.int (0 : Int32)), .null]) Jn.stb (i4_f l Z a0 hw [] a cb kc h0 n0 Z0 E_a g_a F_value_a F_coder_a V_cb O HC HW) rfl hown (hw _ (List.mem_of_getElem? (i := 11) rfl)) (hw _ (List.mem_of_getElem? (i := 12) rfl)) (hw _ (List.mem_of_getElem? (i := 6) rfl)) (hw _ (List.mem_of_getElem? (i := 14) rfl)) hy_3 rfl (by rw [hml]; rfl) [] (lenOf pd_3 rfl) rfl 0 (by show 2 * 0 + _ ≤ _; exact Nat.le_of_eq rfl) (hb hby d2_6) (by decide) (by decide) (by decide) (by decide) (fun r1 T1 h1 vm1 X1 q1 => ?_)
  obtain ⟨aL, bL, kL, rfl, Kc1, E_a, F_value_a, E_aL, F_value_aL, F_coder_aL, V_bL, hj1⟩ := q1
  have X1 := X1 _ hj1
  have K := K.trans Kc1 (fun x hx => Or.inl hx)
  have Ksz := K.1
  have Z0 := Nat.le_trans Z0 Kc1.1
  show G T1 (mkF m 9 #[.val (.ref a), .val (.ref cb)] [])
  exact rRetV fin Jl.stb X1 hx (by decide) (by decide) hret (hb hby d2_9) (fun vm' hj => ⟨aL, bL, kL, rfl, K, E_a, F_value_a, E_aL, F_value_aL, F_coder_aL, V_bL, hj⟩)
set_option maxRecDepth 65536 in
set_option maxHeartbeats 40000000 in
theorem i4_g (l : Launch) (Z : State) (a0 : Array Value) (hw : ∀ d ∈ tables_1, d.before a0 Z = true) (ws : List Jvm.Cond) (a cb : Addr) (kc : ClassId) (aL bL : Addr) (kL : ClassId) (h0 : Heap) (n0 : Nat) (Z0 : n0 ≤ h0.size) (E_a : Exa Z h0 a "java/lang/String") (g_a : n0 ≤ a) (F_value_a : Fld Z h0 a "java/lang/String" "value" "[B" .null) (F_coder_a : Fld Z h0 a "java/lang/String" "coder" "B" (.int (0 : Int32))) (V_cb : Arv Z h0 cb kc .char (0 : Int32) [] (.int (0 : Int32))) (E_aL : Exa Z h0 aL "java/lang/String") (F_value_aL : Fld Z h0 aL "java/lang/String" "value" "[B" (.ref bL)) (F_coder_aL : Fld Z h0 aL "java/lang/String" "coder" "B" (.int 0)) (V_bL : Arv Z h0 bL kL .byte (0 : Int32) [] (.int 0)) :
    Con l Z (⟨"java/lang/String", "<init>", "([CIILjava/lang/Void;)V"⟩ : MethodName) jdk_42_method_149_code 6 none ws ({ frames := 1, cells := 0, slots := 0, locals := 12 } : Room) #[(.ref a), (.ref cb), (.int (0 : Int32)), (.int (0 : Int32)), .null] h0 n0 (Jl Z "java/lang/String" 7 aL) (fun v h vm => v = none ∧ Keep h0 h [a] ∧ Exa Z h a "java/lang/String" ∧ Fld Z h a "java/lang/String" "value" "[B" (.ref bL) ∧ Exa Z h aL "java/lang/String" ∧ Fld Z h aL "java/lang/String" "value" "[B" (.ref bL) ∧ Fld Z h aL "java/lang/String" "coder" "B" (.int 0) ∧ Arv Z h bL kL .byte (0 : Int32) [] (.int 0) ∧ Jl Z "java/lang/String" 7 aL vm) := by
  refine Con.of pn_3 ?_
  intro G p e s m below meth c s₁ hs hx hby hml hown hnm hret hZ X0 XR hh0 hJ0 fin
  have hml : c.maxLocals = 6 := hml
  have hown : s.vm.findClass "java/lang/String" = some m.cls := hown
  rw [ef_3_xxxxn]
  have K := Keep.refl h0 ([a] : List Addr)
  have Ksz := K.1
  have ne_cb_a : cb ≠ a := by obtain ⟨cl_, A_, -⟩ := V_cb; exact (ne_arr E_a (hw _ (List.mem_of_getElem? (i := 5) rfl)) A_).symm
  show G s₁ (mkF m 0 #[.val (.ref a), .val (.ref cb), .val (.int (0 : Int32)), .val (.int (0 : Int32)), .val .null, .unset] [])
  refine hs.go (fun _ kk_ => XS.aloadN X0.here hx rfl (hb hby d3_0) rfl rfl kk_) ?_
  show G s₁ (mkF m 1 #[.val (.ref a), .val (.ref cb), .val (.int (0 : Int32)), .val (.int (0 : Int32)), .val .null, .unset] [(.ref a)])
  refine rInitO hs X0 hx hZ hown (hw _ (List.mem_of_getElem? (i := 15) rfl)) (hw _ (List.mem_of_getElem? (i := 16) rfl)) (hw _ (List.mem_of_getElem? (i := 17) rfl)) rfl (by rw [hml]; rfl) rfl (hb hby d3_1) (by decide) (W := 0) (by show 2 * 0 + _ ≤ _; exact Nat.le_of_eq rfl) (by decide) (fun T1 X1 => ?_)
  show G T1 (mkF m 4 #[.val (.ref a), .val (.ref cb), .val (.int (0 : Int32)), .val (.int (0 : Int32)), .val .null, .unset] [])
  refine hs.go (fun _ kk_ => XS.iloadN X1.here hx rfl (hb hby d3_4) rfl  kk_) ?_
  show G T1 (mkF m 5 #[.val (.ref a), .val (.ref cb), .val (.int (0 : Int32)), .val (.int (0 : Int32)), .val .null, .unset] [(.int (0 : Int32))])
  refine hs.go (fun _ kk_ => XS.ifNo X1.here hx rfl (hb hby d3_5) rfl ((if0 _ _).trans (teq (rfl : (0 : Int32) = (0 : Int32))).2) kk_) ?_
  show G T1 (mkF m 8 #[.val (.ref a), .val (.ref cb), .val (.int (0 : Int32)), .val (.int (0 : Int32)), .val .null, .unset] [])
  refine hs.go (fun _ kk_ => XS.aloadN X1.here hx rfl (hb hby d3_8) rfl rfl kk_) ?_
  show G T1 (mkF m 9 #[.val (.ref a), .val (.ref cb), .val (.int (0 : Int32)), .val (.int (0 : Int32)), .val .null, .unset] [(.ref a)])
  refine rLdcA hs X1 hx hZ hown (hw _ (List.mem_of_getElem? (i := 18) rfl)) rfl (hb hby d3_9) ?_
  have ne_aL_a : aL ≠ a := Fld.ne F_value_aL F_value_a nofun
  have ne_bL_a : bL ≠ a := by obtain ⟨cl_, A_, -⟩ := V_bL; exact (ne_arr E_a (hw _ (List.mem_of_getElem? (i := 5) rfl)) A_).symm
  show G T1 (mkF m 11 #[.val (.ref a), .val (.ref cb), .val (.int (0 : Int32)), .val (.int (0 : Int32)), .val .null, .unset] [(.ref aL), (.ref a)])
  refine rGetF hs X1 hx hZ hown (host := "") (Or.inl (hw _ (List.mem_of_getElem? (i := 24) rfl))) Via.refl F_value_aL rfl rfl (hb hby d3_11) (fun T2 X2 => ?_)
  show G T2 (mkF m 14 #[.val (.ref a), .val (.ref cb), .val (.int (0 : Int32)), .val (.int (0 : Int32)), .val .null, .unset] [(.ref bL), (.ref a)])
  refine rPutF hs X2 hx hZ (.array .byte) hown (host := "") (Or.inl (hw _ (List.mem_of_getElem? (i := 24) rfl))) Via.refl F_value_a E_a g_a (Or.inr ⟨(hw _ (List.mem_of_getElem? (i := 20) rfl)), rfl, hnm⟩) (hw _ (List.mem_of_getElem? (i := 5) rfl)) (by decide) rfl rfl rfl rfl (hb hby d3_14) (fun T3 h3 X3 W3 F_value_a => ?_)
  have E_a := E_a.wr W3
  have F_coder_a := F_coder_a.other W3 (Or.inr (slot_ne (Or.inr (hw _ (List.mem_of_getElem? (i := 21) rfl))) (Or.inr (hw _ (List.mem_of_getElem? (i := 20) rfl))) (by decide) (t := .byte) (t' := (.array .byte)) (by decide) (by decide)))
  have V_cb := V_cb.other W3 ne_cb_a
  have E_aL := E_aL.wr W3
  have F_value_aL := F_value_aL.other W3 (Or.inl ne_aL_a)
  have F_coder_aL := F_coder_aL.other W3 (Or.inl ne_aL_a)
  have V_bL := V_bL.other W3 ne_bL_a
  have K := K.wr W3 (Or.inl (by simp))
  have Ksz := K.1
  have Z0 := Nat.le_trans Z0 (Keep.of_wr W3).1
  show G T3 (mkF m 17 #[.val (.ref a), .val (.ref cb), .val (.int (0 : Int32)), .val (.int (0 : Int32)), .val .null, .unset] [])
  refine hs.go (fun _ kk_ => XS.aloadN X3.here hx rfl (hb hby d3_17) rfl rfl kk_) ?_
  show G T3 (mkF m 18 #[.val (.ref a), .val (.ref cb), .val (.int (0 : Int32)), .val (.int (0 : Int32)), .val .null, .unset] [(.ref a)])
  refine rLdcA hs X3 hx hZ hown (hw _ (List.mem_of_getElem? (i := 18) rfl)) rfl (hb hby d3_18) ?_
  show G T3 (mkF m 20 #[.val (.ref a), .val (.ref cb), .val (.int (0 : Int32)), .val (.int (0 : Int32)), .val .null, .unset] [(.ref aL), (.ref a)])
  refine rGetF hs X3 hx hZ hown (host := "") (Or.inl (hw _ (List.mem_of_getElem? (i := 25) rfl))) Via.refl F_coder_aL rfl rfl (hb hby d3_20) (fun T4 X4 => ?_)
  show G T4 (mkF m 23 #[.val (.ref a), .val (.ref cb), .val (.int (0 : Int32)), .val (.int (0 : Int32)), .val .null, .unset] [(.int 0), (.ref a)])
  refine rPutF hs X4 hx hZ .byte hown (host := "") (Or.inl (hw _ (List.mem_of_getElem? (i := 25) rfl))) Via.refl F_coder_a E_a g_a (Or.inr ⟨(hw _ (List.mem_of_getElem? (i := 21) rfl)), rfl, hnm⟩) (hw _ (List.mem_of_getElem? (i := 5) rfl)) (by decide) rfl rfl rfl rfl (hb hby d3_23) (fun T5 h5 X5 W5 F_coder_a => ?_)
  have E_a := E_a.wr W5
  have F_value_a := F_value_a.other W5 (Or.inr (slot_ne (Or.inr (hw _ (List.mem_of_getElem? (i := 20) rfl))) (Or.inr (hw _ (List.mem_of_getElem? (i := 21) rfl))) (by decide) (t := (.array .byte)) (t' := .byte) (by decide) (by decide)))
  have V_cb := V_cb.other W5 ne_cb_a
  have E_aL := E_aL.wr W5
  have F_value_aL := F_value_aL.other W5 (Or.inl ne_aL_a)
  have F_coder_aL := F_coder_aL.other W5 (Or.inl ne_aL_a)
  have V_bL := V_bL.other W5 ne_bL_a
  have K := K.wr W5 (Or.inl (by simp))
  have Ksz := K.1
  have Z0 := Nat.le_trans Z0 (Keep.of_wr W5).1
  show G T5 (mkF m 26 #[.val (.ref a), .val (.ref cb), .val (.int (0 : Int32)), .val (.int (0 : Int32)), .val .null, .unset] [])
  exact rRetV fin Jl.stb X5 hx (by decide) (by decide) hret (hb hby d3_26) (fun vm' hj => ⟨rfl, K, E_a, F_value_a, E_aL, F_value_aL, F_coder_aL, V_bL, hj⟩)
set_option maxRecDepth 65536 in
set_option maxHeartbeats 40000000 in
theorem i1_g (l : Launch) (Z : State) (a0 : Array Value) (hw : ∀ d ∈ tables_1, d.before a0 Z = true) (ws : List Jvm.Cond) (a cb : Addr) (kc : ClassId) (aL bL : Addr) (kL : ClassId) (h0 : Heap) (n0 : Nat) (Z0 : n0 ≤ h0.size) (E_a : Exa Z h0 a "java/lang/String") (g_a : n0 ≤ a) (F_value_a : Fld Z h0 a "java/lang/String" "value" "[B" .null) (F_coder_a : Fld Z h0 a "java/lang/String" "coder" "B" (.int (0 : Int32))) (V_cb : Arv Z h0 cb kc .char (0 : Int32) [] (.int (0 : Int32))) (E_aL : Exa Z h0 aL "java/lang/String") (F_value_aL : Fld Z h0 aL "java/lang/String" "value" "[B" (.ref bL)) (F_coder_aL : Fld Z h0 aL "java/lang/String" "coder" "B" (.int 0)) (V_bL : Arv Z h0 bL kL .byte (0 : Int32) [] (.int 0)) :
    Con l Z (⟨"java/lang/String", "<init>", "([C)V"⟩ : MethodName) jdk_42_method_3_code 2 none ws ({ frames := 2, cells := 0, slots := 0, locals := 29 } : Room) #[(.ref a), (.ref cb)] h0 n0 (Jl Z "java/lang/String" 7 aL) (fun v h vm => v = none ∧ Keep h0 h [a] ∧ Exa Z h a "java/lang/String" ∧ Fld Z h a "java/lang/String" "value" "[B" (.ref bL) ∧ Exa Z h aL "java/lang/String" ∧ Fld Z h aL "java/lang/String" "value" "[B" (.ref bL) ∧ Fld Z h aL "java/lang/String" "coder" "B" (.int 0) ∧ Arv Z h bL kL .byte (0 : Int32) [] (.int 0) ∧ Jl Z "java/lang/String" 7 aL vm) := by
  refine Con.of pn_2 ?_
  intro G p e s m below meth c s₁ hs hx hby hml hown hnm hret hZ X0 XR hh0 hJ0 fin
  have hml : c.maxLocals = 2 := hml
  have hown : s.vm.findClass "java/lang/String" = some m.cls := hown
  rw [ef_2]
  have K := Keep.refl h0 ([a] : List Addr)
  have Ksz := K.1
  show G s₁ (mkF m 0 #[.val (.ref a), .val (.ref cb)] [])
  refine hs.go (fun _ kk_ => XS.aloadN X0.here hx rfl (hb hby d2_0) rfl rfl kk_) ?_
  show G s₁ (mkF m 1 #[.val (.ref a), .val (.ref cb)] [(.ref a)])
  refine hs.go (fun _ kk_ => XS.aloadN X0.here hx rfl (hb hby d2_1) rfl rfl kk_) ?_
  show G s₁ (mkF m 2 #[.val (.ref a), .val (.ref cb)] [(.ref cb), (.ref a)])
  refine hs.go (fun _ kk_ => XS.iconst X0.here hx rfl (hb hby d2_2) kk_) ?_
  show G s₁ (mkF m 3 #[.val (.ref a), .val (.ref cb)] [(.int (0 : Int32)), (.ref cb), (.ref a)])
  refine hs.go (fun _ kk_ => XS.aloadN X0.here hx rfl (hb hby d2_3) rfl rfl kk_) ?_
  show G s₁ (mkF m 4 #[.val (.ref a), .val (.ref cb)] [(.ref cb), (.int (0 : Int32)), (.ref cb), (.ref a)])
  refine rLen hs X0 hx hZ V_cb rfl rfl (hb hby d2_4) ?_
  show G s₁ (mkF m 5 #[.val (.ref a), .val (.ref cb)] [(.int (0 : Int32)), (.int (0 : Int32)), (.ref cb), (.ref a)])
  refine hs.go (fun _ kk_ => XS.aconstNull X0.here hx rfl (hb hby d2_5) kk_) ?_
  show G s₁ (mkF m 6 #[.val (.ref a), .val (.ref cb)] [.null, (.int (0 : Int32)), (.int (0 : Int32)), (.ref cb), (.ref a)])
  refine rCallI hs X0 hx hZ (as' := [(.ref cb), (.int (0 : Int32)), (.int (0 : Int32)), .null]) Jl.stb (i4_g l Z a0 hw [] a cb kc aL bL kL h0 n0 Z0 E_a g_a F_value_a F_coder_a V_cb E_aL F_value_aL F_coder_aL V_bL) rfl hown (hw _ (List.mem_of_getElem? (i := 11) rfl)) (hw _ (List.mem_of_getElem? (i := 12) rfl)) (hw _ (List.mem_of_getElem? (i := 6) rfl)) (hw _ (List.mem_of_getElem? (i := 14) rfl)) hy_3 rfl (by rw [hml]; rfl) [] (lenOf pd_3 rfl) rfl 0 (by show 2 * 0 + _ ≤ _; exact Nat.le_of_eq rfl) (hb hby d2_6) (by decide) (by decide) (by decide) (by decide) (fun r1 T1 h1 vm1 X1 q1 => ?_)
  obtain ⟨rfl, Kc1, E_a, F_value_a, E_aL, F_value_aL, F_coder_aL, V_bL, hj1⟩ := q1
  have X1 := X1 _ hj1
  have K := K.trans Kc1 (fun x hx => Or.inl hx)
  have Ksz := K.1
  have Z0 := Nat.le_trans Z0 Kc1.1
  show G T1 (mkF m 9 #[.val (.ref a), .val (.ref cb)] [])
  exact rRetV fin Jl.stb X1 hx (by decide) (by decide) hret (hb hby d2_9) (fun vm' hj => ⟨rfl, K, E_a, F_value_a, E_aL, F_value_aL, F_coder_aL, V_bL, hj⟩)
theorem pd_4 : parseMethodDescriptor "([C)V" = some ⟨[(.array .char)], none⟩ := by decide +kernel
theorem d1_0 : decode method_3_code 0 = .ok (.iload_n 1, 1) := by decide +kernel
theorem d1_1 : decode method_3_code 1 = .ok (.sipush 255, 3) := by decide +kernel
theorem d1_4 : decode method_3_code 4 = .ok (.iand, 1) := by decide +kernel
theorem d1_5 : decode method_3_code 5 = .ok (.i2c, 1) := by decide +kernel
theorem d1_6 : decode method_3_code 6 = .ok (.istore_n 2, 1) := by decide +kernel
theorem d1_7 : decode method_3_code 7 = .ok (.iload_n 1, 1) := by decide +kernel
theorem d1_8 : decode method_3_code 8 = .ok (.bipush 8, 2) := by decide +kernel
theorem d1_10 : decode method_3_code 10 = .ok (.iushr, 1) := by decide +kernel
theorem d1_11 : decode method_3_code 11 = .ok (.sipush 255, 3) := by decide +kernel
theorem d1_14 : decode method_3_code 14 = .ok (.iand, 1) := by decide +kernel
theorem d1_15 : decode method_3_code 15 = .ok (.i2c, 1) := by decide +kernel
theorem d1_16 : decode method_3_code 16 = .ok (.istore_n 3, 1) := by decide +kernel
theorem d1_17 : decode method_3_code 17 = .ok (.iload_n 1, 1) := by decide +kernel
theorem d1_18 : decode method_3_code 18 = .ok (.bipush 16, 2) := by decide +kernel
theorem d1_20 : decode method_3_code 20 = .ok (.iushr, 1) := by decide +kernel
theorem d1_21 : decode method_3_code 21 = .ok (.sipush 255, 3) := by decide +kernel
theorem d1_24 : decode method_3_code 24 = .ok (.iand, 1) := by decide +kernel
theorem d1_25 : decode method_3_code 25 = .ok (.i2c, 1) := by decide +kernel
theorem d1_26 : decode method_3_code 26 = .ok (.istore 4, 2) := by decide +kernel
theorem d1_28 : decode method_3_code 28 = .ok (.iload_n 0, 1) := by decide +kernel
theorem d1_29 : decode method_3_code 29 = .ok (.ifCond .ne 14, 3) := by decide +kernel
theorem d1_43 : decode method_3_code 43 = .ok (.iload_n 0, 1) := by decide +kernel
theorem d1_44 : decode method_3_code 44 = .ok (.iconst 1, 1) := by decide +kernel
theorem d1_45 : decode method_3_code 45 = .ok (.if_icmp .ne 18, 3) := by decide +kernel
theorem d1_48 : decode method_3_code 48 = .ok (.new 22, 3) := by decide +kernel
theorem d1_51 : decode method_3_code 51 = .ok (.dup, 1) := by decide +kernel
theorem d1_52 : decode method_3_code 52 = .ok (.iconst 1, 1) := by decide +kernel
theorem d1_53 : decode method_3_code 53 = .ok (.newarray .char, 2) := by decide +kernel
theorem d1_55 : decode method_3_code 55 = .ok (.dup, 1) := by decide +kernel
theorem d1_56 : decode method_3_code 56 = .ok (.iconst 0, 1) := by decide +kernel
theorem d1_57 : decode method_3_code 57 = .ok (.iload_n 2, 1) := by decide +kernel
theorem d1_58 : decode method_3_code 58 = .ok (.castore, 1) := by decide +kernel
theorem d1_59 : decode method_3_code 59 = .ok (.invokespecial 24, 3) := by decide +kernel
theorem d1_62 : decode method_3_code 62 = .ok (.areturn, 1) := by decide +kernel
theorem pn_1 : plainFor (⟨"com/example/farthing/farthing/format/FormTextWritesSignsPinLaw", "text", "(II)Ljava/lang/String;"⟩ : MethodName) = true := plainFor_of_name (by first | (simp [plainName, overriddenIn]; done) | decide +kernel)
theorem ef_1 (m : MethodId) (x0 : Int32) (x1 : Int32) : entryFrame m #[(.int x0), (.int x1)] 5 = mkF m 0 #[.val (.int x0), .val (.int x1), .unset, .unset, .unset] [] := by first | (simp [entryFrame, mkF, argsToLocals, Value.category]; done) | rfl
theorem hy_1 : ((⟨"com/example/farthing/farthing/format/FormTextWritesSignsPinLaw", "text", "(II)Ljava/lang/String;"⟩ : MethodName)).cls ≠ "java/lang/invoke/MethodHandle" ∧ ((⟨"com/example/farthing/farthing/format/FormTextWritesSignsPinLaw", "text", "(II)Ljava/lang/String;"⟩ : MethodName)).cls ≠ "java/lang/invoke/VarHandle" := by decide
set_option maxRecDepth 65536 in
set_option maxHeartbeats 40000000 in
theorem tx_1 (l : Launch) (Z : State) (a0 : Array Value) (hw : ∀ d ∈ tables_1, d.before a0 Z = true) (ws : List Jvm.Cond) (J : Vm → Prop) (hJ : Stb J) (sd : Int32) (h0 : Heap) (n0 : Nat) (Z0 : n0 ≤ h0.size) (O : Old Z n0 h0) (cw : Int32) (S0 : Sta Z Z.heap "java/lang/String" "COMPACT_STRINGS" "Z" (.int cw)) (hcw : ¬ (cw = (0 : Int32))) :
    Con l Z (⟨"com/example/farthing/farthing/format/FormTextWritesSignsPinLaw", "text", "(II)Ljava/lang/String;"⟩ : MethodName) method_3_code 5 (some (.object "java/lang/String")) ws ({ frames := 4, cells := 3, slots := 6, locals := 66 } : Room) #[(.int (1 : Int32)), (.int sd)] h0 n0 J (fun v h vm => ∃ (a b : Addr) (k : ClassId) (vs : List Value), v = some (.ref a) ∧ Keep h0 h [] ∧ Exa Z h a "java/lang/String" ∧ Fld Z h a "java/lang/String" "value" "[B" (.ref b) ∧ Arv Z h b k .byte (1 : Int32) vs (.int (0 : Int32)) ∧ J vm) := by
  refine Con.of pn_1 ?_
  intro G p e s m below meth c s₁ hs hx hby hml hown hnm hret hZ X0 XR hh0 hJ0 fin
  have hml : c.maxLocals = 5 := hml
  have hown : s.vm.findClass "com/example/farthing/farthing/format/FormTextWritesSignsPinLaw" = some m.cls := hown
  rw [ef_1]
  have K := Keep.refl h0 ([] : List Addr)
  have Ksz := K.1
  show G s₁ (mkF m 0 #[.val (.int (1 : Int32)), .val (.int sd), .unset, .unset, .unset] [])
  refine hs.go (fun _ kk_ => XS.iloadN X0.here hx rfl (hb hby d1_0) rfl  kk_) ?_
  show G s₁ (mkF m 1 #[.val (.int (1 : Int32)), .val (.int sd), .unset, .unset, .unset] [(.int sd)])
  refine hs.go (fun _ kk_ => XS.sipush X0.here hx rfl (hb hby d1_1) kk_) ?_
  show G s₁ (mkF m 4 #[.val (.int (1 : Int32)), .val (.int sd), .unset, .unset, .unset] [(.int (255 : Int32)), (.int sd)])
  refine hs.go (fun _ kk_ => XS.iand X0.here hx rfl (hb hby d1_4) rfl kk_) ?_
  show G s₁ (mkF m 5 #[.val (.int (1 : Int32)), .val (.int sd), .unset, .unset, .unset] [(.int (sd &&& (255 : Int32)))])
  refine hs.go (fun _ kk_ => XS.i2c X0.here hx rfl (hb hby d1_5) rfl kk_) ?_
  show G s₁ (mkF m 6 #[.val (.int (1 : Int32)), .val (.int sd), .unset, .unset, .unset] [(.int ((sd &&& (255 : Int32)).toUInt32.toUInt16.toUInt32.toInt32))])
  refine nameIt (P := fun zz_ : Int32 => G s₁ (mkF m 6 #[.val (.int (1 : Int32)), .val (.int sd), .unset, .unset, .unset] [(.int zz_)])) ((sd &&& (255 : Int32)).toUInt32.toUInt16.toUInt32.toInt32) (fun c0 hc0 => ?_)
  show G s₁ (mkF m 6 #[.val (.int (1 : Int32)), .val (.int sd), .unset, .unset, .unset] [(.int c0)])
  refine hs.go (fun _ kk_ => XS.istoreN X0.here hx rfl (hb hby d1_6) rfl (l' := #[.val (.int (1 : Int32)), .val (.int sd), .val (.int c0), .unset, .unset]) rfl kk_) ?_
  show G s₁ (mkF m 7 #[.val (.int (1 : Int32)), .val (.int sd), .val (.int c0), .unset, .unset] [])
  refine hs.go (fun _ kk_ => XS.iloadN X0.here hx rfl (hb hby d1_7) rfl  kk_) ?_
  show G s₁ (mkF m 8 #[.val (.int (1 : Int32)), .val (.int sd), .val (.int c0), .unset, .unset] [(.int sd)])
  refine hs.go (fun _ kk_ => XS.bipush X0.here hx rfl (hb hby d1_8) kk_) ?_
  show G s₁ (mkF m 10 #[.val (.int (1 : Int32)), .val (.int sd), .val (.int c0), .unset, .unset] [(.int (8 : Int32)), (.int sd)])
  refine hs.go (fun _ kk_ => XS.iushr X0.here hx rfl (hb hby d1_10) rfl kk_) ?_
  show G s₁ (mkF m 11 #[.val (.int (1 : Int32)), .val (.int sd), .val (.int c0), .unset, .unset] [(.int ((sd.toUInt32 >>> ((8 : Int32) &&& 31).toUInt32).toInt32))])
  refine hs.go (fun _ kk_ => XS.sipush X0.here hx rfl (hb hby d1_11) kk_) ?_
  show G s₁ (mkF m 14 #[.val (.int (1 : Int32)), .val (.int sd), .val (.int c0), .unset, .unset] [(.int (255 : Int32)), (.int ((sd.toUInt32 >>> ((8 : Int32) &&& 31).toUInt32).toInt32))])
  refine hs.go (fun _ kk_ => XS.iand X0.here hx rfl (hb hby d1_14) rfl kk_) ?_
  show G s₁ (mkF m 15 #[.val (.int (1 : Int32)), .val (.int sd), .val (.int c0), .unset, .unset] [(.int (((sd.toUInt32 >>> ((8 : Int32) &&& 31).toUInt32).toInt32) &&& (255 : Int32)))])
  refine hs.go (fun _ kk_ => XS.i2c X0.here hx rfl (hb hby d1_15) rfl kk_) ?_
  show G s₁ (mkF m 16 #[.val (.int (1 : Int32)), .val (.int sd), .val (.int c0), .unset, .unset] [(.int ((((sd.toUInt32 >>> ((8 : Int32) &&& 31).toUInt32).toInt32) &&& (255 : Int32)).toUInt32.toUInt16.toUInt32.toInt32))])
  refine nameIt (P := fun zz_ : Int32 => G s₁ (mkF m 16 #[.val (.int (1 : Int32)), .val (.int sd), .val (.int c0), .unset, .unset] [(.int zz_)])) ((((sd.toUInt32 >>> ((8 : Int32) &&& 31).toUInt32).toInt32) &&& (255 : Int32)).toUInt32.toUInt16.toUInt32.toInt32) (fun c1 hc1 => ?_)
  show G s₁ (mkF m 16 #[.val (.int (1 : Int32)), .val (.int sd), .val (.int c0), .unset, .unset] [(.int c1)])
  refine hs.go (fun _ kk_ => XS.istoreN X0.here hx rfl (hb hby d1_16) rfl (l' := #[.val (.int (1 : Int32)), .val (.int sd), .val (.int c0), .val (.int c1), .unset]) rfl kk_) ?_
  show G s₁ (mkF m 17 #[.val (.int (1 : Int32)), .val (.int sd), .val (.int c0), .val (.int c1), .unset] [])
  refine hs.go (fun _ kk_ => XS.iloadN X0.here hx rfl (hb hby d1_17) rfl  kk_) ?_
  show G s₁ (mkF m 18 #[.val (.int (1 : Int32)), .val (.int sd), .val (.int c0), .val (.int c1), .unset] [(.int sd)])
  refine hs.go (fun _ kk_ => XS.bipush X0.here hx rfl (hb hby d1_18) kk_) ?_
  show G s₁ (mkF m 20 #[.val (.int (1 : Int32)), .val (.int sd), .val (.int c0), .val (.int c1), .unset] [(.int (16 : Int32)), (.int sd)])
  refine hs.go (fun _ kk_ => XS.iushr X0.here hx rfl (hb hby d1_20) rfl kk_) ?_
  show G s₁ (mkF m 21 #[.val (.int (1 : Int32)), .val (.int sd), .val (.int c0), .val (.int c1), .unset] [(.int ((sd.toUInt32 >>> ((16 : Int32) &&& 31).toUInt32).toInt32))])
  refine hs.go (fun _ kk_ => XS.sipush X0.here hx rfl (hb hby d1_21) kk_) ?_
  show G s₁ (mkF m 24 #[.val (.int (1 : Int32)), .val (.int sd), .val (.int c0), .val (.int c1), .unset] [(.int (255 : Int32)), (.int ((sd.toUInt32 >>> ((16 : Int32) &&& 31).toUInt32).toInt32))])
  refine hs.go (fun _ kk_ => XS.iand X0.here hx rfl (hb hby d1_24) rfl kk_) ?_
  show G s₁ (mkF m 25 #[.val (.int (1 : Int32)), .val (.int sd), .val (.int c0), .val (.int c1), .unset] [(.int (((sd.toUInt32 >>> ((16 : Int32) &&& 31).toUInt32).toInt32) &&& (255 : Int32)))])
  refine hs.go (fun _ kk_ => XS.i2c X0.here hx rfl (hb hby d1_25) rfl kk_) ?_
  show G s₁ (mkF m 26 #[.val (.int (1 : Int32)), .val (.int sd), .val (.int c0), .val (.int c1), .unset] [(.int ((((sd.toUInt32 >>> ((16 : Int32) &&& 31).toUInt32).toInt32) &&& (255 : Int32)).toUInt32.toUInt16.toUInt32.toInt32))])
  refine nameIt (P := fun zz_ : Int32 => G s₁ (mkF m 26 #[.val (.int (1 : Int32)), .val (.int sd), .val (.int c0), .val (.int c1), .unset] [(.int zz_)])) ((((sd.toUInt32 >>> ((16 : Int32) &&& 31).toUInt32).toInt32) &&& (255 : Int32)).toUInt32.toUInt16.toUInt32.toInt32) (fun c2 hc2 => ?_)
  show G s₁ (mkF m 26 #[.val (.int (1 : Int32)), .val (.int sd), .val (.int c0), .val (.int c1), .unset] [(.int c2)])
  refine hs.go (fun _ kk_ => XS.istore X0.here hx rfl (hb hby d1_26) rfl (l' := #[.val (.int (1 : Int32)), .val (.int sd), .val (.int c0), .val (.int c1), .val (.int c2)]) rfl kk_) ?_
  show G s₁ (mkF m 28 #[.val (.int (1 : Int32)), .val (.int sd), .val (.int c0), .val (.int c1), .val (.int c2)] [])
  refine hs.go (fun _ kk_ => XS.iloadN X0.here hx rfl (hb hby d1_28) rfl  kk_) ?_
  show G s₁ (mkF m 29 #[.val (.int (1 : Int32)), .val (.int sd), .val (.int c0), .val (.int c1), .val (.int c2)] [(.int (1 : Int32))])
  refine hs.go (fun _ kk_ => XS.ifYes X0.here hx rfl (pc0 := 29) (pc' := 43) rfl (hb hby d1_29) rfl ((if0 _ _).trans (feq ((by decide) : ¬ ((1 : Int32) = (0 : Int32)))).2) (by decide) (by decide) kk_) ?_
  show G s₁ (mkF m 43 #[.val (.int (1 : Int32)), .val (.int sd), .val (.int c0), .val (.int c1), .val (.int c2)] [])
  refine hs.go (fun _ kk_ => XS.iloadN X0.here hx rfl (hb hby d1_43) rfl  kk_) ?_
  show G s₁ (mkF m 44 #[.val (.int (1 : Int32)), .val (.int sd), .val (.int c0), .val (.int c1), .val (.int c2)] [(.int (1 : Int32))])
  refine hs.go (fun _ kk_ => XS.iconst X0.here hx rfl (hb hby d1_44) kk_) ?_
  show G s₁ (mkF m 45 #[.val (.int (1 : Int32)), .val (.int sd), .val (.int c0), .val (.int c1), .val (.int c2)] [(.int (1 : Int32)), (.int (1 : Int32))])
  refine hs.go (fun _ kk_ => XS.icmpNo X0.here hx rfl (hb hby d1_45) rfl (teq (rfl : (1 : Int32) = (1 : Int32))).2 kk_) ?_
  show G s₁ (mkF m 48 #[.val (.int (1 : Int32)), .val (.int sd), .val (.int c0), .val (.int c1), .val (.int c2)] [])
  refine rNewO hs X0 hx hZ hown (hw _ (List.mem_of_getElem? (i := 4) rfl)) (hw _ (List.mem_of_getElem? (i := 5) rfl)) (hw _ (List.mem_of_getElem? (i := 6) rfl)) rfl (hb hby d1_48) (by decide) (by decide) (fun T1 h1 sa g1 X1 E1 E_sa D1 => ?_)
  have g_sa : n0 ≤ sa := by rw [g1]; exact Z0
  have Z0 := Nat.le_trans Z0 E1.1
  have O := O.ext E1
  have K := K.ext E1
  have sz_sa : h0.size ≤ sa := by rw [g1]; exact Ksz
  have Ksz := K.1
  have F_value_sa : Fld Z h1 sa "java/lang/String" "value" "[B" .null := D1 (Or.inr (hw _ (List.mem_of_getElem? (i := 20) rfl))) (ty := (.array .byte)) (by decide)
  have F_coder_sa : Fld Z h1 sa "java/lang/String" "coder" "B" (.int (0 : Int32)) := D1 (Or.inr (hw _ (List.mem_of_getElem? (i := 21) rfl))) (ty := .byte) (by decide)
  show G T1 (mkF m 51 #[.val (.int (1 : Int32)), .val (.int sd), .val (.int c0), .val (.int c1), .val (.int c2)] [(.ref sa)])
  refine hs.go (fun _ kk_ => XS.dup X1.here hx rfl (hb hby d1_51) rfl rfl kk_) ?_
  show G T1 (mkF m 52 #[.val (.int (1 : Int32)), .val (.int sd), .val (.int c0), .val (.int c1), .val (.int c2)] [(.ref sa), (.ref sa)])
  refine hs.go (fun _ kk_ => XS.iconst X1.here hx rfl (hb hby d1_52) kk_) ?_
  show G T1 (mkF m 53 #[.val (.int (1 : Int32)), .val (.int sd), .val (.int c0), .val (.int c1), .val (.int c2)] [(.int (1 : Int32)), (.ref sa), (.ref sa)])
  refine rNewP hs X1 hx hZ (hw _ (List.mem_of_getElem? (i := 7) rfl)) rfl (hb hby d1_53) rfl (by decide) 1 1 (by decide) (by decide) (by decide) (by decide) (fun T2 h2 k2 ca g2 X2 E2 V_ca => ?_)
  have V_ca : Arv Z h2 ca k2 .char (1 : Int32) [(.int (0 : Int32))] (.int (0 : Int32)) := V_ca
  have g_ca : n0 ≤ ca := by rw [g2]; exact Z0
  have Z0 := Nat.le_trans Z0 E2.1
  have ne_sa_ca : sa ≠ ca := Nat.ne_of_lt (Nat.lt_of_lt_of_le E_sa.lt (Nat.le_of_eq g2.symm))
  have O := O.ext E2
  have E_sa := E_sa.ext E2
  have F_value_sa := F_value_sa.ext E2
  have F_coder_sa := F_coder_sa.ext E2
  have K := K.ext E2
  have sz_ca : h0.size ≤ ca := by rw [g2]; exact Ksz
  have Ksz := K.1
  show G T2 (mkF m 55 #[.val (.int (1 : Int32)), .val (.int sd), .val (.int c0), .val (.int c1), .val (.int c2)] [(.ref ca), (.ref sa), (.ref sa)])
  refine hs.go (fun _ kk_ => XS.dup X2.here hx rfl (hb hby d1_55) rfl rfl kk_) ?_
  show G T2 (mkF m 56 #[.val (.int (1 : Int32)), .val (.int sd), .val (.int c0), .val (.int c1), .val (.int c2)] [(.ref ca), (.ref ca), (.ref sa), (.ref sa)])
  refine hs.go (fun _ kk_ => XS.iconst X2.here hx rfl (hb hby d1_56) kk_) ?_
  show G T2 (mkF m 57 #[.val (.int (1 : Int32)), .val (.int sd), .val (.int c0), .val (.int c1), .val (.int c2)] [(.int (0 : Int32)), (.ref ca), (.ref ca), (.ref sa), (.ref sa)])
  refine hs.go (fun _ kk_ => XS.iloadN X2.here hx rfl (hb hby d1_57) rfl  kk_) ?_
  show G T2 (mkF m 58 #[.val (.int (1 : Int32)), .val (.int sd), .val (.int c0), .val (.int c1), .val (.int c2)] [(.int c0), (.int (0 : Int32)), (.ref ca), (.ref ca), (.ref sa), (.ref sa)])
  refine rStC hs X2 hx hZ V_ca g_ca ⟨by decide, by decide⟩ 0 (by decide) (by simp) (x' := c0) (own_cx hc0) rfl rfl (hb hby d1_58) (fun T3 h3 X3 W3 V_ca => ?_)
  have V_ca : Arv Z h3 ca k2 .char (1 : Int32) [(.int c0)] (.int (0 : Int32)) := V_ca
  have O := O.wr W3 g_ca
  have E_sa := E_sa.wr W3
  have F_value_sa := F_value_sa.other W3 (Or.inl ne_sa_ca)
  have F_coder_sa := F_coder_sa.other W3 (Or.inl ne_sa_ca)
  have K := K.wr W3 (Or.inr sz_ca)
  have Ksz := K.1
  have Z0 := Nat.le_trans Z0 (Keep.of_wr W3).1
  show G T3 (mkF m 59 #[.val (.int (1 : Int32)), .val (.int sd), .val (.int c0), .val (.int c1), .val (.int c2)] [(.ref ca), (.ref sa), (.ref sa)])
  refine rCallI hs X3 hx hZ (as' := [(.ref ca)]) hJ (i1_1 l Z a0 hw [] (J) hJ sa ca c0 k2 h3 n0 Z0 O cw S0 hcw E_sa g_sa F_value_sa F_coder_sa V_ca (own_hx hc0)) rfl hown (hw _ (List.mem_of_getElem? (i := 8) rfl)) (hw _ (List.mem_of_getElem? (i := 9) rfl)) (hw _ (List.mem_of_getElem? (i := 6) rfl)) (hw _ (List.mem_of_getElem? (i := 10) rfl)) hy_2 rfl (by rw [hml]; rfl) [(.ref sa)] (lenOf pd_4 rfl) rfl 1 (by show 2 * 0 + _ ≤ _; exact Nat.le_of_eq rfl) (hb hby d1_59) (by decide) (by decide) (by decide) (by decide) (fun r4 T4 h4 vm4 X4 q4 => ?_)
  obtain ⟨rfl, Kc4, E_sa, ⟨vb_sa, kv_sa, vv_sa, F_value_sa, V_vb_sa⟩, hj4⟩ := q4
  have X4 := X4 _ hj4
  have O := O.keep Kc4 (allS g_sa all0)
  have K := K.trans Kc4 (fun x hx => Or.inr (by cases List.mem_singleton.mp hx; exact sz_sa))
  have Ksz := K.1
  have Z0 := Nat.le_trans Z0 Kc4.1
  show G T4 (mkF m 62 #[.val (.int (1 : Int32)), .val (.int sd), .val (.int c0), .val (.int c1), .val (.int c2)] [(.ref sa)])
  exact rRetA fin hJ X4 hx (by decide) (by decide) hret rfl rfl rfl (hb hby d1_62) (fun vm' hj => ⟨sa, vb_sa, kv_sa, vv_sa, rfl, K, E_sa, F_value_sa, V_vb_sa, hj⟩)
theorem d1_63 : decode method_3_code 63 = .ok (.iload_n 0, 1) := by decide +kernel
theorem d1_64 : decode method_3_code 64 = .ok (.iconst 2, 1) := by decide +kernel
theorem d1_65 : decode method_3_code 65 = .ok (.if_icmp .ne 22, 3) := by decide +kernel
theorem d1_68 : decode method_3_code 68 = .ok (.new 22, 3) := by decide +kernel
theorem d1_71 : decode method_3_code 71 = .ok (.dup, 1) := by decide +kernel
theorem d1_72 : decode method_3_code 72 = .ok (.iconst 2, 1) := by decide +kernel
theorem d1_73 : decode method_3_code 73 = .ok (.newarray .char, 2) := by decide +kernel
theorem d1_75 : decode method_3_code 75 = .ok (.dup, 1) := by decide +kernel
theorem d1_76 : decode method_3_code 76 = .ok (.iconst 0, 1) := by decide +kernel
theorem d1_77 : decode method_3_code 77 = .ok (.iload_n 2, 1) := by decide +kernel
theorem d1_78 : decode method_3_code 78 = .ok (.castore, 1) := by decide +kernel
theorem d1_79 : decode method_3_code 79 = .ok (.dup, 1) := by decide +kernel
theorem d1_80 : decode method_3_code 80 = .ok (.iconst 1, 1) := by decide +kernel
theorem d1_81 : decode method_3_code 81 = .ok (.iload_n 3, 1) := by decide +kernel
theorem d1_82 : decode method_3_code 82 = .ok (.castore, 1) := by decide +kernel
theorem d1_83 : decode method_3_code 83 = .ok (.invokespecial 24, 3) := by decide +kernel
theorem d1_86 : decode method_3_code 86 = .ok (.areturn, 1) := by decide +kernel
set_option maxRecDepth 65536 in
set_option maxHeartbeats 40000000 in
theorem tx_2 (l : Launch) (Z : State) (a0 : Array Value) (hw : ∀ d ∈ tables_1, d.before a0 Z = true) (ws : List Jvm.Cond) (J : Vm → Prop) (hJ : Stb J) (sd : Int32) (h0 : Heap) (n0 : Nat) (Z0 : n0 ≤ h0.size) (O : Old Z n0 h0) (cw : Int32) (S0 : Sta Z Z.heap "java/lang/String" "COMPACT_STRINGS" "Z" (.int cw)) (hcw : ¬ (cw = (0 : Int32))) :
    Con l Z (⟨"com/example/farthing/farthing/format/FormTextWritesSignsPinLaw", "text", "(II)Ljava/lang/String;"⟩ : MethodName) method_3_code 5 (some (.object "java/lang/String")) ws ({ frames := 4, cells := 3, slots := 8, locals := 66 } : Room) #[(.int (2 : Int32)), (.int sd)] h0 n0 J (fun v h vm => ∃ (a b : Addr) (k : ClassId) (vs : List Value), v = some (.ref a) ∧ Keep h0 h [] ∧ Exa Z h a "java/lang/String" ∧ Fld Z h a "java/lang/String" "value" "[B" (.ref b) ∧ Arv Z h b k .byte (2 : Int32) vs (.int (0 : Int32)) ∧ J vm) := by
  refine Con.of pn_1 ?_
  intro G p e s m below meth c s₁ hs hx hby hml hown hnm hret hZ X0 XR hh0 hJ0 fin
  have hml : c.maxLocals = 5 := hml
  have hown : s.vm.findClass "com/example/farthing/farthing/format/FormTextWritesSignsPinLaw" = some m.cls := hown
  rw [ef_1]
  have K := Keep.refl h0 ([] : List Addr)
  have Ksz := K.1
  show G s₁ (mkF m 0 #[.val (.int (2 : Int32)), .val (.int sd), .unset, .unset, .unset] [])
  refine hs.go (fun _ kk_ => XS.iloadN X0.here hx rfl (hb hby d1_0) rfl  kk_) ?_
  show G s₁ (mkF m 1 #[.val (.int (2 : Int32)), .val (.int sd), .unset, .unset, .unset] [(.int sd)])
  refine hs.go (fun _ kk_ => XS.sipush X0.here hx rfl (hb hby d1_1) kk_) ?_
  show G s₁ (mkF m 4 #[.val (.int (2 : Int32)), .val (.int sd), .unset, .unset, .unset] [(.int (255 : Int32)), (.int sd)])
  refine hs.go (fun _ kk_ => XS.iand X0.here hx rfl (hb hby d1_4) rfl kk_) ?_
  show G s₁ (mkF m 5 #[.val (.int (2 : Int32)), .val (.int sd), .unset, .unset, .unset] [(.int (sd &&& (255 : Int32)))])
  refine hs.go (fun _ kk_ => XS.i2c X0.here hx rfl (hb hby d1_5) rfl kk_) ?_
  show G s₁ (mkF m 6 #[.val (.int (2 : Int32)), .val (.int sd), .unset, .unset, .unset] [(.int ((sd &&& (255 : Int32)).toUInt32.toUInt16.toUInt32.toInt32))])
  refine nameIt (P := fun zz_ : Int32 => G s₁ (mkF m 6 #[.val (.int (2 : Int32)), .val (.int sd), .unset, .unset, .unset] [(.int zz_)])) ((sd &&& (255 : Int32)).toUInt32.toUInt16.toUInt32.toInt32) (fun c0 hc0 => ?_)
  show G s₁ (mkF m 6 #[.val (.int (2 : Int32)), .val (.int sd), .unset, .unset, .unset] [(.int c0)])
  refine hs.go (fun _ kk_ => XS.istoreN X0.here hx rfl (hb hby d1_6) rfl (l' := #[.val (.int (2 : Int32)), .val (.int sd), .val (.int c0), .unset, .unset]) rfl kk_) ?_
  show G s₁ (mkF m 7 #[.val (.int (2 : Int32)), .val (.int sd), .val (.int c0), .unset, .unset] [])
  refine hs.go (fun _ kk_ => XS.iloadN X0.here hx rfl (hb hby d1_7) rfl  kk_) ?_
  show G s₁ (mkF m 8 #[.val (.int (2 : Int32)), .val (.int sd), .val (.int c0), .unset, .unset] [(.int sd)])
  refine hs.go (fun _ kk_ => XS.bipush X0.here hx rfl (hb hby d1_8) kk_) ?_
  show G s₁ (mkF m 10 #[.val (.int (2 : Int32)), .val (.int sd), .val (.int c0), .unset, .unset] [(.int (8 : Int32)), (.int sd)])
  refine hs.go (fun _ kk_ => XS.iushr X0.here hx rfl (hb hby d1_10) rfl kk_) ?_
  show G s₁ (mkF m 11 #[.val (.int (2 : Int32)), .val (.int sd), .val (.int c0), .unset, .unset] [(.int ((sd.toUInt32 >>> ((8 : Int32) &&& 31).toUInt32).toInt32))])
  refine hs.go (fun _ kk_ => XS.sipush X0.here hx rfl (hb hby d1_11) kk_) ?_
  show G s₁ (mkF m 14 #[.val (.int (2 : Int32)), .val (.int sd), .val (.int c0), .unset, .unset] [(.int (255 : Int32)), (.int ((sd.toUInt32 >>> ((8 : Int32) &&& 31).toUInt32).toInt32))])
  refine hs.go (fun _ kk_ => XS.iand X0.here hx rfl (hb hby d1_14) rfl kk_) ?_
  show G s₁ (mkF m 15 #[.val (.int (2 : Int32)), .val (.int sd), .val (.int c0), .unset, .unset] [(.int (((sd.toUInt32 >>> ((8 : Int32) &&& 31).toUInt32).toInt32) &&& (255 : Int32)))])
  refine hs.go (fun _ kk_ => XS.i2c X0.here hx rfl (hb hby d1_15) rfl kk_) ?_
  show G s₁ (mkF m 16 #[.val (.int (2 : Int32)), .val (.int sd), .val (.int c0), .unset, .unset] [(.int ((((sd.toUInt32 >>> ((8 : Int32) &&& 31).toUInt32).toInt32) &&& (255 : Int32)).toUInt32.toUInt16.toUInt32.toInt32))])
  refine nameIt (P := fun zz_ : Int32 => G s₁ (mkF m 16 #[.val (.int (2 : Int32)), .val (.int sd), .val (.int c0), .unset, .unset] [(.int zz_)])) ((((sd.toUInt32 >>> ((8 : Int32) &&& 31).toUInt32).toInt32) &&& (255 : Int32)).toUInt32.toUInt16.toUInt32.toInt32) (fun c1 hc1 => ?_)
  show G s₁ (mkF m 16 #[.val (.int (2 : Int32)), .val (.int sd), .val (.int c0), .unset, .unset] [(.int c1)])
  refine hs.go (fun _ kk_ => XS.istoreN X0.here hx rfl (hb hby d1_16) rfl (l' := #[.val (.int (2 : Int32)), .val (.int sd), .val (.int c0), .val (.int c1), .unset]) rfl kk_) ?_
  show G s₁ (mkF m 17 #[.val (.int (2 : Int32)), .val (.int sd), .val (.int c0), .val (.int c1), .unset] [])
  refine hs.go (fun _ kk_ => XS.iloadN X0.here hx rfl (hb hby d1_17) rfl  kk_) ?_
  show G s₁ (mkF m 18 #[.val (.int (2 : Int32)), .val (.int sd), .val (.int c0), .val (.int c1), .unset] [(.int sd)])
  refine hs.go (fun _ kk_ => XS.bipush X0.here hx rfl (hb hby d1_18) kk_) ?_
  show G s₁ (mkF m 20 #[.val (.int (2 : Int32)), .val (.int sd), .val (.int c0), .val (.int c1), .unset] [(.int (16 : Int32)), (.int sd)])
  refine hs.go (fun _ kk_ => XS.iushr X0.here hx rfl (hb hby d1_20) rfl kk_) ?_
  show G s₁ (mkF m 21 #[.val (.int (2 : Int32)), .val (.int sd), .val (.int c0), .val (.int c1), .unset] [(.int ((sd.toUInt32 >>> ((16 : Int32) &&& 31).toUInt32).toInt32))])
  refine hs.go (fun _ kk_ => XS.sipush X0.here hx rfl (hb hby d1_21) kk_) ?_
  show G s₁ (mkF m 24 #[.val (.int (2 : Int32)), .val (.int sd), .val (.int c0), .val (.int c1), .unset] [(.int (255 : Int32)), (.int ((sd.toUInt32 >>> ((16 : Int32) &&& 31).toUInt32).toInt32))])
  refine hs.go (fun _ kk_ => XS.iand X0.here hx rfl (hb hby d1_24) rfl kk_) ?_
  show G s₁ (mkF m 25 #[.val (.int (2 : Int32)), .val (.int sd), .val (.int c0), .val (.int c1), .unset] [(.int (((sd.toUInt32 >>> ((16 : Int32) &&& 31).toUInt32).toInt32) &&& (255 : Int32)))])
  refine hs.go (fun _ kk_ => XS.i2c X0.here hx rfl (hb hby d1_25) rfl kk_) ?_
  show G s₁ (mkF m 26 #[.val (.int (2 : Int32)), .val (.int sd), .val (.int c0), .val (.int c1), .unset] [(.int ((((sd.toUInt32 >>> ((16 : Int32) &&& 31).toUInt32).toInt32) &&& (255 : Int32)).toUInt32.toUInt16.toUInt32.toInt32))])
  refine nameIt (P := fun zz_ : Int32 => G s₁ (mkF m 26 #[.val (.int (2 : Int32)), .val (.int sd), .val (.int c0), .val (.int c1), .unset] [(.int zz_)])) ((((sd.toUInt32 >>> ((16 : Int32) &&& 31).toUInt32).toInt32) &&& (255 : Int32)).toUInt32.toUInt16.toUInt32.toInt32) (fun c2 hc2 => ?_)
  show G s₁ (mkF m 26 #[.val (.int (2 : Int32)), .val (.int sd), .val (.int c0), .val (.int c1), .unset] [(.int c2)])
  refine hs.go (fun _ kk_ => XS.istore X0.here hx rfl (hb hby d1_26) rfl (l' := #[.val (.int (2 : Int32)), .val (.int sd), .val (.int c0), .val (.int c1), .val (.int c2)]) rfl kk_) ?_
  show G s₁ (mkF m 28 #[.val (.int (2 : Int32)), .val (.int sd), .val (.int c0), .val (.int c1), .val (.int c2)] [])
  refine hs.go (fun _ kk_ => XS.iloadN X0.here hx rfl (hb hby d1_28) rfl  kk_) ?_
  show G s₁ (mkF m 29 #[.val (.int (2 : Int32)), .val (.int sd), .val (.int c0), .val (.int c1), .val (.int c2)] [(.int (2 : Int32))])
  refine hs.go (fun _ kk_ => XS.ifYes X0.here hx rfl (pc0 := 29) (pc' := 43) rfl (hb hby d1_29) rfl ((if0 _ _).trans (feq ((by decide) : ¬ ((2 : Int32) = (0 : Int32)))).2) (by decide) (by decide) kk_) ?_
  show G s₁ (mkF m 43 #[.val (.int (2 : Int32)), .val (.int sd), .val (.int c0), .val (.int c1), .val (.int c2)] [])
  refine hs.go (fun _ kk_ => XS.iloadN X0.here hx rfl (hb hby d1_43) rfl  kk_) ?_
  show G s₁ (mkF m 44 #[.val (.int (2 : Int32)), .val (.int sd), .val (.int c0), .val (.int c1), .val (.int c2)] [(.int (2 : Int32))])
  refine hs.go (fun _ kk_ => XS.iconst X0.here hx rfl (hb hby d1_44) kk_) ?_
  show G s₁ (mkF m 45 #[.val (.int (2 : Int32)), .val (.int sd), .val (.int c0), .val (.int c1), .val (.int c2)] [(.int (1 : Int32)), (.int (2 : Int32))])
  refine hs.go (fun _ kk_ => XS.icmpYes X0.here hx rfl (pc0 := 45) (pc' := 63) rfl (hb hby d1_45) rfl (feq ((by decide) : ¬ ((2 : Int32) = (1 : Int32)))).2 (by decide) (by decide) kk_) ?_
  show G s₁ (mkF m 63 #[.val (.int (2 : Int32)), .val (.int sd), .val (.int c0), .val (.int c1), .val (.int c2)] [])
  refine hs.go (fun _ kk_ => XS.iloadN X0.here hx rfl (hb hby d1_63) rfl  kk_) ?_
  show G s₁ (mkF m 64 #[.val (.int (2 : Int32)), .val (.int sd), .val (.int c0), .val (.int c1), .val (.int c2)] [(.int (2 : Int32))])
  refine hs.go (fun _ kk_ => XS.iconst X0.here hx rfl (hb hby d1_64) kk_) ?_
  show G s₁ (mkF m 65 #[.val (.int (2 : Int32)), .val (.int sd), .val (.int c0), .val (.int c1), .val (.int c2)] [(.int (2 : Int32)), (.int (2 : Int32))])
  refine hs.go (fun _ kk_ => XS.icmpNo X0.here hx rfl (hb hby d1_65) rfl (teq (rfl : (2 : Int32) = (2 : Int32))).2 kk_) ?_
  show G s₁ (mkF m 68 #[.val (.int (2 : Int32)), .val (.int sd), .val (.int c0), .val (.int c1), .val (.int c2)] [])
  refine rNewO hs X0 hx hZ hown (hw _ (List.mem_of_getElem? (i := 4) rfl)) (hw _ (List.mem_of_getElem? (i := 5) rfl)) (hw _ (List.mem_of_getElem? (i := 6) rfl)) rfl (hb hby d1_68) (by decide) (by decide) (fun T1 h1 sa g1 X1 E1 E_sa D1 => ?_)
  have g_sa : n0 ≤ sa := by rw [g1]; exact Z0
  have Z0 := Nat.le_trans Z0 E1.1
  have O := O.ext E1
  have K := K.ext E1
  have sz_sa : h0.size ≤ sa := by rw [g1]; exact Ksz
  have Ksz := K.1
  have F_value_sa : Fld Z h1 sa "java/lang/String" "value" "[B" .null := D1 (Or.inr (hw _ (List.mem_of_getElem? (i := 20) rfl))) (ty := (.array .byte)) (by decide)
  have F_coder_sa : Fld Z h1 sa "java/lang/String" "coder" "B" (.int (0 : Int32)) := D1 (Or.inr (hw _ (List.mem_of_getElem? (i := 21) rfl))) (ty := .byte) (by decide)
  show G T1 (mkF m 71 #[.val (.int (2 : Int32)), .val (.int sd), .val (.int c0), .val (.int c1), .val (.int c2)] [(.ref sa)])
  refine hs.go (fun _ kk_ => XS.dup X1.here hx rfl (hb hby d1_71) rfl rfl kk_) ?_
  show G T1 (mkF m 72 #[.val (.int (2 : Int32)), .val (.int sd), .val (.int c0), .val (.int c1), .val (.int c2)] [(.ref sa), (.ref sa)])
  refine hs.go (fun _ kk_ => XS.iconst X1.here hx rfl (hb hby d1_72) kk_) ?_
  show G T1 (mkF m 73 #[.val (.int (2 : Int32)), .val (.int sd), .val (.int c0), .val (.int c1), .val (.int c2)] [(.int (2 : Int32)), (.ref sa), (.ref sa)])
  refine rNewP hs X1 hx hZ (hw _ (List.mem_of_getElem? (i := 7) rfl)) rfl (hb hby d1_73) rfl (by decide) 2 2 (by decide) (by decide) (by decide) (by decide) (fun T2 h2 k2 ca g2 X2 E2 V_ca => ?_)
  have V_ca : Arv Z h2 ca k2 .char (2 : Int32) [(.int (0 : Int32)), (.int (0 : Int32))] (.int (0 : Int32)) := V_ca
  have g_ca : n0 ≤ ca := by rw [g2]; exact Z0
  have Z0 := Nat.le_trans Z0 E2.1
  have ne_sa_ca : sa ≠ ca := Nat.ne_of_lt (Nat.lt_of_lt_of_le E_sa.lt (Nat.le_of_eq g2.symm))
  have O := O.ext E2
  have E_sa := E_sa.ext E2
  have F_value_sa := F_value_sa.ext E2
  have F_coder_sa := F_coder_sa.ext E2
  have K := K.ext E2
  have sz_ca : h0.size ≤ ca := by rw [g2]; exact Ksz
  have Ksz := K.1
  show G T2 (mkF m 75 #[.val (.int (2 : Int32)), .val (.int sd), .val (.int c0), .val (.int c1), .val (.int c2)] [(.ref ca), (.ref sa), (.ref sa)])
  refine hs.go (fun _ kk_ => XS.dup X2.here hx rfl (hb hby d1_75) rfl rfl kk_) ?_
  show G T2 (mkF m 76 #[.val (.int (2 : Int32)), .val (.int sd), .val (.int c0), .val (.int c1), .val (.int c2)] [(.ref ca), (.ref ca), (.ref sa), (.ref sa)])
  refine hs.go (fun _ kk_ => XS.iconst X2.here hx rfl (hb hby d1_76) kk_) ?_
  show G T2 (mkF m 77 #[.val (.int (2 : Int32)), .val (.int sd), .val (.int c0), .val (.int c1), .val (.int c2)] [(.int (0 : Int32)), (.ref ca), (.ref ca), (.ref sa), (.ref sa)])
  refine hs.go (fun _ kk_ => XS.iloadN X2.here hx rfl (hb hby d1_77) rfl  kk_) ?_
  show G T2 (mkF m 78 #[.val (.int (2 : Int32)), .val (.int sd), .val (.int c0), .val (.int c1), .val (.int c2)] [(.int c0), (.int (0 : Int32)), (.ref ca), (.ref ca), (.ref sa), (.ref sa)])
  refine rStC hs X2 hx hZ V_ca g_ca ⟨by decide, by decide⟩ 0 (by decide) (by simp) (x' := c0) (own_cx hc0) rfl rfl (hb hby d1_78) (fun T3 h3 X3 W3 V_ca => ?_)
  have V_ca : Arv Z h3 ca k2 .char (2 : Int32) [(.int c0), (.int (0 : Int32))] (.int (0 : Int32)) := V_ca
  have O := O.wr W3 g_ca
  have E_sa := E_sa.wr W3
  have F_value_sa := F_value_sa.other W3 (Or.inl ne_sa_ca)
  have F_coder_sa := F_coder_sa.other W3 (Or.inl ne_sa_ca)
  have K := K.wr W3 (Or.inr sz_ca)
  have Ksz := K.1
  have Z0 := Nat.le_trans Z0 (Keep.of_wr W3).1
  show G T3 (mkF m 79 #[.val (.int (2 : Int32)), .val (.int sd), .val (.int c0), .val (.int c1), .val (.int c2)] [(.ref ca), (.ref sa), (.ref sa)])
  refine hs.go (fun _ kk_ => XS.dup X3.here hx rfl (hb hby d1_79) rfl rfl kk_) ?_
  show G T3 (mkF m 80 #[.val (.int (2 : Int32)), .val (.int sd), .val (.int c0), .val (.int c1), .val (.int c2)] [(.ref ca), (.ref ca), (.ref sa), (.ref sa)])
  refine hs.go (fun _ kk_ => XS.iconst X3.here hx rfl (hb hby d1_80) kk_) ?_
  show G T3 (mkF m 81 #[.val (.int (2 : Int32)), .val (.int sd), .val (.int c0), .val (.int c1), .val (.int c2)] [(.int (1 : Int32)), (.ref ca), (.ref ca), (.ref sa), (.ref sa)])
  refine hs.go (fun _ kk_ => XS.iloadN X3.here hx rfl (hb hby d1_81) rfl  kk_) ?_
  show G T3 (mkF m 82 #[.val (.int (2 : Int32)), .val (.int sd), .val (.int c0), .val (.int c1), .val (.int c2)] [(.int c1), (.int (1 : Int32)), (.ref ca), (.ref ca), (.ref sa), (.ref sa)])
  refine rStC hs X3 hx hZ V_ca g_ca ⟨by decide, by decide⟩ 1 (by decide) (by simp) (x' := c1) (own_cx hc1) rfl rfl (hb hby d1_82) (fun T4 h4 X4 W4 V_ca => ?_)
  have V_ca : Arv Z h4 ca k2 .char (2 : Int32) [(.int c0), (.int c1)] (.int (0 : Int32)) := V_ca
  have O := O.wr W4 g_ca
  have E_sa := E_sa.wr W4
  have F_value_sa := F_value_sa.other W4 (Or.inl ne_sa_ca)
  have F_coder_sa := F_coder_sa.other W4 (Or.inl ne_sa_ca)
  have K := K.wr W4 (Or.inr sz_ca)
  have Ksz := K.1
  have Z0 := Nat.le_trans Z0 (Keep.of_wr W4).1
  show G T4 (mkF m 83 #[.val (.int (2 : Int32)), .val (.int sd), .val (.int c0), .val (.int c1), .val (.int c2)] [(.ref ca), (.ref sa), (.ref sa)])
  refine rCallI hs X4 hx hZ (as' := [(.ref ca)]) hJ (i1_2 l Z a0 hw [] (J) hJ sa ca c0 c1 k2 h4 n0 Z0 O cw S0 hcw E_sa g_sa F_value_sa F_coder_sa V_ca (own_hx hc0) (own_hx hc1)) rfl hown (hw _ (List.mem_of_getElem? (i := 8) rfl)) (hw _ (List.mem_of_getElem? (i := 9) rfl)) (hw _ (List.mem_of_getElem? (i := 6) rfl)) (hw _ (List.mem_of_getElem? (i := 10) rfl)) hy_2 rfl (by rw [hml]; rfl) [(.ref sa)] (lenOf pd_4 rfl) rfl 1 (by show 2 * 0 + _ ≤ _; exact Nat.le_of_eq rfl) (hb hby d1_83) (by decide) (by decide) (by decide) (by decide) (fun r5 T5 h5 vm5 X5 q5 => ?_)
  obtain ⟨rfl, Kc5, E_sa, ⟨vb_sa, kv_sa, vv_sa, F_value_sa, V_vb_sa⟩, hj5⟩ := q5
  have X5 := X5 _ hj5
  have O := O.keep Kc5 (allS g_sa all0)
  have K := K.trans Kc5 (fun x hx => Or.inr (by cases List.mem_singleton.mp hx; exact sz_sa))
  have Ksz := K.1
  have Z0 := Nat.le_trans Z0 Kc5.1
  show G T5 (mkF m 86 #[.val (.int (2 : Int32)), .val (.int sd), .val (.int c0), .val (.int c1), .val (.int c2)] [(.ref sa)])
  exact rRetA fin hJ X5 hx (by decide) (by decide) hret rfl rfl rfl (hb hby d1_86) (fun vm' hj => ⟨sa, vb_sa, kv_sa, vv_sa, rfl, K, E_sa, F_value_sa, V_vb_sa, hj⟩)
theorem d1_87 : decode method_3_code 87 = .ok (.new 22, 3) := by decide +kernel
theorem d1_90 : decode method_3_code 90 = .ok (.dup, 1) := by decide +kernel
theorem d1_91 : decode method_3_code 91 = .ok (.iconst 3, 1) := by decide +kernel
theorem d1_92 : decode method_3_code 92 = .ok (.newarray .char, 2) := by decide +kernel
theorem d1_94 : decode method_3_code 94 = .ok (.dup, 1) := by decide +kernel
theorem d1_95 : decode method_3_code 95 = .ok (.iconst 0, 1) := by decide +kernel
theorem d1_96 : decode method_3_code 96 = .ok (.iload_n 2, 1) := by decide +kernel
theorem d1_97 : decode method_3_code 97 = .ok (.castore, 1) := by decide +kernel
theorem d1_98 : decode method_3_code 98 = .ok (.dup, 1) := by decide +kernel
theorem d1_99 : decode method_3_code 99 = .ok (.iconst 1, 1) := by decide +kernel
theorem d1_100 : decode method_3_code 100 = .ok (.iload_n 3, 1) := by decide +kernel
theorem d1_101 : decode method_3_code 101 = .ok (.castore, 1) := by decide +kernel
theorem d1_102 : decode method_3_code 102 = .ok (.dup, 1) := by decide +kernel
theorem d1_103 : decode method_3_code 103 = .ok (.iconst 2, 1) := by decide +kernel
theorem d1_104 : decode method_3_code 104 = .ok (.iload 4, 2) := by decide +kernel
theorem d1_106 : decode method_3_code 106 = .ok (.castore, 1) := by decide +kernel
theorem d1_107 : decode method_3_code 107 = .ok (.invokespecial 24, 3) := by decide +kernel
theorem d1_110 : decode method_3_code 110 = .ok (.areturn, 1) := by decide +kernel
set_option maxRecDepth 65536 in
set_option maxHeartbeats 40000000 in
theorem tx_3 (l : Launch) (Z : State) (a0 : Array Value) (hw : ∀ d ∈ tables_1, d.before a0 Z = true) (ws : List Jvm.Cond) (J : Vm → Prop) (hJ : Stb J) (sd : Int32) (h0 : Heap) (n0 : Nat) (Z0 : n0 ≤ h0.size) (O : Old Z n0 h0) (cw : Int32) (S0 : Sta Z Z.heap "java/lang/String" "COMPACT_STRINGS" "Z" (.int cw)) (hcw : ¬ (cw = (0 : Int32))) :
    Con l Z (⟨"com/example/farthing/farthing/format/FormTextWritesSignsPinLaw", "text", "(II)Ljava/lang/String;"⟩ : MethodName) method_3_code 5 (some (.object "java/lang/String")) ws ({ frames := 4, cells := 3, slots := 10, locals := 66 } : Room) #[(.int (3 : Int32)), (.int sd)] h0 n0 J (fun v h vm => ∃ (a b : Addr) (k : ClassId) (vs : List Value), v = some (.ref a) ∧ Keep h0 h [] ∧ Exa Z h a "java/lang/String" ∧ Fld Z h a "java/lang/String" "value" "[B" (.ref b) ∧ Arv Z h b k .byte (3 : Int32) vs (.int (0 : Int32)) ∧ J vm) := by
  refine Con.of pn_1 ?_
  intro G p e s m below meth c s₁ hs hx hby hml hown hnm hret hZ X0 XR hh0 hJ0 fin
  have hml : c.maxLocals = 5 := hml
  have hown : s.vm.findClass "com/example/farthing/farthing/format/FormTextWritesSignsPinLaw" = some m.cls := hown
  rw [ef_1]
  have K := Keep.refl h0 ([] : List Addr)
  have Ksz := K.1
  show G s₁ (mkF m 0 #[.val (.int (3 : Int32)), .val (.int sd), .unset, .unset, .unset] [])
  refine hs.go (fun _ kk_ => XS.iloadN X0.here hx rfl (hb hby d1_0) rfl  kk_) ?_
  show G s₁ (mkF m 1 #[.val (.int (3 : Int32)), .val (.int sd), .unset, .unset, .unset] [(.int sd)])
  refine hs.go (fun _ kk_ => XS.sipush X0.here hx rfl (hb hby d1_1) kk_) ?_
  show G s₁ (mkF m 4 #[.val (.int (3 : Int32)), .val (.int sd), .unset, .unset, .unset] [(.int (255 : Int32)), (.int sd)])
  refine hs.go (fun _ kk_ => XS.iand X0.here hx rfl (hb hby d1_4) rfl kk_) ?_
  show G s₁ (mkF m 5 #[.val (.int (3 : Int32)), .val (.int sd), .unset, .unset, .unset] [(.int (sd &&& (255 : Int32)))])
  refine hs.go (fun _ kk_ => XS.i2c X0.here hx rfl (hb hby d1_5) rfl kk_) ?_
  show G s₁ (mkF m 6 #[.val (.int (3 : Int32)), .val (.int sd), .unset, .unset, .unset] [(.int ((sd &&& (255 : Int32)).toUInt32.toUInt16.toUInt32.toInt32))])
  refine nameIt (P := fun zz_ : Int32 => G s₁ (mkF m 6 #[.val (.int (3 : Int32)), .val (.int sd), .unset, .unset, .unset] [(.int zz_)])) ((sd &&& (255 : Int32)).toUInt32.toUInt16.toUInt32.toInt32) (fun c0 hc0 => ?_)
  show G s₁ (mkF m 6 #[.val (.int (3 : Int32)), .val (.int sd), .unset, .unset, .unset] [(.int c0)])
  refine hs.go (fun _ kk_ => XS.istoreN X0.here hx rfl (hb hby d1_6) rfl (l' := #[.val (.int (3 : Int32)), .val (.int sd), .val (.int c0), .unset, .unset]) rfl kk_) ?_
  show G s₁ (mkF m 7 #[.val (.int (3 : Int32)), .val (.int sd), .val (.int c0), .unset, .unset] [])
  refine hs.go (fun _ kk_ => XS.iloadN X0.here hx rfl (hb hby d1_7) rfl  kk_) ?_
  show G s₁ (mkF m 8 #[.val (.int (3 : Int32)), .val (.int sd), .val (.int c0), .unset, .unset] [(.int sd)])
  refine hs.go (fun _ kk_ => XS.bipush X0.here hx rfl (hb hby d1_8) kk_) ?_
  show G s₁ (mkF m 10 #[.val (.int (3 : Int32)), .val (.int sd), .val (.int c0), .unset, .unset] [(.int (8 : Int32)), (.int sd)])
  refine hs.go (fun _ kk_ => XS.iushr X0.here hx rfl (hb hby d1_10) rfl kk_) ?_
  show G s₁ (mkF m 11 #[.val (.int (3 : Int32)), .val (.int sd), .val (.int c0), .unset, .unset] [(.int ((sd.toUInt32 >>> ((8 : Int32) &&& 31).toUInt32).toInt32))])
  refine hs.go (fun _ kk_ => XS.sipush X0.here hx rfl (hb hby d1_11) kk_) ?_
  show G s₁ (mkF m 14 #[.val (.int (3 : Int32)), .val (.int sd), .val (.int c0), .unset, .unset] [(.int (255 : Int32)), (.int ((sd.toUInt32 >>> ((8 : Int32) &&& 31).toUInt32).toInt32))])
  refine hs.go (fun _ kk_ => XS.iand X0.here hx rfl (hb hby d1_14) rfl kk_) ?_
  show G s₁ (mkF m 15 #[.val (.int (3 : Int32)), .val (.int sd), .val (.int c0), .unset, .unset] [(.int (((sd.toUInt32 >>> ((8 : Int32) &&& 31).toUInt32).toInt32) &&& (255 : Int32)))])
  refine hs.go (fun _ kk_ => XS.i2c X0.here hx rfl (hb hby d1_15) rfl kk_) ?_
  show G s₁ (mkF m 16 #[.val (.int (3 : Int32)), .val (.int sd), .val (.int c0), .unset, .unset] [(.int ((((sd.toUInt32 >>> ((8 : Int32) &&& 31).toUInt32).toInt32) &&& (255 : Int32)).toUInt32.toUInt16.toUInt32.toInt32))])
  refine nameIt (P := fun zz_ : Int32 => G s₁ (mkF m 16 #[.val (.int (3 : Int32)), .val (.int sd), .val (.int c0), .unset, .unset] [(.int zz_)])) ((((sd.toUInt32 >>> ((8 : Int32) &&& 31).toUInt32).toInt32) &&& (255 : Int32)).toUInt32.toUInt16.toUInt32.toInt32) (fun c1 hc1 => ?_)
  show G s₁ (mkF m 16 #[.val (.int (3 : Int32)), .val (.int sd), .val (.int c0), .unset, .unset] [(.int c1)])
  refine hs.go (fun _ kk_ => XS.istoreN X0.here hx rfl (hb hby d1_16) rfl (l' := #[.val (.int (3 : Int32)), .val (.int sd), .val (.int c0), .val (.int c1), .unset]) rfl kk_) ?_
  show G s₁ (mkF m 17 #[.val (.int (3 : Int32)), .val (.int sd), .val (.int c0), .val (.int c1), .unset] [])
  refine hs.go (fun _ kk_ => XS.iloadN X0.here hx rfl (hb hby d1_17) rfl  kk_) ?_
  show G s₁ (mkF m 18 #[.val (.int (3 : Int32)), .val (.int sd), .val (.int c0), .val (.int c1), .unset] [(.int sd)])
  refine hs.go (fun _ kk_ => XS.bipush X0.here hx rfl (hb hby d1_18) kk_) ?_
  show G s₁ (mkF m 20 #[.val (.int (3 : Int32)), .val (.int sd), .val (.int c0), .val (.int c1), .unset] [(.int (16 : Int32)), (.int sd)])
  refine hs.go (fun _ kk_ => XS.iushr X0.here hx rfl (hb hby d1_20) rfl kk_) ?_
  show G s₁ (mkF m 21 #[.val (.int (3 : Int32)), .val (.int sd), .val (.int c0), .val (.int c1), .unset] [(.int ((sd.toUInt32 >>> ((16 : Int32) &&& 31).toUInt32).toInt32))])
  refine hs.go (fun _ kk_ => XS.sipush X0.here hx rfl (hb hby d1_21) kk_) ?_
  show G s₁ (mkF m 24 #[.val (.int (3 : Int32)), .val (.int sd), .val (.int c0), .val (.int c1), .unset] [(.int (255 : Int32)), (.int ((sd.toUInt32 >>> ((16 : Int32) &&& 31).toUInt32).toInt32))])
  refine hs.go (fun _ kk_ => XS.iand X0.here hx rfl (hb hby d1_24) rfl kk_) ?_
  show G s₁ (mkF m 25 #[.val (.int (3 : Int32)), .val (.int sd), .val (.int c0), .val (.int c1), .unset] [(.int (((sd.toUInt32 >>> ((16 : Int32) &&& 31).toUInt32).toInt32) &&& (255 : Int32)))])
  refine hs.go (fun _ kk_ => XS.i2c X0.here hx rfl (hb hby d1_25) rfl kk_) ?_
  show G s₁ (mkF m 26 #[.val (.int (3 : Int32)), .val (.int sd), .val (.int c0), .val (.int c1), .unset] [(.int ((((sd.toUInt32 >>> ((16 : Int32) &&& 31).toUInt32).toInt32) &&& (255 : Int32)).toUInt32.toUInt16.toUInt32.toInt32))])
  refine nameIt (P := fun zz_ : Int32 => G s₁ (mkF m 26 #[.val (.int (3 : Int32)), .val (.int sd), .val (.int c0), .val (.int c1), .unset] [(.int zz_)])) ((((sd.toUInt32 >>> ((16 : Int32) &&& 31).toUInt32).toInt32) &&& (255 : Int32)).toUInt32.toUInt16.toUInt32.toInt32) (fun c2 hc2 => ?_)
  show G s₁ (mkF m 26 #[.val (.int (3 : Int32)), .val (.int sd), .val (.int c0), .val (.int c1), .unset] [(.int c2)])
  refine hs.go (fun _ kk_ => XS.istore X0.here hx rfl (hb hby d1_26) rfl (l' := #[.val (.int (3 : Int32)), .val (.int sd), .val (.int c0), .val (.int c1), .val (.int c2)]) rfl kk_) ?_
  show G s₁ (mkF m 28 #[.val (.int (3 : Int32)), .val (.int sd), .val (.int c0), .val (.int c1), .val (.int c2)] [])
  refine hs.go (fun _ kk_ => XS.iloadN X0.here hx rfl (hb hby d1_28) rfl  kk_) ?_
  show G s₁ (mkF m 29 #[.val (.int (3 : Int32)), .val (.int sd), .val (.int c0), .val (.int c1), .val (.int c2)] [(.int (3 : Int32))])
  refine hs.go (fun _ kk_ => XS.ifYes X0.here hx rfl (pc0 := 29) (pc' := 43) rfl (hb hby d1_29) rfl ((if0 _ _).trans (feq ((by decide) : ¬ ((3 : Int32) = (0 : Int32)))).2) (by decide) (by decide) kk_) ?_
  show G s₁ (mkF m 43 #[.val (.int (3 : Int32)), .val (.int sd), .val (.int c0), .val (.int c1), .val (.int c2)] [])
  refine hs.go (fun _ kk_ => XS.iloadN X0.here hx rfl (hb hby d1_43) rfl  kk_) ?_
  show G s₁ (mkF m 44 #[.val (.int (3 : Int32)), .val (.int sd), .val (.int c0), .val (.int c1), .val (.int c2)] [(.int (3 : Int32))])
  refine hs.go (fun _ kk_ => XS.iconst X0.here hx rfl (hb hby d1_44) kk_) ?_
  show G s₁ (mkF m 45 #[.val (.int (3 : Int32)), .val (.int sd), .val (.int c0), .val (.int c1), .val (.int c2)] [(.int (1 : Int32)), (.int (3 : Int32))])
  refine hs.go (fun _ kk_ => XS.icmpYes X0.here hx rfl (pc0 := 45) (pc' := 63) rfl (hb hby d1_45) rfl (feq ((by decide) : ¬ ((3 : Int32) = (1 : Int32)))).2 (by decide) (by decide) kk_) ?_
  show G s₁ (mkF m 63 #[.val (.int (3 : Int32)), .val (.int sd), .val (.int c0), .val (.int c1), .val (.int c2)] [])
  refine hs.go (fun _ kk_ => XS.iloadN X0.here hx rfl (hb hby d1_63) rfl  kk_) ?_
  show G s₁ (mkF m 64 #[.val (.int (3 : Int32)), .val (.int sd), .val (.int c0), .val (.int c1), .val (.int c2)] [(.int (3 : Int32))])
  refine hs.go (fun _ kk_ => XS.iconst X0.here hx rfl (hb hby d1_64) kk_) ?_
  show G s₁ (mkF m 65 #[.val (.int (3 : Int32)), .val (.int sd), .val (.int c0), .val (.int c1), .val (.int c2)] [(.int (2 : Int32)), (.int (3 : Int32))])
  refine hs.go (fun _ kk_ => XS.icmpYes X0.here hx rfl (pc0 := 65) (pc' := 87) rfl (hb hby d1_65) rfl (feq ((by decide) : ¬ ((3 : Int32) = (2 : Int32)))).2 (by decide) (by decide) kk_) ?_
  show G s₁ (mkF m 87 #[.val (.int (3 : Int32)), .val (.int sd), .val (.int c0), .val (.int c1), .val (.int c2)] [])
  refine rNewO hs X0 hx hZ hown (hw _ (List.mem_of_getElem? (i := 4) rfl)) (hw _ (List.mem_of_getElem? (i := 5) rfl)) (hw _ (List.mem_of_getElem? (i := 6) rfl)) rfl (hb hby d1_87) (by decide) (by decide) (fun T1 h1 sa g1 X1 E1 E_sa D1 => ?_)
  have g_sa : n0 ≤ sa := by rw [g1]; exact Z0
  have Z0 := Nat.le_trans Z0 E1.1
  have O := O.ext E1
  have K := K.ext E1
  have sz_sa : h0.size ≤ sa := by rw [g1]; exact Ksz
  have Ksz := K.1
  have F_value_sa : Fld Z h1 sa "java/lang/String" "value" "[B" .null := D1 (Or.inr (hw _ (List.mem_of_getElem? (i := 20) rfl))) (ty := (.array .byte)) (by decide)
  have F_coder_sa : Fld Z h1 sa "java/lang/String" "coder" "B" (.int (0 : Int32)) := D1 (Or.inr (hw _ (List.mem_of_getElem? (i := 21) rfl))) (ty := .byte) (by decide)
  show G T1 (mkF m 90 #[.val (.int (3 : Int32)), .val (.int sd), .val (.int c0), .val (.int c1), .val (.int c2)] [(.ref sa)])
  refine hs.go (fun _ kk_ => XS.dup X1.here hx rfl (hb hby d1_90) rfl rfl kk_) ?_
  show G T1 (mkF m 91 #[.val (.int (3 : Int32)), .val (.int sd), .val (.int c0), .val (.int c1), .val (.int c2)] [(.ref sa), (.ref sa)])
  refine hs.go (fun _ kk_ => XS.iconst X1.here hx rfl (hb hby d1_91) kk_) ?_
  show G T1 (mkF m 92 #[.val (.int (3 : Int32)), .val (.int sd), .val (.int c0), .val (.int c1), .val (.int c2)] [(.int (3 : Int32)), (.ref sa), (.ref sa)])
  refine rNewP hs X1 hx hZ (hw _ (List.mem_of_getElem? (i := 7) rfl)) rfl (hb hby d1_92) rfl (by decide) 3 3 (by decide) (by decide) (by decide) (by decide) (fun T2 h2 k2 ca g2 X2 E2 V_ca => ?_)
  have V_ca : Arv Z h2 ca k2 .char (3 : Int32) [(.int (0 : Int32)), (.int (0 : Int32)), (.int (0 : Int32))] (.int (0 : Int32)) := V_ca
  have g_ca : n0 ≤ ca := by rw [g2]; exact Z0
  have Z0 := Nat.le_trans Z0 E2.1
  have ne_sa_ca : sa ≠ ca := Nat.ne_of_lt (Nat.lt_of_lt_of_le E_sa.lt (Nat.le_of_eq g2.symm))
  have O := O.ext E2
  have E_sa := E_sa.ext E2
  have F_value_sa := F_value_sa.ext E2
  have F_coder_sa := F_coder_sa.ext E2
  have K := K.ext E2
  have sz_ca : h0.size ≤ ca := by rw [g2]; exact Ksz
  have Ksz := K.1
  show G T2 (mkF m 94 #[.val (.int (3 : Int32)), .val (.int sd), .val (.int c0), .val (.int c1), .val (.int c2)] [(.ref ca), (.ref sa), (.ref sa)])
  refine hs.go (fun _ kk_ => XS.dup X2.here hx rfl (hb hby d1_94) rfl rfl kk_) ?_
  show G T2 (mkF m 95 #[.val (.int (3 : Int32)), .val (.int sd), .val (.int c0), .val (.int c1), .val (.int c2)] [(.ref ca), (.ref ca), (.ref sa), (.ref sa)])
  refine hs.go (fun _ kk_ => XS.iconst X2.here hx rfl (hb hby d1_95) kk_) ?_
  show G T2 (mkF m 96 #[.val (.int (3 : Int32)), .val (.int sd), .val (.int c0), .val (.int c1), .val (.int c2)] [(.int (0 : Int32)), (.ref ca), (.ref ca), (.ref sa), (.ref sa)])
  refine hs.go (fun _ kk_ => XS.iloadN X2.here hx rfl (hb hby d1_96) rfl  kk_) ?_
  show G T2 (mkF m 97 #[.val (.int (3 : Int32)), .val (.int sd), .val (.int c0), .val (.int c1), .val (.int c2)] [(.int c0), (.int (0 : Int32)), (.ref ca), (.ref ca), (.ref sa), (.ref sa)])
  refine rStC hs X2 hx hZ V_ca g_ca ⟨by decide, by decide⟩ 0 (by decide) (by simp) (x' := c0) (own_cx hc0) rfl rfl (hb hby d1_97) (fun T3 h3 X3 W3 V_ca => ?_)
  have V_ca : Arv Z h3 ca k2 .char (3 : Int32) [(.int c0), (.int (0 : Int32)), (.int (0 : Int32))] (.int (0 : Int32)) := V_ca
  have O := O.wr W3 g_ca
  have E_sa := E_sa.wr W3
  have F_value_sa := F_value_sa.other W3 (Or.inl ne_sa_ca)
  have F_coder_sa := F_coder_sa.other W3 (Or.inl ne_sa_ca)
  have K := K.wr W3 (Or.inr sz_ca)
  have Ksz := K.1
  have Z0 := Nat.le_trans Z0 (Keep.of_wr W3).1
  show G T3 (mkF m 98 #[.val (.int (3 : Int32)), .val (.int sd), .val (.int c0), .val (.int c1), .val (.int c2)] [(.ref ca), (.ref sa), (.ref sa)])
  refine hs.go (fun _ kk_ => XS.dup X3.here hx rfl (hb hby d1_98) rfl rfl kk_) ?_
  show G T3 (mkF m 99 #[.val (.int (3 : Int32)), .val (.int sd), .val (.int c0), .val (.int c1), .val (.int c2)] [(.ref ca), (.ref ca), (.ref sa), (.ref sa)])
  refine hs.go (fun _ kk_ => XS.iconst X3.here hx rfl (hb hby d1_99) kk_) ?_
  show G T3 (mkF m 100 #[.val (.int (3 : Int32)), .val (.int sd), .val (.int c0), .val (.int c1), .val (.int c2)] [(.int (1 : Int32)), (.ref ca), (.ref ca), (.ref sa), (.ref sa)])
  refine hs.go (fun _ kk_ => XS.iloadN X3.here hx rfl (hb hby d1_100) rfl  kk_) ?_
  show G T3 (mkF m 101 #[.val (.int (3 : Int32)), .val (.int sd), .val (.int c0), .val (.int c1), .val (.int c2)] [(.int c1), (.int (1 : Int32)), (.ref ca), (.ref ca), (.ref sa), (.ref sa)])
  refine rStC hs X3 hx hZ V_ca g_ca ⟨by decide, by decide⟩ 1 (by decide) (by simp) (x' := c1) (own_cx hc1) rfl rfl (hb hby d1_101) (fun T4 h4 X4 W4 V_ca => ?_)
  have V_ca : Arv Z h4 ca k2 .char (3 : Int32) [(.int c0), (.int c1), (.int (0 : Int32))] (.int (0 : Int32)) := V_ca
  have O := O.wr W4 g_ca
  have E_sa := E_sa.wr W4
  have F_value_sa := F_value_sa.other W4 (Or.inl ne_sa_ca)
  have F_coder_sa := F_coder_sa.other W4 (Or.inl ne_sa_ca)
  have K := K.wr W4 (Or.inr sz_ca)
  have Ksz := K.1
  have Z0 := Nat.le_trans Z0 (Keep.of_wr W4).1
  show G T4 (mkF m 102 #[.val (.int (3 : Int32)), .val (.int sd), .val (.int c0), .val (.int c1), .val (.int c2)] [(.ref ca), (.ref sa), (.ref sa)])
  refine hs.go (fun _ kk_ => XS.dup X4.here hx rfl (hb hby d1_102) rfl rfl kk_) ?_
  show G T4 (mkF m 103 #[.val (.int (3 : Int32)), .val (.int sd), .val (.int c0), .val (.int c1), .val (.int c2)] [(.ref ca), (.ref ca), (.ref sa), (.ref sa)])
  refine hs.go (fun _ kk_ => XS.iconst X4.here hx rfl (hb hby d1_103) kk_) ?_
  show G T4 (mkF m 104 #[.val (.int (3 : Int32)), .val (.int sd), .val (.int c0), .val (.int c1), .val (.int c2)] [(.int (2 : Int32)), (.ref ca), (.ref ca), (.ref sa), (.ref sa)])
  refine hs.go (fun _ kk_ => XS.iload X4.here hx rfl (hb hby d1_104) rfl  kk_) ?_
  show G T4 (mkF m 106 #[.val (.int (3 : Int32)), .val (.int sd), .val (.int c0), .val (.int c1), .val (.int c2)] [(.int c2), (.int (2 : Int32)), (.ref ca), (.ref ca), (.ref sa), (.ref sa)])
  refine rStC hs X4 hx hZ V_ca g_ca ⟨by decide, by decide⟩ 2 (by decide) (by simp) (x' := c2) (own_cx hc2) rfl rfl (hb hby d1_106) (fun T5 h5 X5 W5 V_ca => ?_)
  have V_ca : Arv Z h5 ca k2 .char (3 : Int32) [(.int c0), (.int c1), (.int c2)] (.int (0 : Int32)) := V_ca
  have O := O.wr W5 g_ca
  have E_sa := E_sa.wr W5
  have F_value_sa := F_value_sa.other W5 (Or.inl ne_sa_ca)
  have F_coder_sa := F_coder_sa.other W5 (Or.inl ne_sa_ca)
  have K := K.wr W5 (Or.inr sz_ca)
  have Ksz := K.1
  have Z0 := Nat.le_trans Z0 (Keep.of_wr W5).1
  show G T5 (mkF m 107 #[.val (.int (3 : Int32)), .val (.int sd), .val (.int c0), .val (.int c1), .val (.int c2)] [(.ref ca), (.ref sa), (.ref sa)])
  refine rCallI hs X5 hx hZ (as' := [(.ref ca)]) hJ (i1_3 l Z a0 hw [] (J) hJ sa ca c0 c1 c2 k2 h5 n0 Z0 O cw S0 hcw E_sa g_sa F_value_sa F_coder_sa V_ca (own_hx hc0) (own_hx hc1) (own_hx hc2)) rfl hown (hw _ (List.mem_of_getElem? (i := 8) rfl)) (hw _ (List.mem_of_getElem? (i := 9) rfl)) (hw _ (List.mem_of_getElem? (i := 6) rfl)) (hw _ (List.mem_of_getElem? (i := 10) rfl)) hy_2 rfl (by rw [hml]; rfl) [(.ref sa)] (lenOf pd_4 rfl) rfl 1 (by show 2 * 0 + _ ≤ _; exact Nat.le_of_eq rfl) (hb hby d1_107) (by decide) (by decide) (by decide) (by decide) (fun r6 T6 h6 vm6 X6 q6 => ?_)
  obtain ⟨rfl, Kc6, E_sa, ⟨vb_sa, kv_sa, vv_sa, F_value_sa, V_vb_sa⟩, hj6⟩ := q6
  have X6 := X6 _ hj6
  have O := O.keep Kc6 (allS g_sa all0)
  have K := K.trans Kc6 (fun x hx => Or.inr (by cases List.mem_singleton.mp hx; exact sz_sa))
  have Ksz := K.1
  have Z0 := Nat.le_trans Z0 Kc6.1
  show G T6 (mkF m 110 #[.val (.int (3 : Int32)), .val (.int sd), .val (.int c0), .val (.int c1), .val (.int c2)] [(.ref sa)])
  exact rRetA fin hJ X6 hx (by decide) (by decide) hret rfl rfl rfl (hb hby d1_110) (fun vm' hj => ⟨sa, vb_sa, kv_sa, vv_sa, rfl, K, E_sa, F_value_sa, V_vb_sa, hj⟩)
theorem d1_32 : decode method_3_code 32 = .ok (.new 22, 3) := by decide +kernel
theorem d1_35 : decode method_3_code 35 = .ok (.dup, 1) := by decide +kernel
theorem d1_36 : decode method_3_code 36 = .ok (.iconst 0, 1) := by decide +kernel
theorem d1_37 : decode method_3_code 37 = .ok (.newarray .char, 2) := by decide +kernel
theorem d1_39 : decode method_3_code 39 = .ok (.invokespecial 24, 3) := by decide +kernel
theorem d1_42 : decode method_3_code 42 = .ok (.areturn, 1) := by decide +kernel
set_option maxRecDepth 65536 in
set_option maxHeartbeats 40000000 in
theorem tx_f (l : Launch) (Z : State) (a0 : Array Value) (hw : ∀ d ∈ tables_1, d.before a0 Z = true) (ws : List Jvm.Cond) (sd : Int32) (h0 : Heap) (n0 : Nat) (Z0 : n0 ≤ h0.size) (O : Old Z n0 h0) (HC : Jvm.Lit.constHeld Z "java/lang/String" 7) (HW : Jvm.Lit.compactW.before a0 Z = true) :
    Con l Z (⟨"com/example/farthing/farthing/format/FormTextWritesSignsPinLaw", "text", "(II)Ljava/lang/String;"⟩ : MethodName) method_3_code 5 (some (.object "java/lang/String")) ws ({ frames := 3, cells := 4, slots := 8, locals := 43 } : Room) #[(.int (0 : Int32)), (.int sd)] h0 n0 (Jn Z []) (fun v h vm => ∃ (a aL bL : Addr) (kL : ClassId), v = some (.ref a) ∧ Keep h0 h [] ∧ Exa Z h a "java/lang/String" ∧ Fld Z h a "java/lang/String" "value" "[B" (.ref bL) ∧ Exa Z h aL "java/lang/String" ∧ Fld Z h aL "java/lang/String" "value" "[B" (.ref bL) ∧ Fld Z h aL "java/lang/String" "coder" "B" (.int 0) ∧ Arv Z h bL kL .byte (0 : Int32) [] (.int 0) ∧ Jl Z "java/lang/String" 7 aL vm) := by
  refine Con.of pn_1 ?_
  intro G p e s m below meth c s₁ hs hx hby hml hown hnm hret hZ X0 XR hh0 hJ0 fin
  have hml : c.maxLocals = 5 := hml
  have hown : s.vm.findClass "com/example/farthing/farthing/format/FormTextWritesSignsPinLaw" = some m.cls := hown
  rw [ef_1]
  have K := Keep.refl h0 ([] : List Addr)
  have Ksz := K.1
  show G s₁ (mkF m 0 #[.val (.int (0 : Int32)), .val (.int sd), .unset, .unset, .unset] [])
  refine hs.go (fun _ kk_ => XS.iloadN X0.here hx rfl (hb hby d1_0) rfl  kk_) ?_
  show G s₁ (mkF m 1 #[.val (.int (0 : Int32)), .val (.int sd), .unset, .unset, .unset] [(.int sd)])
  refine hs.go (fun _ kk_ => XS.sipush X0.here hx rfl (hb hby d1_1) kk_) ?_
  show G s₁ (mkF m 4 #[.val (.int (0 : Int32)), .val (.int sd), .unset, .unset, .unset] [(.int (255 : Int32)), (.int sd)])
  refine hs.go (fun _ kk_ => XS.iand X0.here hx rfl (hb hby d1_4) rfl kk_) ?_
  show G s₁ (mkF m 5 #[.val (.int (0 : Int32)), .val (.int sd), .unset, .unset, .unset] [(.int (sd &&& (255 : Int32)))])
  refine hs.go (fun _ kk_ => XS.i2c X0.here hx rfl (hb hby d1_5) rfl kk_) ?_
  show G s₁ (mkF m 6 #[.val (.int (0 : Int32)), .val (.int sd), .unset, .unset, .unset] [(.int ((sd &&& (255 : Int32)).toUInt32.toUInt16.toUInt32.toInt32))])
  refine nameIt (P := fun zz_ : Int32 => G s₁ (mkF m 6 #[.val (.int (0 : Int32)), .val (.int sd), .unset, .unset, .unset] [(.int zz_)])) ((sd &&& (255 : Int32)).toUInt32.toUInt16.toUInt32.toInt32) (fun c0 hc0 => ?_)
  show G s₁ (mkF m 6 #[.val (.int (0 : Int32)), .val (.int sd), .unset, .unset, .unset] [(.int c0)])
  refine hs.go (fun _ kk_ => XS.istoreN X0.here hx rfl (hb hby d1_6) rfl (l' := #[.val (.int (0 : Int32)), .val (.int sd), .val (.int c0), .unset, .unset]) rfl kk_) ?_
  show G s₁ (mkF m 7 #[.val (.int (0 : Int32)), .val (.int sd), .val (.int c0), .unset, .unset] [])
  refine hs.go (fun _ kk_ => XS.iloadN X0.here hx rfl (hb hby d1_7) rfl  kk_) ?_
  show G s₁ (mkF m 8 #[.val (.int (0 : Int32)), .val (.int sd), .val (.int c0), .unset, .unset] [(.int sd)])
  refine hs.go (fun _ kk_ => XS.bipush X0.here hx rfl (hb hby d1_8) kk_) ?_
  show G s₁ (mkF m 10 #[.val (.int (0 : Int32)), .val (.int sd), .val (.int c0), .unset, .unset] [(.int (8 : Int32)), (.int sd)])
  refine hs.go (fun _ kk_ => XS.iushr X0.here hx rfl (hb hby d1_10) rfl kk_) ?_
  show G s₁ (mkF m 11 #[.val (.int (0 : Int32)), .val (.int sd), .val (.int c0), .unset, .unset] [(.int ((sd.toUInt32 >>> ((8 : Int32) &&& 31).toUInt32).toInt32))])
  refine hs.go (fun _ kk_ => XS.sipush X0.here hx rfl (hb hby d1_11) kk_) ?_
  show G s₁ (mkF m 14 #[.val (.int (0 : Int32)), .val (.int sd), .val (.int c0), .unset, .unset] [(.int (255 : Int32)), (.int ((sd.toUInt32 >>> ((8 : Int32) &&& 31).toUInt32).toInt32))])
  refine hs.go (fun _ kk_ => XS.iand X0.here hx rfl (hb hby d1_14) rfl kk_) ?_
  show G s₁ (mkF m 15 #[.val (.int (0 : Int32)), .val (.int sd), .val (.int c0), .unset, .unset] [(.int (((sd.toUInt32 >>> ((8 : Int32) &&& 31).toUInt32).toInt32) &&& (255 : Int32)))])
  refine hs.go (fun _ kk_ => XS.i2c X0.here hx rfl (hb hby d1_15) rfl kk_) ?_
  show G s₁ (mkF m 16 #[.val (.int (0 : Int32)), .val (.int sd), .val (.int c0), .unset, .unset] [(.int ((((sd.toUInt32 >>> ((8 : Int32) &&& 31).toUInt32).toInt32) &&& (255 : Int32)).toUInt32.toUInt16.toUInt32.toInt32))])
  refine nameIt (P := fun zz_ : Int32 => G s₁ (mkF m 16 #[.val (.int (0 : Int32)), .val (.int sd), .val (.int c0), .unset, .unset] [(.int zz_)])) ((((sd.toUInt32 >>> ((8 : Int32) &&& 31).toUInt32).toInt32) &&& (255 : Int32)).toUInt32.toUInt16.toUInt32.toInt32) (fun c1 hc1 => ?_)
  show G s₁ (mkF m 16 #[.val (.int (0 : Int32)), .val (.int sd), .val (.int c0), .unset, .unset] [(.int c1)])
  refine hs.go (fun _ kk_ => XS.istoreN X0.here hx rfl (hb hby d1_16) rfl (l' := #[.val (.int (0 : Int32)), .val (.int sd), .val (.int c0), .val (.int c1), .unset]) rfl kk_) ?_
  show G s₁ (mkF m 17 #[.val (.int (0 : Int32)), .val (.int sd), .val (.int c0), .val (.int c1), .unset] [])
  refine hs.go (fun _ kk_ => XS.iloadN X0.here hx rfl (hb hby d1_17) rfl  kk_) ?_
  show G s₁ (mkF m 18 #[.val (.int (0 : Int32)), .val (.int sd), .val (.int c0), .val (.int c1), .unset] [(.int sd)])
  refine hs.go (fun _ kk_ => XS.bipush X0.here hx rfl (hb hby d1_18) kk_) ?_
  show G s₁ (mkF m 20 #[.val (.int (0 : Int32)), .val (.int sd), .val (.int c0), .val (.int c1), .unset] [(.int (16 : Int32)), (.int sd)])
  refine hs.go (fun _ kk_ => XS.iushr X0.here hx rfl (hb hby d1_20) rfl kk_) ?_
  show G s₁ (mkF m 21 #[.val (.int (0 : Int32)), .val (.int sd), .val (.int c0), .val (.int c1), .unset] [(.int ((sd.toUInt32 >>> ((16 : Int32) &&& 31).toUInt32).toInt32))])
  refine hs.go (fun _ kk_ => XS.sipush X0.here hx rfl (hb hby d1_21) kk_) ?_
  show G s₁ (mkF m 24 #[.val (.int (0 : Int32)), .val (.int sd), .val (.int c0), .val (.int c1), .unset] [(.int (255 : Int32)), (.int ((sd.toUInt32 >>> ((16 : Int32) &&& 31).toUInt32).toInt32))])
  refine hs.go (fun _ kk_ => XS.iand X0.here hx rfl (hb hby d1_24) rfl kk_) ?_
  show G s₁ (mkF m 25 #[.val (.int (0 : Int32)), .val (.int sd), .val (.int c0), .val (.int c1), .unset] [(.int (((sd.toUInt32 >>> ((16 : Int32) &&& 31).toUInt32).toInt32) &&& (255 : Int32)))])
  refine hs.go (fun _ kk_ => XS.i2c X0.here hx rfl (hb hby d1_25) rfl kk_) ?_
  show G s₁ (mkF m 26 #[.val (.int (0 : Int32)), .val (.int sd), .val (.int c0), .val (.int c1), .unset] [(.int ((((sd.toUInt32 >>> ((16 : Int32) &&& 31).toUInt32).toInt32) &&& (255 : Int32)).toUInt32.toUInt16.toUInt32.toInt32))])
  refine nameIt (P := fun zz_ : Int32 => G s₁ (mkF m 26 #[.val (.int (0 : Int32)), .val (.int sd), .val (.int c0), .val (.int c1), .unset] [(.int zz_)])) ((((sd.toUInt32 >>> ((16 : Int32) &&& 31).toUInt32).toInt32) &&& (255 : Int32)).toUInt32.toUInt16.toUInt32.toInt32) (fun c2 hc2 => ?_)
  show G s₁ (mkF m 26 #[.val (.int (0 : Int32)), .val (.int sd), .val (.int c0), .val (.int c1), .unset] [(.int c2)])
  refine hs.go (fun _ kk_ => XS.istore X0.here hx rfl (hb hby d1_26) rfl (l' := #[.val (.int (0 : Int32)), .val (.int sd), .val (.int c0), .val (.int c1), .val (.int c2)]) rfl kk_) ?_
  show G s₁ (mkF m 28 #[.val (.int (0 : Int32)), .val (.int sd), .val (.int c0), .val (.int c1), .val (.int c2)] [])
  refine hs.go (fun _ kk_ => XS.iloadN X0.here hx rfl (hb hby d1_28) rfl  kk_) ?_
  show G s₁ (mkF m 29 #[.val (.int (0 : Int32)), .val (.int sd), .val (.int c0), .val (.int c1), .val (.int c2)] [(.int (0 : Int32))])
  refine hs.go (fun _ kk_ => XS.ifNo X0.here hx rfl (hb hby d1_29) rfl ((if0 _ _).trans (teq (rfl : (0 : Int32) = (0 : Int32))).2) kk_) ?_
  show G s₁ (mkF m 32 #[.val (.int (0 : Int32)), .val (.int sd), .val (.int c0), .val (.int c1), .val (.int c2)] [])
  refine rNewO hs X0 hx hZ hown (hw _ (List.mem_of_getElem? (i := 4) rfl)) (hw _ (List.mem_of_getElem? (i := 5) rfl)) (hw _ (List.mem_of_getElem? (i := 6) rfl)) rfl (hb hby d1_32) (by decide) (by decide) (fun T1 h1 sa g1 X1 E1 E_sa D1 => ?_)
  have g_sa : n0 ≤ sa := by rw [g1]; exact Z0
  have Z0 := Nat.le_trans Z0 E1.1
  have O := O.ext E1
  have K := K.ext E1
  have sz_sa : h0.size ≤ sa := by rw [g1]; exact Ksz
  have Ksz := K.1
  have F_value_sa : Fld Z h1 sa "java/lang/String" "value" "[B" .null := D1 (Or.inr (hw _ (List.mem_of_getElem? (i := 20) rfl))) (ty := (.array .byte)) (by decide)
  have F_coder_sa : Fld Z h1 sa "java/lang/String" "coder" "B" (.int (0 : Int32)) := D1 (Or.inr (hw _ (List.mem_of_getElem? (i := 21) rfl))) (ty := .byte) (by decide)
  show G T1 (mkF m 35 #[.val (.int (0 : Int32)), .val (.int sd), .val (.int c0), .val (.int c1), .val (.int c2)] [(.ref sa)])
  refine hs.go (fun _ kk_ => XS.dup X1.here hx rfl (hb hby d1_35) rfl rfl kk_) ?_
  show G T1 (mkF m 36 #[.val (.int (0 : Int32)), .val (.int sd), .val (.int c0), .val (.int c1), .val (.int c2)] [(.ref sa), (.ref sa)])
  refine hs.go (fun _ kk_ => XS.iconst X1.here hx rfl (hb hby d1_36) kk_) ?_
  show G T1 (mkF m 37 #[.val (.int (0 : Int32)), .val (.int sd), .val (.int c0), .val (.int c1), .val (.int c2)] [(.int (0 : Int32)), (.ref sa), (.ref sa)])
  refine rNewP hs X1 hx hZ (hw _ (List.mem_of_getElem? (i := 7) rfl)) rfl (hb hby d1_37) rfl (by decide) 0 0 (by decide) (by decide) (by decide) (by decide) (fun T2 h2 k2 ca g2 X2 E2 V_ca => ?_)
  have V_ca : Arv Z h2 ca k2 .char (0 : Int32) [] (.int (0 : Int32)) := V_ca
  have g_ca : n0 ≤ ca := by rw [g2]; exact Z0
  have Z0 := Nat.le_trans Z0 E2.1
  have ne_sa_ca : sa ≠ ca := Nat.ne_of_lt (Nat.lt_of_lt_of_le E_sa.lt (Nat.le_of_eq g2.symm))
  have O := O.ext E2
  have E_sa := E_sa.ext E2
  have F_value_sa := F_value_sa.ext E2
  have F_coder_sa := F_coder_sa.ext E2
  have K := K.ext E2
  have sz_ca : h0.size ≤ ca := by rw [g2]; exact Ksz
  have Ksz := K.1
  show G T2 (mkF m 39 #[.val (.int (0 : Int32)), .val (.int sd), .val (.int c0), .val (.int c1), .val (.int c2)] [(.ref ca), (.ref sa), (.ref sa)])
  refine rCallI hs X2 hx hZ (as' := [(.ref ca)]) Jn.stb (i1_f l Z a0 hw [] sa ca k2 h2 n0 Z0 E_sa g_sa F_value_sa F_coder_sa V_ca O HC HW) rfl hown (hw _ (List.mem_of_getElem? (i := 8) rfl)) (hw _ (List.mem_of_getElem? (i := 9) rfl)) (hw _ (List.mem_of_getElem? (i := 6) rfl)) (hw _ (List.mem_of_getElem? (i := 10) rfl)) hy_2 rfl (by rw [hml]; rfl) [(.ref sa)] (lenOf pd_4 rfl) rfl 1 (by show 2 * 0 + _ ≤ _; exact Nat.le_of_eq rfl) (hb hby d1_39) (by decide) (by decide) (by decide) (by decide) (fun r3 T3 h3 vm3 X3 q3 => ?_)
  obtain ⟨aL, bL, kL, rfl, Kc3, E_sa, F_value_sa, E_aL, F_value_aL, F_coder_aL, V_bL, hj3⟩ := q3
  have X3 := X3 _ hj3
  have O := O.keep Kc3 (allS g_sa all0)
  have K := K.trans Kc3 (fun x hx => Or.inr (by cases List.mem_singleton.mp hx; exact sz_sa))
  have Ksz := K.1
  have Z0 := Nat.le_trans Z0 Kc3.1
  show G T3 (mkF m 42 #[.val (.int (0 : Int32)), .val (.int sd), .val (.int c0), .val (.int c1), .val (.int c2)] [(.ref sa)])
  exact rRetA fin Jl.stb X3 hx (by decide) (by decide) hret rfl rfl rfl (hb hby d1_42) (fun vm' hj => ⟨sa, aL, bL, kL, rfl, K, E_sa, F_value_sa, E_aL, F_value_aL, F_coder_aL, V_bL, hj⟩)
set_option maxRecDepth 65536 in
set_option maxHeartbeats 40000000 in
theorem tx_g (l : Launch) (Z : State) (a0 : Array Value) (hw : ∀ d ∈ tables_1, d.before a0 Z = true) (ws : List Jvm.Cond) (sd : Int32) (aL bL : Addr) (kL : ClassId) (h0 : Heap) (n0 : Nat) (Z0 : n0 ≤ h0.size) (E_aL : Exa Z h0 aL "java/lang/String") (F_value_aL : Fld Z h0 aL "java/lang/String" "value" "[B" (.ref bL)) (F_coder_aL : Fld Z h0 aL "java/lang/String" "coder" "B" (.int 0)) (V_bL : Arv Z h0 bL kL .byte (0 : Int32) [] (.int 0)) :
    Con l Z (⟨"com/example/farthing/farthing/format/FormTextWritesSignsPinLaw", "text", "(II)Ljava/lang/String;"⟩ : MethodName) method_3_code 5 (some (.object "java/lang/String")) ws ({ frames := 3, cells := 2, slots := 4, locals := 43 } : Room) #[(.int (0 : Int32)), (.int sd)] h0 n0 (Jl Z "java/lang/String" 7 aL) (fun v h vm => ∃ (a : Addr) , v = some (.ref a) ∧ Keep h0 h [] ∧ Exa Z h a "java/lang/String" ∧ Fld Z h a "java/lang/String" "value" "[B" (.ref bL) ∧ Exa Z h aL "java/lang/String" ∧ Fld Z h aL "java/lang/String" "value" "[B" (.ref bL) ∧ Fld Z h aL "java/lang/String" "coder" "B" (.int 0) ∧ Arv Z h bL kL .byte (0 : Int32) [] (.int 0) ∧ Jl Z "java/lang/String" 7 aL vm) := by
  refine Con.of pn_1 ?_
  intro G p e s m below meth c s₁ hs hx hby hml hown hnm hret hZ X0 XR hh0 hJ0 fin
  have hml : c.maxLocals = 5 := hml
  have hown : s.vm.findClass "com/example/farthing/farthing/format/FormTextWritesSignsPinLaw" = some m.cls := hown
  rw [ef_1]
  have K := Keep.refl h0 ([] : List Addr)
  have Ksz := K.1
  show G s₁ (mkF m 0 #[.val (.int (0 : Int32)), .val (.int sd), .unset, .unset, .unset] [])
  refine hs.go (fun _ kk_ => XS.iloadN X0.here hx rfl (hb hby d1_0) rfl  kk_) ?_
  show G s₁ (mkF m 1 #[.val (.int (0 : Int32)), .val (.int sd), .unset, .unset, .unset] [(.int sd)])
  refine hs.go (fun _ kk_ => XS.sipush X0.here hx rfl (hb hby d1_1) kk_) ?_
  show G s₁ (mkF m 4 #[.val (.int (0 : Int32)), .val (.int sd), .unset, .unset, .unset] [(.int (255 : Int32)), (.int sd)])
  refine hs.go (fun _ kk_ => XS.iand X0.here hx rfl (hb hby d1_4) rfl kk_) ?_
  show G s₁ (mkF m 5 #[.val (.int (0 : Int32)), .val (.int sd), .unset, .unset, .unset] [(.int (sd &&& (255 : Int32)))])
  refine hs.go (fun _ kk_ => XS.i2c X0.here hx rfl (hb hby d1_5) rfl kk_) ?_
  show G s₁ (mkF m 6 #[.val (.int (0 : Int32)), .val (.int sd), .unset, .unset, .unset] [(.int ((sd &&& (255 : Int32)).toUInt32.toUInt16.toUInt32.toInt32))])
  refine nameIt (P := fun zz_ : Int32 => G s₁ (mkF m 6 #[.val (.int (0 : Int32)), .val (.int sd), .unset, .unset, .unset] [(.int zz_)])) ((sd &&& (255 : Int32)).toUInt32.toUInt16.toUInt32.toInt32) (fun c0 hc0 => ?_)
  show G s₁ (mkF m 6 #[.val (.int (0 : Int32)), .val (.int sd), .unset, .unset, .unset] [(.int c0)])
  refine hs.go (fun _ kk_ => XS.istoreN X0.here hx rfl (hb hby d1_6) rfl (l' := #[.val (.int (0 : Int32)), .val (.int sd), .val (.int c0), .unset, .unset]) rfl kk_) ?_
  show G s₁ (mkF m 7 #[.val (.int (0 : Int32)), .val (.int sd), .val (.int c0), .unset, .unset] [])
  refine hs.go (fun _ kk_ => XS.iloadN X0.here hx rfl (hb hby d1_7) rfl  kk_) ?_
  show G s₁ (mkF m 8 #[.val (.int (0 : Int32)), .val (.int sd), .val (.int c0), .unset, .unset] [(.int sd)])
  refine hs.go (fun _ kk_ => XS.bipush X0.here hx rfl (hb hby d1_8) kk_) ?_
  show G s₁ (mkF m 10 #[.val (.int (0 : Int32)), .val (.int sd), .val (.int c0), .unset, .unset] [(.int (8 : Int32)), (.int sd)])
  refine hs.go (fun _ kk_ => XS.iushr X0.here hx rfl (hb hby d1_10) rfl kk_) ?_
  show G s₁ (mkF m 11 #[.val (.int (0 : Int32)), .val (.int sd), .val (.int c0), .unset, .unset] [(.int ((sd.toUInt32 >>> ((8 : Int32) &&& 31).toUInt32).toInt32))])
  refine hs.go (fun _ kk_ => XS.sipush X0.here hx rfl (hb hby d1_11) kk_) ?_
  show G s₁ (mkF m 14 #[.val (.int (0 : Int32)), .val (.int sd), .val (.int c0), .unset, .unset] [(.int (255 : Int32)), (.int ((sd.toUInt32 >>> ((8 : Int32) &&& 31).toUInt32).toInt32))])
  refine hs.go (fun _ kk_ => XS.iand X0.here hx rfl (hb hby d1_14) rfl kk_) ?_
  show G s₁ (mkF m 15 #[.val (.int (0 : Int32)), .val (.int sd), .val (.int c0), .unset, .unset] [(.int (((sd.toUInt32 >>> ((8 : Int32) &&& 31).toUInt32).toInt32) &&& (255 : Int32)))])
  refine hs.go (fun _ kk_ => XS.i2c X0.here hx rfl (hb hby d1_15) rfl kk_) ?_
  show G s₁ (mkF m 16 #[.val (.int (0 : Int32)), .val (.int sd), .val (.int c0), .unset, .unset] [(.int ((((sd.toUInt32 >>> ((8 : Int32) &&& 31).toUInt32).toInt32) &&& (255 : Int32)).toUInt32.toUInt16.toUInt32.toInt32))])
  refine nameIt (P := fun zz_ : Int32 => G s₁ (mkF m 16 #[.val (.int (0 : Int32)), .val (.int sd), .val (.int c0), .unset, .unset] [(.int zz_)])) ((((sd.toUInt32 >>> ((8 : Int32) &&& 31).toUInt32).toInt32) &&& (255 : Int32)).toUInt32.toUInt16.toUInt32.toInt32) (fun c1 hc1 => ?_)
  show G s₁ (mkF m 16 #[.val (.int (0 : Int32)), .val (.int sd), .val (.int c0), .unset, .unset] [(.int c1)])
  refine hs.go (fun _ kk_ => XS.istoreN X0.here hx rfl (hb hby d1_16) rfl (l' := #[.val (.int (0 : Int32)), .val (.int sd), .val (.int c0), .val (.int c1), .unset]) rfl kk_) ?_
  show G s₁ (mkF m 17 #[.val (.int (0 : Int32)), .val (.int sd), .val (.int c0), .val (.int c1), .unset] [])
  refine hs.go (fun _ kk_ => XS.iloadN X0.here hx rfl (hb hby d1_17) rfl  kk_) ?_
  show G s₁ (mkF m 18 #[.val (.int (0 : Int32)), .val (.int sd), .val (.int c0), .val (.int c1), .unset] [(.int sd)])
  refine hs.go (fun _ kk_ => XS.bipush X0.here hx rfl (hb hby d1_18) kk_) ?_
  show G s₁ (mkF m 20 #[.val (.int (0 : Int32)), .val (.int sd), .val (.int c0), .val (.int c1), .unset] [(.int (16 : Int32)), (.int sd)])
  refine hs.go (fun _ kk_ => XS.iushr X0.here hx rfl (hb hby d1_20) rfl kk_) ?_
  show G s₁ (mkF m 21 #[.val (.int (0 : Int32)), .val (.int sd), .val (.int c0), .val (.int c1), .unset] [(.int ((sd.toUInt32 >>> ((16 : Int32) &&& 31).toUInt32).toInt32))])
  refine hs.go (fun _ kk_ => XS.sipush X0.here hx rfl (hb hby d1_21) kk_) ?_
  show G s₁ (mkF m 24 #[.val (.int (0 : Int32)), .val (.int sd), .val (.int c0), .val (.int c1), .unset] [(.int (255 : Int32)), (.int ((sd.toUInt32 >>> ((16 : Int32) &&& 31).toUInt32).toInt32))])
  refine hs.go (fun _ kk_ => XS.iand X0.here hx rfl (hb hby d1_24) rfl kk_) ?_
  show G s₁ (mkF m 25 #[.val (.int (0 : Int32)), .val (.int sd), .val (.int c0), .val (.int c1), .unset] [(.int (((sd.toUInt32 >>> ((16 : Int32) &&& 31).toUInt32).toInt32) &&& (255 : Int32)))])
  refine hs.go (fun _ kk_ => XS.i2c X0.here hx rfl (hb hby d1_25) rfl kk_) ?_
  show G s₁ (mkF m 26 #[.val (.int (0 : Int32)), .val (.int sd), .val (.int c0), .val (.int c1), .unset] [(.int ((((sd.toUInt32 >>> ((16 : Int32) &&& 31).toUInt32).toInt32) &&& (255 : Int32)).toUInt32.toUInt16.toUInt32.toInt32))])
  refine nameIt (P := fun zz_ : Int32 => G s₁ (mkF m 26 #[.val (.int (0 : Int32)), .val (.int sd), .val (.int c0), .val (.int c1), .unset] [(.int zz_)])) ((((sd.toUInt32 >>> ((16 : Int32) &&& 31).toUInt32).toInt32) &&& (255 : Int32)).toUInt32.toUInt16.toUInt32.toInt32) (fun c2 hc2 => ?_)
  show G s₁ (mkF m 26 #[.val (.int (0 : Int32)), .val (.int sd), .val (.int c0), .val (.int c1), .unset] [(.int c2)])
  refine hs.go (fun _ kk_ => XS.istore X0.here hx rfl (hb hby d1_26) rfl (l' := #[.val (.int (0 : Int32)), .val (.int sd), .val (.int c0), .val (.int c1), .val (.int c2)]) rfl kk_) ?_
  show G s₁ (mkF m 28 #[.val (.int (0 : Int32)), .val (.int sd), .val (.int c0), .val (.int c1), .val (.int c2)] [])
  refine hs.go (fun _ kk_ => XS.iloadN X0.here hx rfl (hb hby d1_28) rfl  kk_) ?_
  show G s₁ (mkF m 29 #[.val (.int (0 : Int32)), .val (.int sd), .val (.int c0), .val (.int c1), .val (.int c2)] [(.int (0 : Int32))])
  refine hs.go (fun _ kk_ => XS.ifNo X0.here hx rfl (hb hby d1_29) rfl ((if0 _ _).trans (teq (rfl : (0 : Int32) = (0 : Int32))).2) kk_) ?_
  show G s₁ (mkF m 32 #[.val (.int (0 : Int32)), .val (.int sd), .val (.int c0), .val (.int c1), .val (.int c2)] [])
  refine rNewO hs X0 hx hZ hown (hw _ (List.mem_of_getElem? (i := 4) rfl)) (hw _ (List.mem_of_getElem? (i := 5) rfl)) (hw _ (List.mem_of_getElem? (i := 6) rfl)) rfl (hb hby d1_32) (by decide) (by decide) (fun T1 h1 sa g1 X1 E1 E_sa D1 => ?_)
  have g_sa : n0 ≤ sa := by rw [g1]; exact Z0
  have Z0 := Nat.le_trans Z0 E1.1
  have ne_aL_sa : aL ≠ sa := Nat.ne_of_lt (Nat.lt_of_lt_of_le E_aL.lt (Nat.le_of_eq g1.symm))
  have ne_bL_sa : bL ≠ sa := Nat.ne_of_lt (Nat.lt_of_lt_of_le V_bL.lt (Nat.le_of_eq g1.symm))
  have E_aL := E_aL.ext E1
  have F_value_aL := F_value_aL.ext E1
  have F_coder_aL := F_coder_aL.ext E1
  have V_bL := V_bL.ext E1
  have K := K.ext E1
  have sz_sa : h0.size ≤ sa := by rw [g1]; exact Ksz
  have Ksz := K.1
  have F_value_sa : Fld Z h1 sa "java/lang/String" "value" "[B" .null := D1 (Or.inr (hw _ (List.mem_of_getElem? (i := 20) rfl))) (ty := (.array .byte)) (by decide)
  have F_coder_sa : Fld Z h1 sa "java/lang/String" "coder" "B" (.int (0 : Int32)) := D1 (Or.inr (hw _ (List.mem_of_getElem? (i := 21) rfl))) (ty := .byte) (by decide)
  show G T1 (mkF m 35 #[.val (.int (0 : Int32)), .val (.int sd), .val (.int c0), .val (.int c1), .val (.int c2)] [(.ref sa)])
  refine hs.go (fun _ kk_ => XS.dup X1.here hx rfl (hb hby d1_35) rfl rfl kk_) ?_
  show G T1 (mkF m 36 #[.val (.int (0 : Int32)), .val (.int sd), .val (.int c0), .val (.int c1), .val (.int c2)] [(.ref sa), (.ref sa)])
  refine hs.go (fun _ kk_ => XS.iconst X1.here hx rfl (hb hby d1_36) kk_) ?_
  show G T1 (mkF m 37 #[.val (.int (0 : Int32)), .val (.int sd), .val (.int c0), .val (.int c1), .val (.int c2)] [(.int (0 : Int32)), (.ref sa), (.ref sa)])
  refine rNewP hs X1 hx hZ (hw _ (List.mem_of_getElem? (i := 7) rfl)) rfl (hb hby d1_37) rfl (by decide) 0 0 (by decide) (by decide) (by decide) (by decide) (fun T2 h2 k2 ca g2 X2 E2 V_ca => ?_)
  have V_ca : Arv Z h2 ca k2 .char (0 : Int32) [] (.int (0 : Int32)) := V_ca
  have g_ca : n0 ≤ ca := by rw [g2]; exact Z0
  have Z0 := Nat.le_trans Z0 E2.1
  have ne_aL_ca : aL ≠ ca := Nat.ne_of_lt (Nat.lt_of_lt_of_le E_aL.lt (Nat.le_of_eq g2.symm))
  have ne_bL_ca : bL ≠ ca := Nat.ne_of_lt (Nat.lt_of_lt_of_le V_bL.lt (Nat.le_of_eq g2.symm))
  have ne_sa_ca : sa ≠ ca := Nat.ne_of_lt (Nat.lt_of_lt_of_le E_sa.lt (Nat.le_of_eq g2.symm))
  have E_aL := E_aL.ext E2
  have F_value_aL := F_value_aL.ext E2
  have F_coder_aL := F_coder_aL.ext E2
  have V_bL := V_bL.ext E2
  have E_sa := E_sa.ext E2
  have F_value_sa := F_value_sa.ext E2
  have F_coder_sa := F_coder_sa.ext E2
  have K := K.ext E2
  have sz_ca : h0.size ≤ ca := by rw [g2]; exact Ksz
  have Ksz := K.1
  show G T2 (mkF m 39 #[.val (.int (0 : Int32)), .val (.int sd), .val (.int c0), .val (.int c1), .val (.int c2)] [(.ref ca), (.ref sa), (.ref sa)])
  refine rCallI hs X2 hx hZ (as' := [(.ref ca)]) Jl.stb (i1_g l Z a0 hw [] sa ca k2 aL bL kL h2 n0 Z0 E_sa g_sa F_value_sa F_coder_sa V_ca E_aL F_value_aL F_coder_aL V_bL) rfl hown (hw _ (List.mem_of_getElem? (i := 8) rfl)) (hw _ (List.mem_of_getElem? (i := 9) rfl)) (hw _ (List.mem_of_getElem? (i := 6) rfl)) (hw _ (List.mem_of_getElem? (i := 10) rfl)) hy_2 rfl (by rw [hml]; rfl) [(.ref sa)] (lenOf pd_4 rfl) rfl 1 (by show 2 * 0 + _ ≤ _; exact Nat.le_of_eq rfl) (hb hby d1_39) (by decide) (by decide) (by decide) (by decide) (fun r3 T3 h3 vm3 X3 q3 => ?_)
  obtain ⟨rfl, Kc3, E_sa, F_value_sa, E_aL, F_value_aL, F_coder_aL, V_bL, hj3⟩ := q3
  have X3 := X3 _ hj3
  have K := K.trans Kc3 (fun x hx => Or.inr (by cases List.mem_singleton.mp hx; exact sz_sa))
  have Ksz := K.1
  have Z0 := Nat.le_trans Z0 Kc3.1
  show G T3 (mkF m 42 #[.val (.int (0 : Int32)), .val (.int sd), .val (.int c0), .val (.int c1), .val (.int c2)] [(.ref sa)])
  exact rRetA fin Jl.stb X3 hx (by decide) (by decide) hret rfl rfl rfl (hb hby d1_42) (fun vm' hj => ⟨sa, rfl, K, E_sa, F_value_sa, E_aL, F_value_aL, F_coder_aL, V_bL, hj⟩)
theorem d9_0 : decode jdk_30_method_1_code 0 = .ok (.aload_n 0, 1) := by decide +kernel
theorem d9_1 : decode jdk_30_method_1_code 1 = .ok (.invokespecial 1, 3) := by decide +kernel
theorem d9_4 : decode jdk_30_method_1_code 4 = .ok (.return_, 1) := by decide +kernel
theorem pn_9 : plainFor (⟨"java/lang/Record", "<init>", "()V"⟩ : MethodName) = true := plainFor_of_name (by first | (simp [plainName, overriddenIn]; done) | decide +kernel)
theorem ef_9 (m : MethodId) (x0 : Addr) : entryFrame m #[(.ref x0)] 1 = mkF m 0 #[.val (.ref x0)] [] := by first | (simp [entryFrame, mkF, argsToLocals, Value.category]; done) | rfl
theorem hy_9 : ((⟨"java/lang/Record", "<init>", "()V"⟩ : MethodName)).cls ≠ "java/lang/invoke/MethodHandle" ∧ ((⟨"java/lang/Record", "<init>", "()V"⟩ : MethodName)).cls ≠ "java/lang/invoke/VarHandle" := by decide
set_option maxRecDepth 65536 in
set_option maxHeartbeats 40000000 in
theorem rm9 (l : Launch) (Z : State) (a0 : Array Value) (hw : ∀ d ∈ tables_1, d.before a0 Z = true) (ws : List Jvm.Cond) (J : Vm → Prop) (hJ : Stb J) (a : Addr) (h0 : Heap) (n0 : Nat) (Z0 : n0 ≤ h0.size)  :
    Con l Z (⟨"java/lang/Record", "<init>", "()V"⟩ : MethodName) jdk_30_method_1_code 1 none ws ({ frames := 1, cells := 0, slots := 0, locals := 12 } : Room) #[(.ref a)] h0 n0 J (fun v h vm => v = none ∧ h = h0 ∧ J vm) := by
  refine Con.of pn_9 ?_
  intro G p e s m below meth c s₁ hs hx hby hml hown hnm hret hZ X0 XR hh0 hJ0 fin
  have hml : c.maxLocals = 1 := hml
  have hown : s.vm.findClass "java/lang/Record" = some m.cls := hown
  rw [ef_9]
  show G s₁ (mkF m 0 #[.val (.ref a)] [])
  refine hs.go (fun _ kk_ => XS.aloadN X0.here hx rfl (hb hby d9_0) rfl rfl kk_) ?_
  show G s₁ (mkF m 1 #[.val (.ref a)] [(.ref a)])
  refine rInitO hs X0 hx hZ hown (hw _ (List.mem_of_getElem? (i := 48) rfl)) (hw _ (List.mem_of_getElem? (i := 16) rfl)) (hw _ (List.mem_of_getElem? (i := 17) rfl)) rfl (by rw [hml]; rfl) rfl (hb hby d9_1) (by decide) (W := 0) (by show 2 * 0 + _ ≤ _; exact Nat.le_of_eq rfl) (by decide) (fun T1 X1 => ?_)
  show G T1 (mkF m 4 #[.val (.ref a)] [])
  exact rRetV fin hJ X1 hx (by decide) (by decide) hret (hb hby d9_4) (fun vm' hj => ⟨rfl, rfl, hj⟩)
theorem pd_5 : parseMethodDescriptor "()V" = some ⟨[], none⟩ := by decide +kernel
theorem d8_0 : decode prog_3_method_1_code 0 = .ok (.aload_n 0, 1) := by decide +kernel
theorem d8_1 : decode prog_3_method_1_code 1 = .ok (.invokespecial 1, 3) := by decide +kernel
theorem d8_4 : decode prog_3_method_1_code 4 = .ok (.aload_n 0, 1) := by decide +kernel
theorem d8_5 : decode prog_3_method_1_code 5 = .ok (.aload_n 1, 1) := by decide +kernel
theorem d8_6 : decode prog_3_method_1_code 6 = .ok (.putfield 7, 3) := by decide +kernel
theorem d8_9 : decode prog_3_method_1_code 9 = .ok (.aload_n 0, 1) := by decide +kernel
theorem d8_10 : decode prog_3_method_1_code 10 = .ok (.aload_n 2, 1) := by decide +kernel
theorem d8_11 : decode prog_3_method_1_code 11 = .ok (.putfield 13, 3) := by decide +kernel
theorem d8_14 : decode prog_3_method_1_code 14 = .ok (.aload_n 0, 1) := by decide +kernel
theorem d8_15 : decode prog_3_method_1_code 15 = .ok (.aload_n 3, 1) := by decide +kernel
theorem d8_16 : decode prog_3_method_1_code 16 = .ok (.putfield 16, 3) := by decide +kernel
theorem d8_19 : decode prog_3_method_1_code 19 = .ok (.aload_n 0, 1) := by decide +kernel
theorem d8_20 : decode prog_3_method_1_code 20 = .ok (.aload 4, 2) := by decide +kernel
theorem d8_22 : decode prog_3_method_1_code 22 = .ok (.putfield 19, 3) := by decide +kernel
theorem d8_25 : decode prog_3_method_1_code 25 = .ok (.aload_n 0, 1) := by decide +kernel
theorem d8_26 : decode prog_3_method_1_code 26 = .ok (.aload 5, 2) := by decide +kernel
theorem d8_28 : decode prog_3_method_1_code 28 = .ok (.putfield 23, 3) := by decide +kernel
theorem d8_31 : decode prog_3_method_1_code 31 = .ok (.return_, 1) := by decide +kernel
theorem pn_8 : plainFor (⟨"com/example/farthing/farthing/format/FormText", "<init>", "(Ljava/util/Set;Ljava/util/Set;Ljava/util/Set;Ljava/lang/String;Ljava/lang/String;)V"⟩ : MethodName) = true := plainFor_of_name (by first | (simp [plainName, overriddenIn]; done) | decide +kernel)
theorem ef_8_xnnnxx (m : MethodId) (x0 : Addr) (x4 : Addr) (x5 : Addr) : entryFrame m #[(.ref x0), .null, .null, .null, (.ref x4), (.ref x5)] 6 = mkF m 0 #[.val (.ref x0), .val .null, .val .null, .val .null, .val (.ref x4), .val (.ref x5)] [] := by first | (simp [entryFrame, mkF, argsToLocals, Value.category]; done) | rfl
theorem hy_8 : ((⟨"com/example/farthing/farthing/format/FormText", "<init>", "(Ljava/util/Set;Ljava/util/Set;Ljava/util/Set;Ljava/lang/String;Ljava/lang/String;)V"⟩ : MethodName)).cls ≠ "java/lang/invoke/MethodHandle" ∧ ((⟨"com/example/farthing/farthing/format/FormText", "<init>", "(Ljava/util/Set;Ljava/util/Set;Ljava/util/Set;Ljava/lang/String;Ljava/lang/String;)V"⟩ : MethodName)).cls ≠ "java/lang/invoke/VarHandle" := by decide
set_option maxRecDepth 65536 in
set_option maxHeartbeats 40000000 in
theorem rm8 (l : Launch) (Z : State) (a0 : Array Value) (hw : ∀ d ∈ tables_1, d.before a0 Z = true) (ws : List Jvm.Cond) (J : Vm → Prop) (hJ : Stb J) (a b1 b2 : Addr) (h0 : Heap) (n0 : Nat) (Z0 : n0 ≤ h0.size) (E_a : Exa Z h0 a "com/example/farthing/farthing/format/FormText") (g_a : n0 ≤ a) (F_words_a : Fld Z h0 a "com/example/farthing/farthing/format/FormText" "words" "Ljava/util/Set;" .null) (F_wordsBeforeCurrency_a : Fld Z h0 a "com/example/farthing/farthing/format/FormText" "wordsBeforeCurrency" "Ljava/util/Set;" .null) (F_wordsAfterCurrency_a : Fld Z h0 a "com/example/farthing/farthing/format/FormText" "wordsAfterCurrency" "Ljava/util/Set;" .null) (F_signsBefore_a : Fld Z h0 a "com/example/farthing/farthing/format/FormText" "signsBefore" "Ljava/lang/String;" .null) (F_signsAfter_a : Fld Z h0 a "com/example/farthing/farthing/format/FormText" "signsAfter" "Ljava/lang/String;" .null) :
    Con l Z (⟨"com/example/farthing/farthing/format/FormText", "<init>", "(Ljava/util/Set;Ljava/util/Set;Ljava/util/Set;Ljava/lang/String;Ljava/lang/String;)V"⟩ : MethodName) prog_3_method_1_code 6 none ws ({ frames := 2, cells := 0, slots := 0, locals := 24 } : Room) #[(.ref a), .null, .null, .null, (.ref b1), (.ref b2)] h0 n0 J (fun v h vm => v = none ∧ Keep h0 h [a] ∧ Exa Z h a "com/example/farthing/farthing/format/FormText" ∧ Fld Z h a "com/example/farthing/farthing/format/FormText" "signsBefore" "Ljava/lang/String;" (.ref b1) ∧ Fld Z h a "com/example/farthing/farthing/format/FormText" "signsAfter" "Ljava/lang/String;" (.ref b2) ∧ J vm) := by
  refine Con.of pn_8 ?_
  intro G p e s m below meth c s₁ hs hx hby hml hown hnm hret hZ X0 XR hh0 hJ0 fin
  have hml : c.maxLocals = 6 := hml
  have hown : s.vm.findClass "com/example/farthing/farthing/format/FormText" = some m.cls := hown
  rw [ef_8_xnnnxx]
  have K := Keep.refl h0 ([a] : List Addr)
  have Ksz := K.1
  show G s₁ (mkF m 0 #[.val (.ref a), .val .null, .val .null, .val .null, .val (.ref b1), .val (.ref b2)] [])
  refine hs.go (fun _ kk_ => XS.aloadN X0.here hx rfl (hb hby d8_0) rfl rfl kk_) ?_
  show G s₁ (mkF m 1 #[.val (.ref a), .val .null, .val .null, .val .null, .val (.ref b1), .val (.ref b2)] [(.ref a)])
  refine rCallI hs X0 hx hZ (as' := []) hJ (rm9 l Z a0 hw [] (J) hJ a h0 n0 Z0) rfl hown (hw _ (List.mem_of_getElem? (i := 43) rfl)) (hw _ (List.mem_of_getElem? (i := 44) rfl)) (hw _ (List.mem_of_getElem? (i := 46) rfl)) (hw _ (List.mem_of_getElem? (i := 47) rfl)) hy_9 rfl (by rw [hml]; rfl) [] (lenOf pd_5 rfl) rfl 0 (by show 2 * 0 + _ ≤ _; exact Nat.le_of_eq rfl) (hb hby d8_1) (by decide) (by decide) (by decide) (by decide) (fun r1 T1 h1 vm1 X1 q1 => ?_)
  obtain ⟨rfl, qh1, hj1⟩ := q1
  have X1 := X1 _ hj1
  rw [qh1] at X1
  show G T1 (mkF m 4 #[.val (.ref a), .val .null, .val .null, .val .null, .val (.ref b1), .val (.ref b2)] [])
  refine hs.go (fun _ kk_ => XS.aloadN X1.here hx rfl (hb hby d8_4) rfl rfl kk_) ?_
  show G T1 (mkF m 5 #[.val (.ref a), .val .null, .val .null, .val .null, .val (.ref b1), .val (.ref b2)] [(.ref a)])
  refine hs.go (fun _ kk_ => XS.aloadN X1.here hx rfl (hb hby d8_5) rfl rfl kk_) ?_
  show G T1 (mkF m 6 #[.val (.ref a), .val .null, .val .null, .val .null, .val (.ref b1), .val (.ref b2)] [.null, (.ref a)])
  refine rPutF hs X1 hx hZ (.object "java/util/Set") hown (host := "") (Or.inl (hw _ (List.mem_of_getElem? (i := 49) rfl))) Via.refl F_words_a E_a g_a (Or.inr ⟨(hw _ (List.mem_of_getElem? (i := 50) rfl)), rfl, hnm⟩) (hw _ (List.mem_of_getElem? (i := 38) rfl)) (by decide) rfl rfl rfl rfl (hb hby d8_6) (fun T2 h2 X2 W2 F_words_a => ?_)
  have E_a := E_a.wr W2
  have F_wordsBeforeCurrency_a := F_wordsBeforeCurrency_a.other W2 (Or.inr (slot_ne (Or.inr (hw _ (List.mem_of_getElem? (i := 52) rfl))) (Or.inr (hw _ (List.mem_of_getElem? (i := 50) rfl))) (by decide) (t := (.object "java/util/Set")) (t' := (.object "java/util/Set")) (by decide) (by decide)))
  have F_wordsAfterCurrency_a := F_wordsAfterCurrency_a.other W2 (Or.inr (slot_ne (Or.inr (hw _ (List.mem_of_getElem? (i := 54) rfl))) (Or.inr (hw _ (List.mem_of_getElem? (i := 50) rfl))) (by decide) (t := (.object "java/util/Set")) (t' := (.object "java/util/Set")) (by decide) (by decide)))
  have F_signsBefore_a := F_signsBefore_a.other W2 (Or.inr (slot_ne (Or.inr (hw _ (List.mem_of_getElem? (i := 56) rfl))) (Or.inr (hw _ (List.mem_of_getElem? (i := 50) rfl))) (by decide) (t := (.object "java/lang/String")) (t' := (.object "java/util/Set")) (by decide) (by decide)))
  have F_signsAfter_a := F_signsAfter_a.other W2 (Or.inr (slot_ne (Or.inr (hw _ (List.mem_of_getElem? (i := 58) rfl))) (Or.inr (hw _ (List.mem_of_getElem? (i := 50) rfl))) (by decide) (t := (.object "java/lang/String")) (t' := (.object "java/util/Set")) (by decide) (by decide)))
  have K := K.wr W2 (Or.inl (by simp))
  have Ksz := K.1
  have Z0 := Nat.le_trans Z0 (Keep.of_wr W2).1
  show G T2 (mkF m 9 #[.val (.ref a), .val .null, .val .null, .val .null, .val (.ref b1), .val (.ref b2)] [])
  refine hs.go (fun _ kk_ => XS.aloadN X2.here hx rfl (hb hby d8_9) rfl rfl kk_) ?_
  show G T2 (mkF m 10 #[.val (.ref a), .val .null, .val .null, .val .null, .val (.ref b1), .val (.ref b2)] [(.ref a)])
  refine hs.go (fun _ kk_ => XS.aloadN X2.here hx rfl (hb hby d8_10) rfl rfl kk_) ?_
  show G T2 (mkF m 11 #[.val (.ref a), .val .null, .val .null, .val .null, .val (.ref b1), .val (.ref b2)] [.null, (.ref a)])
  refine rPutF hs X2 hx hZ (.object "java/util/Set") hown (host := "") (Or.inl (hw _ (List.mem_of_getElem? (i := 51) rfl))) Via.refl F_wordsBeforeCurrency_a E_a g_a (Or.inr ⟨(hw _ (List.mem_of_getElem? (i := 52) rfl)), rfl, hnm⟩) (hw _ (List.mem_of_getElem? (i := 38) rfl)) (by decide) rfl rfl rfl rfl (hb hby d8_11) (fun T3 h3 X3 W3 F_wordsBeforeCurrency_a => ?_)
  have E_a := E_a.wr W3
  have F_wordsAfterCurrency_a := F_wordsAfterCurrency_a.other W3 (Or.inr (slot_ne (Or.inr (hw _ (List.mem_of_getElem? (i := 54) rfl))) (Or.inr (hw _ (List.mem_of_getElem? (i := 52) rfl))) (by decide) (t := (.object "java/util/Set")) (t' := (.object "java/util/Set")) (by decide) (by decide)))
  have F_signsBefore_a := F_signsBefore_a.other W3 (Or.inr (slot_ne (Or.inr (hw _ (List.mem_of_getElem? (i := 56) rfl))) (Or.inr (hw _ (List.mem_of_getElem? (i := 52) rfl))) (by decide) (t := (.object "java/lang/String")) (t' := (.object "java/util/Set")) (by decide) (by decide)))
  have F_signsAfter_a := F_signsAfter_a.other W3 (Or.inr (slot_ne (Or.inr (hw _ (List.mem_of_getElem? (i := 58) rfl))) (Or.inr (hw _ (List.mem_of_getElem? (i := 52) rfl))) (by decide) (t := (.object "java/lang/String")) (t' := (.object "java/util/Set")) (by decide) (by decide)))
  have K := K.wr W3 (Or.inl (by simp))
  have Ksz := K.1
  have Z0 := Nat.le_trans Z0 (Keep.of_wr W3).1
  show G T3 (mkF m 14 #[.val (.ref a), .val .null, .val .null, .val .null, .val (.ref b1), .val (.ref b2)] [])
  refine hs.go (fun _ kk_ => XS.aloadN X3.here hx rfl (hb hby d8_14) rfl rfl kk_) ?_
  show G T3 (mkF m 15 #[.val (.ref a), .val .null, .val .null, .val .null, .val (.ref b1), .val (.ref b2)] [(.ref a)])
  refine hs.go (fun _ kk_ => XS.aloadN X3.here hx rfl (hb hby d8_15) rfl rfl kk_) ?_
  show G T3 (mkF m 16 #[.val (.ref a), .val .null, .val .null, .val .null, .val (.ref b1), .val (.ref b2)] [.null, (.ref a)])
  refine rPutF hs X3 hx hZ (.object "java/util/Set") hown (host := "") (Or.inl (hw _ (List.mem_of_getElem? (i := 53) rfl))) Via.refl F_wordsAfterCurrency_a E_a g_a (Or.inr ⟨(hw _ (List.mem_of_getElem? (i := 54) rfl)), rfl, hnm⟩) (hw _ (List.mem_of_getElem? (i := 38) rfl)) (by decide) rfl rfl rfl rfl (hb hby d8_16) (fun T4 h4 X4 W4 F_wordsAfterCurrency_a => ?_)
  have E_a := E_a.wr W4
  have F_signsBefore_a := F_signsBefore_a.other W4 (Or.inr (slot_ne (Or.inr (hw _ (List.mem_of_getElem? (i := 56) rfl))) (Or.inr (hw _ (List.mem_of_getElem? (i := 54) rfl))) (by decide) (t := (.object "java/lang/String")) (t' := (.object "java/util/Set")) (by decide) (by decide)))
  have F_signsAfter_a := F_signsAfter_a.other W4 (Or.inr (slot_ne (Or.inr (hw _ (List.mem_of_getElem? (i := 58) rfl))) (Or.inr (hw _ (List.mem_of_getElem? (i := 54) rfl))) (by decide) (t := (.object "java/lang/String")) (t' := (.object "java/util/Set")) (by decide) (by decide)))
  have K := K.wr W4 (Or.inl (by simp))
  have Ksz := K.1
  have Z0 := Nat.le_trans Z0 (Keep.of_wr W4).1
  show G T4 (mkF m 19 #[.val (.ref a), .val .null, .val .null, .val .null, .val (.ref b1), .val (.ref b2)] [])
  refine hs.go (fun _ kk_ => XS.aloadN X4.here hx rfl (hb hby d8_19) rfl rfl kk_) ?_
  show G T4 (mkF m 20 #[.val (.ref a), .val .null, .val .null, .val .null, .val (.ref b1), .val (.ref b2)] [(.ref a)])
  refine hs.go (fun _ kk_ => XS.aload X4.here hx rfl (hb hby d8_20) rfl rfl kk_) ?_
  show G T4 (mkF m 22 #[.val (.ref a), .val .null, .val .null, .val .null, .val (.ref b1), .val (.ref b2)] [(.ref b1), (.ref a)])
  refine rPutF hs X4 hx hZ (.object "java/lang/String") hown (host := "") (Or.inl (hw _ (List.mem_of_getElem? (i := 55) rfl))) Via.refl F_signsBefore_a E_a g_a (Or.inr ⟨(hw _ (List.mem_of_getElem? (i := 56) rfl)), rfl, hnm⟩) (hw _ (List.mem_of_getElem? (i := 38) rfl)) (by decide) rfl rfl rfl rfl (hb hby d8_22) (fun T5 h5 X5 W5 F_signsBefore_a => ?_)
  have E_a := E_a.wr W5
  have F_signsAfter_a := F_signsAfter_a.other W5 (Or.inr (slot_ne (Or.inr (hw _ (List.mem_of_getElem? (i := 58) rfl))) (Or.inr (hw _ (List.mem_of_getElem? (i := 56) rfl))) (by decide) (t := (.object "java/lang/String")) (t' := (.object "java/lang/String")) (by decide) (by decide)))
  have K := K.wr W5 (Or.inl (by simp))
  have Ksz := K.1
  have Z0 := Nat.le_trans Z0 (Keep.of_wr W5).1
  show G T5 (mkF m 25 #[.val (.ref a), .val .null, .val .null, .val .null, .val (.ref b1), .val (.ref b2)] [])
  refine hs.go (fun _ kk_ => XS.aloadN X5.here hx rfl (hb hby d8_25) rfl rfl kk_) ?_
  show G T5 (mkF m 26 #[.val (.ref a), .val .null, .val .null, .val .null, .val (.ref b1), .val (.ref b2)] [(.ref a)])
  refine hs.go (fun _ kk_ => XS.aload X5.here hx rfl (hb hby d8_26) rfl rfl kk_) ?_
  show G T5 (mkF m 28 #[.val (.ref a), .val .null, .val .null, .val .null, .val (.ref b1), .val (.ref b2)] [(.ref b2), (.ref a)])
  refine rPutF hs X5 hx hZ (.object "java/lang/String") hown (host := "") (Or.inl (hw _ (List.mem_of_getElem? (i := 57) rfl))) Via.refl F_signsAfter_a E_a g_a (Or.inr ⟨(hw _ (List.mem_of_getElem? (i := 58) rfl)), rfl, hnm⟩) (hw _ (List.mem_of_getElem? (i := 38) rfl)) (by decide) rfl rfl rfl rfl (hb hby d8_28) (fun T6 h6 X6 W6 F_signsAfter_a => ?_)
  have E_a := E_a.wr W6
  have F_signsBefore_a := F_signsBefore_a.other W6 (Or.inr (slot_ne (Or.inr (hw _ (List.mem_of_getElem? (i := 56) rfl))) (Or.inr (hw _ (List.mem_of_getElem? (i := 58) rfl))) (by decide) (t := (.object "java/lang/String")) (t' := (.object "java/lang/String")) (by decide) (by decide)))
  have K := K.wr W6 (Or.inl (by simp))
  have Ksz := K.1
  have Z0 := Nat.le_trans Z0 (Keep.of_wr W6).1
  show G T6 (mkF m 31 #[.val (.ref a), .val .null, .val .null, .val .null, .val (.ref b1), .val (.ref b2)] [])
  exact rRetV fin hJ X6 hx (by decide) (by decide) hret (hb hby d8_31) (fun vm' hj => ⟨rfl, K, E_a, F_signsBefore_a, F_signsAfter_a, hj⟩)
theorem d11_0 : decode jdk_42_method_55_code 0 = .ok (.aload_n 0, 1) := by decide +kernel
theorem d11_1 : decode jdk_42_method_55_code 1 = .ok (.getfield 9, 3) := by decide +kernel
theorem d11_4 : decode jdk_42_method_55_code 4 = .ok (.arraylength, 1) := by decide +kernel
theorem d11_5 : decode jdk_42_method_55_code 5 = .ok (.ifCond .ne 7, 3) := by decide +kernel
theorem d11_8 : decode jdk_42_method_55_code 8 = .ok (.iconst 1, 1) := by decide +kernel
theorem d11_9 : decode jdk_42_method_55_code 9 = .ok (.goto 4, 3) := by decide +kernel
theorem d11_12 : decode jdk_42_method_55_code 12 = .ok (.iconst 0, 1) := by decide +kernel
theorem d11_13 : decode jdk_42_method_55_code 13 = .ok (.ireturn, 1) := by decide +kernel
theorem pn_11 : plainFor (⟨"java/lang/String", "isEmpty", "()Z"⟩ : MethodName) = true := plainFor_of_name (by first | (simp [plainName, overriddenIn]; done) | decide +kernel)
theorem ef_11 (m : MethodId) (x0 : Addr) : entryFrame m #[(.ref x0)] 1 = mkF m 0 #[.val (.ref x0)] [] := by first | (simp [entryFrame, mkF, argsToLocals, Value.category]; done) | rfl
theorem hy_11 : ((⟨"java/lang/String", "isEmpty", "()Z"⟩ : MethodName)).cls ≠ "java/lang/invoke/MethodHandle" ∧ ((⟨"java/lang/String", "isEmpty", "()Z"⟩ : MethodName)).cls ≠ "java/lang/invoke/VarHandle" := by decide
set_option maxRecDepth 65536 in
set_option maxHeartbeats 40000000 in
theorem rm11 (l : Launch) (Z : State) (a0 : Array Value) (hw : ∀ d ∈ tables_1, d.before a0 Z = true) (ws : List Jvm.Cond) (J : Vm → Prop) (hJ : Stb J) (a b : Addr) (k : ClassId) (z : Int32) (vs : List Value) (h0 : Heap) (n0 : Nat) (Z0 : n0 ≤ h0.size) (F_value_a : Fld Z h0 a "java/lang/String" "value" "[B" (.ref b)) (V_b : Arv Z h0 b k .byte z vs (.int (0 : Int32))) :
    Con l Z (⟨"java/lang/String", "isEmpty", "()Z"⟩ : MethodName) jdk_42_method_55_code 1 (some .boolean) ws ({ frames := 0, cells := 0, slots := 0, locals := 0 } : Room) #[(.ref a)] h0 n0 J (fun v h vm => v = some (.int (fie z)) ∧ h = h0 ∧ J vm) := by
  refine Con.of pn_11 ?_
  intro G p e s m below meth c s₁ hs hx hby hml hown hnm hret hZ X0 XR hh0 hJ0 fin
  have hml : c.maxLocals = 1 := hml
  have hown : s.vm.findClass "java/lang/String" = some m.cls := hown
  rw [ef_11]
  show G s₁ (mkF m 0 #[.val (.ref a)] [])
  refine hs.go (fun _ kk_ => XS.aloadN X0.here hx rfl (hb hby d11_0) rfl rfl kk_) ?_
  show G s₁ (mkF m 1 #[.val (.ref a)] [(.ref a)])
  refine rGetF hs X0 hx hZ hown (host := "") (Or.inl (hw _ (List.mem_of_getElem? (i := 24) rfl))) Via.refl F_value_a rfl rfl (hb hby d11_1) (fun T1 X1 => ?_)
  show G T1 (mkF m 4 #[.val (.ref a)] [(.ref b)])
  refine rLen hs X1 hx hZ V_b rfl rfl (hb hby d11_4) ?_
  show G T1 (mkF m 5 #[.val (.ref a)] [(.int z)])
  by_cases c5 : z = (0 : Int32)
  · refine hs.go (fun _ kk_ => XS.ifNo X1.here hx rfl (hb hby d11_5) rfl ((if0 _ _).trans (teq c5).2) kk_) ?_
    show G T1 (mkF m 8 #[.val (.ref a)] [])
    refine hs.go (fun _ kk_ => XS.iconst X1.here hx rfl (hb hby d11_8) kk_) ?_
    show G T1 (mkF m 9 #[.val (.ref a)] [(.int (1 : Int32))])
    refine hs.go (fun _ kk_ => XS.goto X1.here hx rfl (pc0 := 9) (pc' := 13) rfl (hb hby d11_9) (by decide) (by decide) kk_) ?_
    show G T1 (mkF m 13 #[.val (.ref a)] [(.int (1 : Int32))])
    exact rRetN fin hJ X1 hx (by decide) (by decide) hret (by simp) (hb hby d11_13) (z' := (1 : Int32)) (by decide) (fun vm' hj => ⟨by rw [fie, if_pos c5], rfl, hj⟩)
  · refine hs.go (fun _ kk_ => XS.ifYes X1.here hx rfl (pc0 := 5) (pc' := 12) rfl (hb hby d11_5) rfl ((if0 _ _).trans (feq c5).2) (by decide) (by decide) kk_) ?_
    show G T1 (mkF m 12 #[.val (.ref a)] [])
    refine hs.go (fun _ kk_ => XS.iconst X1.here hx rfl (hb hby d11_12) kk_) ?_
    show G T1 (mkF m 13 #[.val (.ref a)] [(.int (0 : Int32))])
    exact rRetN fin hJ X1 hx (by decide) (by decide) hret (by simp) (hb hby d11_13) (z' := (0 : Int32)) (by decide) (fun vm' hj => ⟨by rw [fie, if_neg c5], rfl, hj⟩)
theorem pd_6 : parseMethodDescriptor "()Z" = some ⟨[], some .boolean⟩ := by decide +kernel
theorem d10_0 : decode prog_3_method_6_code 0 = .ok (.aload_n 0, 1) := by decide +kernel
theorem d10_1 : decode prog_3_method_6_code 1 = .ok (.getfield 19, 3) := by decide +kernel
theorem d10_4 : decode prog_3_method_6_code 4 = .ok (.invokevirtual 120, 3) := by decide +kernel
theorem d10_7 : decode prog_3_method_6_code 7 = .ok (.ifCond .eq 13, 3) := by decide +kernel
theorem d10_10 : decode prog_3_method_6_code 10 = .ok (.aload_n 0, 1) := by decide +kernel
theorem d10_11 : decode prog_3_method_6_code 11 = .ok (.getfield 23, 3) := by decide +kernel
theorem d10_14 : decode prog_3_method_6_code 14 = .ok (.invokevirtual 120, 3) := by decide +kernel
theorem d10_17 : decode prog_3_method_6_code 17 = .ok (.ifCond .ne 7, 3) := by decide +kernel
theorem d10_20 : decode prog_3_method_6_code 20 = .ok (.iconst 1, 1) := by decide +kernel
theorem d10_21 : decode prog_3_method_6_code 21 = .ok (.goto 4, 3) := by decide +kernel
theorem d10_24 : decode prog_3_method_6_code 24 = .ok (.iconst 0, 1) := by decide +kernel
theorem d10_25 : decode prog_3_method_6_code 25 = .ok (.ireturn, 1) := by decide +kernel
theorem pn_10 : plainFor (⟨"com/example/farthing/farthing/format/FormText", "writesSigns", "()Z"⟩ : MethodName) = true := plainFor_of_name (by first | (simp [plainName, overriddenIn]; done) | decide +kernel)
theorem ef_10 (m : MethodId) (x0 : Addr) : entryFrame m #[(.ref x0)] 1 = mkF m 0 #[.val (.ref x0)] [] := by first | (simp [entryFrame, mkF, argsToLocals, Value.category]; done) | rfl
theorem hy_10 : ((⟨"com/example/farthing/farthing/format/FormText", "writesSigns", "()Z"⟩ : MethodName)).cls ≠ "java/lang/invoke/MethodHandle" ∧ ((⟨"com/example/farthing/farthing/format/FormText", "writesSigns", "()Z"⟩ : MethodName)).cls ≠ "java/lang/invoke/VarHandle" := by decide
set_option maxRecDepth 65536 in
set_option maxHeartbeats 40000000 in
theorem rm10 (l : Launch) (Z : State) (a0 : Array Value) (hw : ∀ d ∈ tables_1, d.before a0 Z = true) (ws : List Jvm.Cond) (J : Vm → Prop) (hJ : Stb J) (a b1 b2 d1 d2 : Addr) (k1 k2 : ClassId) (z1 z2 : Int32) (v1 v2 : List Value) (h0 : Heap) (n0 : Nat) (Z0 : n0 ≤ h0.size) (F_signsBefore_a : Fld Z h0 a "com/example/farthing/farthing/format/FormText" "signsBefore" "Ljava/lang/String;" (.ref b1)) (F_signsAfter_a : Fld Z h0 a "com/example/farthing/farthing/format/FormText" "signsAfter" "Ljava/lang/String;" (.ref b2)) (E_b1 : Exa Z h0 b1 "java/lang/String") (F_value_b1 : Fld Z h0 b1 "java/lang/String" "value" "[B" (.ref d1)) (V_d1 : Arv Z h0 d1 k1 .byte z1 v1 (.int (0 : Int32))) (E_b2 : Exa Z h0 b2 "java/lang/String") (F_value_b2 : Fld Z h0 b2 "java/lang/String" "value" "[B" (.ref d2)) (V_d2 : Arv Z h0 d2 k2 .byte z2 v2 (.int (0 : Int32))) :
    Con l Z (⟨"com/example/farthing/farthing/format/FormText", "writesSigns", "()Z"⟩ : MethodName) prog_3_method_6_code 1 (some .boolean) ws ({ frames := 1, cells := 0, slots := 0, locals := 12 } : Room) #[(.ref a)] h0 n0 J (fun v h vm => v = some (.int (fws z1 z2)) ∧ h = h0 ∧ J vm) := by
  refine Con.of pn_10 ?_
  intro G p e s m below meth c s₁ hs hx hby hml hown hnm hret hZ X0 XR hh0 hJ0 fin
  have hml : c.maxLocals = 1 := hml
  have hown : s.vm.findClass "com/example/farthing/farthing/format/FormText" = some m.cls := hown
  rw [ef_10]
  show G s₁ (mkF m 0 #[.val (.ref a)] [])
  refine hs.go (fun _ kk_ => XS.aloadN X0.here hx rfl (hb hby d10_0) rfl rfl kk_) ?_
  show G s₁ (mkF m 1 #[.val (.ref a)] [(.ref a)])
  refine rGetF hs X0 hx hZ hown (host := "") (Or.inl (hw _ (List.mem_of_getElem? (i := 55) rfl))) Via.refl F_signsBefore_a rfl rfl (hb hby d10_1) (fun T1 X1 => ?_)
  show G T1 (mkF m 4 #[.val (.ref a)] [(.ref b1)])
  refine rCallV hs X1 hx hZ (as' := []) hJ (rm11 l Z a0 hw [] (J) hJ b1 d1 k1 z1 v1 h0 n0 Z0 F_value_b1 V_d1) E_b1 hown (hw _ (List.mem_of_getElem? (i := 64) rfl)) (hw _ (List.mem_of_getElem? (i := 65) rfl)) (hw _ (List.mem_of_getElem? (i := 67) rfl)) (hw _ (List.mem_of_getElem? (i := 66) rfl)) (hw _ (List.mem_of_getElem? (i := 6) rfl)) (hw _ (List.mem_of_getElem? (i := 68) rfl)) hy_11 rfl (by rw [hml]; rfl) [] (lenOf pd_6 rfl) rfl 0 (by show 2 * 0 + _ ≤ _; exact Nat.le_of_eq rfl) (hb hby d10_4) (by decide) (by decide) (by decide) (by decide) (fun r2 T2 h2 vm2 X2 q2 => ?_)
  obtain ⟨rfl, qh2, hj2⟩ := q2
  have X2 := X2 _ hj2
  rw [qh2] at X2
  show G T2 (mkF m 7 #[.val (.ref a)] [(.int (fie z1))])
  by_cases c7 : (fie z1) = (0 : Int32)
  · refine hs.go (fun _ kk_ => XS.ifYes X2.here hx rfl (pc0 := 7) (pc' := 20) rfl (hb hby d10_7) rfl ((if0 _ _).trans (teq c7).1) (by decide) (by decide) kk_) ?_
    show G T2 (mkF m 20 #[.val (.ref a)] [])
    refine hs.go (fun _ kk_ => XS.iconst X2.here hx rfl (hb hby d10_20) kk_) ?_
    show G T2 (mkF m 21 #[.val (.ref a)] [(.int (1 : Int32))])
    refine hs.go (fun _ kk_ => XS.goto X2.here hx rfl (pc0 := 21) (pc' := 25) rfl (hb hby d10_21) (by decide) (by decide) kk_) ?_
    show G T2 (mkF m 25 #[.val (.ref a)] [(.int (1 : Int32))])
    exact rRetN fin hJ X2 hx (by decide) (by decide) hret (by simp) (hb hby d10_25) (z' := (1 : Int32)) (by decide) (fun vm' hj => ⟨by rw [fws, if_pos c7], rfl, hj⟩)
  · refine hs.go (fun _ kk_ => XS.ifNo X2.here hx rfl (hb hby d10_7) rfl ((if0 _ _).trans (feq c7).1) kk_) ?_
    show G T2 (mkF m 10 #[.val (.ref a)] [])
    refine hs.go (fun _ kk_ => XS.aloadN X2.here hx rfl (hb hby d10_10) rfl rfl kk_) ?_
    show G T2 (mkF m 11 #[.val (.ref a)] [(.ref a)])
    refine rGetF hs X2 hx hZ hown (host := "") (Or.inl (hw _ (List.mem_of_getElem? (i := 57) rfl))) Via.refl F_signsAfter_a rfl rfl (hb hby d10_11) (fun T3 X3 => ?_)
    show G T3 (mkF m 14 #[.val (.ref a)] [(.ref b2)])
    refine rCallV hs X3 hx hZ (as' := []) hJ (rm11 l Z a0 hw [] (J) hJ b2 d2 k2 z2 v2 h0 n0 Z0 F_value_b2 V_d2) E_b2 hown (hw _ (List.mem_of_getElem? (i := 64) rfl)) (hw _ (List.mem_of_getElem? (i := 65) rfl)) (hw _ (List.mem_of_getElem? (i := 67) rfl)) (hw _ (List.mem_of_getElem? (i := 66) rfl)) (hw _ (List.mem_of_getElem? (i := 6) rfl)) (hw _ (List.mem_of_getElem? (i := 68) rfl)) hy_11 rfl (by rw [hml]; rfl) [] (lenOf pd_6 rfl) rfl 0 (by show 2 * 0 + _ ≤ _; exact Nat.le_of_eq rfl) (hb hby d10_14) (by decide) (by decide) (by decide) (by decide) (fun r4 T4 h4 vm4 X4 q4 => ?_)
    obtain ⟨rfl, qh4, hj4⟩ := q4
    have X4 := X4 _ hj4
    rw [qh4] at X4
    show G T4 (mkF m 17 #[.val (.ref a)] [(.int (fie z2))])
    by_cases c17 : (fie z2) = (0 : Int32)
    · refine hs.go (fun _ kk_ => XS.ifNo X4.here hx rfl (hb hby d10_17) rfl ((if0 _ _).trans (teq c17).2) kk_) ?_
      show G T4 (mkF m 20 #[.val (.ref a)] [])
      refine hs.go (fun _ kk_ => XS.iconst X4.here hx rfl (hb hby d10_20) kk_) ?_
      show G T4 (mkF m 21 #[.val (.ref a)] [(.int (1 : Int32))])
      refine hs.go (fun _ kk_ => XS.goto X4.here hx rfl (pc0 := 21) (pc' := 25) rfl (hb hby d10_21) (by decide) (by decide) kk_) ?_
      show G T4 (mkF m 25 #[.val (.ref a)] [(.int (1 : Int32))])
      exact rRetN fin hJ X4 hx (by decide) (by decide) hret (by simp) (hb hby d10_25) (z' := (1 : Int32)) (by decide) (fun vm' hj => ⟨by rw [fws, if_neg c7, if_pos c17], rfl, hj⟩)
    · refine hs.go (fun _ kk_ => XS.ifYes X4.here hx rfl (pc0 := 17) (pc' := 24) rfl (hb hby d10_17) rfl ((if0 _ _).trans (feq c17).2) (by decide) (by decide) kk_) ?_
      show G T4 (mkF m 24 #[.val (.ref a)] [])
      refine hs.go (fun _ kk_ => XS.iconst X4.here hx rfl (hb hby d10_24) kk_) ?_
      show G T4 (mkF m 25 #[.val (.ref a)] [(.int (0 : Int32))])
      exact rRetN fin hJ X4 hx (by decide) (by decide) hret (by simp) (hb hby d10_25) (z' := (0 : Int32)) (by decide) (fun vm' hj => ⟨by rw [fws, if_neg c7, if_neg c17], rfl, hj⟩)
theorem pd_7 : parseMethodDescriptor "(II)Ljava/lang/String;" = some ⟨[.int, .int], some (.object "java/lang/String")⟩ := by decide +kernel
theorem pd_8 : parseMethodDescriptor "(Ljava/util/Set;Ljava/util/Set;Ljava/util/Set;Ljava/lang/String;Ljava/lang/String;)V" = some ⟨[(.object "java/util/Set"), (.object "java/util/Set"), (.object "java/util/Set"), (.object "java/lang/String"), (.object "java/lang/String")], none⟩ := by decide +kernel
theorem pn_0 : plainFor x = true := plainFor_of_name (show plainName "com/example/farthing/farthing/format/FormTextWritesSignsPinLaw" = true by first | (simp [plainName, overriddenIn]; done) | decide +kernel)
theorem ef_0 (m : MethodId) (x0 : Int32) (x1 : Int32) (x2 : Int32) (x3 : Int32) : entryFrame m #[(.int x0), (.int x1), (.int x2), (.int x3)] maxLocals = mkF m 0 #[.val (.int x0), .val (.int x1), .val (.int x2), .val (.int x3), .unset, .unset, .unset, .unset, .unset, .unset] [] := by first | (simp [entryFrame, mkF, argsToLocals, Value.category, maxLocals]; done) | rfl
set_option maxRecDepth 65536 in
set_option maxHeartbeats 40000000 in
theorem rm0 (l : Launch) (Z : State) (a0 : Array Value) (hw : ∀ d ∈ tables_1, d.before a0 Z = true) (ws : List Jvm.Cond) (i1 i2 i3 i4 : Int32) (h0 : Heap) (n0 : Nat) (Z0 : n0 ≤ h0.size) (O : Old Z n0 h0) (cw : Int32) (S0 : Sta Z Z.heap "java/lang/String" "COMPACT_STRINGS" "Z" (.int cw)) (hcw : ¬ (cw = (0 : Int32))) (HC : Jvm.Lit.constHeld Z "java/lang/String" 7) (HW : Jvm.Lit.compactW.before a0 Z = true) :
    Con l Z x code maxLocals ret ws room_1 #[(.int i1), (.int i2), (.int i3), (.int i4)] h0 n0 (Jn Z []) (fun v h vm => v = some (.int 1)) := by
  refine Con.of pn_0 ?_
  intro G p e s m below meth c s₁ hs hx hby hml hown hnm hret hZ X0 XR hh0 hJ0 fin
  have hml : c.maxLocals = 10 := hml
  have hown : s.vm.findClass "com/example/farthing/farthing/format/FormTextWritesSignsPinLaw" = some m.cls := hown
  rw [ef_0]
  show G s₁ (mkF m 0 #[.val (.int i1), .val (.int i2), .val (.int i3), .val (.int i4), .unset, .unset, .unset, .unset, .unset, .unset] [])
  refine hs.go (fun _ kk_ => XS.iloadN X0.here hx rfl (hb hby at_0) rfl  kk_) ?_
  show G s₁ (mkF m 1 #[.val (.int i1), .val (.int i2), .val (.int i3), .val (.int i4), .unset, .unset, .unset, .unset, .unset, .unset] [(.int i1)])
  refine hs.go (fun _ kk_ => XS.iconst X0.here hx rfl (hb hby at_1) kk_) ?_
  show G s₁ (mkF m 2 #[.val (.int i1), .val (.int i2), .val (.int i3), .val (.int i4), .unset, .unset, .unset, .unset, .unset, .unset] [(.int (3 : Int32)), (.int i1)])
  refine hs.go (fun _ kk_ => XS.iand X0.here hx rfl (hb hby at_2) rfl kk_) ?_
  show G s₁ (mkF m 3 #[.val (.int i1), .val (.int i2), .val (.int i3), .val (.int i4), .unset, .unset, .unset, .unset, .unset, .unset] [(.int (i1 &&& (3 : Int32)))])
  refine nameIt (P := fun zz_ : Int32 => G s₁ (mkF m 3 #[.val (.int i1), .val (.int i2), .val (.int i3), .val (.int i4), .unset, .unset, .unset, .unset, .unset, .unset] [(.int zz_)])) (i1 &&& (3 : Int32)) (fun nb hnb => ?_)
  show G s₁ (mkF m 3 #[.val (.int i1), .val (.int i2), .val (.int i3), .val (.int i4), .unset, .unset, .unset, .unset, .unset, .unset] [(.int nb)])
  refine hs.go (fun _ kk_ => XS.istore X0.here hx rfl (hb hby at_3) rfl (l' := #[.val (.int i1), .val (.int i2), .val (.int i3), .val (.int i4), .val (.int nb), .unset, .unset, .unset, .unset, .unset]) rfl kk_) ?_
  show G s₁ (mkF m 5 #[.val (.int i1), .val (.int i2), .val (.int i3), .val (.int i4), .val (.int nb), .unset, .unset, .unset, .unset, .unset] [])
  rcases own_m3 hnb with e_ | e_ | e_ | e_
  · subst e_
    show G s₁ (mkF m 5 #[.val (.int i1), .val (.int i2), .val (.int i3), .val (.int i4), .val (.int (0 : Int32)), .unset, .unset, .unset, .unset, .unset] [])
    refine hs.go (fun _ kk_ => XS.iloadN X0.here hx rfl (hb hby at_5) rfl  kk_) ?_
    show G s₁ (mkF m 6 #[.val (.int i1), .val (.int i2), .val (.int i3), .val (.int i4), .val (.int (0 : Int32)), .unset, .unset, .unset, .unset, .unset] [(.int i3)])
    refine hs.go (fun _ kk_ => XS.iconst X0.here hx rfl (hb hby at_6) kk_) ?_
    show G s₁ (mkF m 7 #[.val (.int i1), .val (.int i2), .val (.int i3), .val (.int i4), .val (.int (0 : Int32)), .unset, .unset, .unset, .unset, .unset] [(.int (3 : Int32)), (.int i3)])
    refine hs.go (fun _ kk_ => XS.iand X0.here hx rfl (hb hby at_7) rfl kk_) ?_
    show G s₁ (mkF m 8 #[.val (.int i1), .val (.int i2), .val (.int i3), .val (.int i4), .val (.int (0 : Int32)), .unset, .unset, .unset, .unset, .unset] [(.int (i3 &&& (3 : Int32)))])
    refine nameIt (P := fun zz_ : Int32 => G s₁ (mkF m 8 #[.val (.int i1), .val (.int i2), .val (.int i3), .val (.int i4), .val (.int (0 : Int32)), .unset, .unset, .unset, .unset, .unset] [(.int zz_)])) (i3 &&& (3 : Int32)) (fun na hna => ?_)
    show G s₁ (mkF m 8 #[.val (.int i1), .val (.int i2), .val (.int i3), .val (.int i4), .val (.int (0 : Int32)), .unset, .unset, .unset, .unset, .unset] [(.int na)])
    refine hs.go (fun _ kk_ => XS.istore X0.here hx rfl (hb hby at_8) rfl (l' := #[.val (.int i1), .val (.int i2), .val (.int i3), .val (.int i4), .val (.int (0 : Int32)), .val (.int na), .unset, .unset, .unset, .unset]) rfl kk_) ?_
    show G s₁ (mkF m 10 #[.val (.int i1), .val (.int i2), .val (.int i3), .val (.int i4), .val (.int (0 : Int32)), .val (.int na), .unset, .unset, .unset, .unset] [])
    rcases own_m3 hna with e_ | e_ | e_ | e_
    · subst e_
      show G s₁ (mkF m 10 #[.val (.int i1), .val (.int i2), .val (.int i3), .val (.int i4), .val (.int (0 : Int32)), .val (.int (0 : Int32)), .unset, .unset, .unset, .unset] [])
      refine hs.go (fun _ kk_ => XS.iload X0.here hx rfl (hb hby at_10) rfl  kk_) ?_
      show G s₁ (mkF m 12 #[.val (.int i1), .val (.int i2), .val (.int i3), .val (.int i4), .val (.int (0 : Int32)), .val (.int (0 : Int32)), .unset, .unset, .unset, .unset] [(.int (0 : Int32))])
      refine hs.go (fun _ kk_ => XS.iloadN X0.here hx rfl (hb hby at_12) rfl  kk_) ?_
      show G s₁ (mkF m 13 #[.val (.int i1), .val (.int i2), .val (.int i3), .val (.int i4), .val (.int (0 : Int32)), .val (.int (0 : Int32)), .unset, .unset, .unset, .unset] [(.int i2), (.int (0 : Int32))])
      refine rCallS hs X0 hx hZ (as' := [(.int (0 : Int32)), (.int i2)]) Jn.stb (tx_f l Z a0 hw [] i2 h0 n0 Z0 O HC HW) hown (hw _ (List.mem_of_getElem? (i := 0) rfl)) (hw _ (List.mem_of_getElem? (i := 1) rfl)) (hw _ (List.mem_of_getElem? (i := 2) rfl)) (hw _ (List.mem_of_getElem? (i := 3) rfl)) hy_1 rfl (by rw [hml]; rfl) [] (lenOf pd_7 rfl) rfl 0 (by show 2 * 0 + _ ≤ _; exact Nat.le_of_eq rfl) (hb hby at_13) (by decide) (by decide) (by decide) (by decide) (fun r1 T1 h1 vm1 X1 q1 => ?_)
      obtain ⟨a1, aL, bL, kL, rfl, Kc1, E_a1, F_value_a1, E_aL, F_value_aL, F_coder_aL, V_bL, hj1⟩ := q1
      have X1 := X1 _ hj1
      have O := O.keep Kc1 all0
      have Z0 := Nat.le_trans Z0 Kc1.1
      show G T1 (mkF m 16 #[.val (.int i1), .val (.int i2), .val (.int i3), .val (.int i4), .val (.int (0 : Int32)), .val (.int (0 : Int32)), .unset, .unset, .unset, .unset] [(.ref a1)])
      refine hs.go (fun _ kk_ => XS.astore X1.here hx rfl (hb hby at_16) rfl rfl (l' := #[.val (.int i1), .val (.int i2), .val (.int i3), .val (.int i4), .val (.int (0 : Int32)), .val (.int (0 : Int32)), .val (.ref a1), .unset, .unset, .unset]) rfl kk_) ?_
      show G T1 (mkF m 18 #[.val (.int i1), .val (.int i2), .val (.int i3), .val (.int i4), .val (.int (0 : Int32)), .val (.int (0 : Int32)), .val (.ref a1), .unset, .unset, .unset] [])
      refine hs.go (fun _ kk_ => XS.iload X1.here hx rfl (hb hby at_18) rfl  kk_) ?_
      show G T1 (mkF m 20 #[.val (.int i1), .val (.int i2), .val (.int i3), .val (.int i4), .val (.int (0 : Int32)), .val (.int (0 : Int32)), .val (.ref a1), .unset, .unset, .unset] [(.int (0 : Int32))])
      refine hs.go (fun _ kk_ => XS.iloadN X1.here hx rfl (hb hby at_20) rfl  kk_) ?_
      show G T1 (mkF m 21 #[.val (.int i1), .val (.int i2), .val (.int i3), .val (.int i4), .val (.int (0 : Int32)), .val (.int (0 : Int32)), .val (.ref a1), .unset, .unset, .unset] [(.int i4), (.int (0 : Int32))])
      refine rCallS hs X1 hx hZ (as' := [(.int (0 : Int32)), (.int i4)]) Jl.stb (tx_g l Z a0 hw [] i4 aL bL kL h1 n0 Z0 E_aL F_value_aL F_coder_aL V_bL) hown (hw _ (List.mem_of_getElem? (i := 0) rfl)) (hw _ (List.mem_of_getElem? (i := 1) rfl)) (hw _ (List.mem_of_getElem? (i := 2) rfl)) (hw _ (List.mem_of_getElem? (i := 3) rfl)) hy_1 rfl (by rw [hml]; rfl) [] (lenOf pd_7 rfl) rfl 0 (by show 2 * 0 + _ ≤ _; exact Nat.le_of_eq rfl) (hb hby at_21) (by decide) (by decide) (by decide) (by decide) (fun r2 T2 h2 vm2 X2 q2 => ?_)
      obtain ⟨a2, rfl, Kc2, E_a2, F_value_a2, E_aL, F_value_aL, F_coder_aL, V_bL, hj2⟩ := q2
      have X2 := X2 _ hj2
      have O := O.keep Kc2 all0
      have E_a1 := E_a1.keep Kc2
      have F_value_a1 := F_value_a1.keep Kc2 nin0
      have Z0 := Nat.le_trans Z0 Kc2.1
      show G T2 (mkF m 24 #[.val (.int i1), .val (.int i2), .val (.int i3), .val (.int i4), .val (.int (0 : Int32)), .val (.int (0 : Int32)), .val (.ref a1), .unset, .unset, .unset] [(.ref a2)])
      refine hs.go (fun _ kk_ => XS.astore X2.here hx rfl (hb hby at_24) rfl rfl (l' := #[.val (.int i1), .val (.int i2), .val (.int i3), .val (.int i4), .val (.int (0 : Int32)), .val (.int (0 : Int32)), .val (.ref a1), .val (.ref a2), .unset, .unset]) rfl kk_) ?_
      show G T2 (mkF m 26 #[.val (.int i1), .val (.int i2), .val (.int i3), .val (.int i4), .val (.int (0 : Int32)), .val (.int (0 : Int32)), .val (.ref a1), .val (.ref a2), .unset, .unset] [])
      as_aux_lemma =>
        refine rNewO hs X2 hx hZ hown (hw _ (List.mem_of_getElem? (i := 37) rfl)) (hw _ (List.mem_of_getElem? (i := 38) rfl)) (hw _ (List.mem_of_getElem? (i := 39) rfl)) rfl (hb hby at_26) (by decide) (by decide) (fun T3 h3 ft g3 X3 E3 E_ft D3 => ?_)
        have g_ft : n0 ≤ ft := by rw [g3]; exact Z0
        have Z0 := Nat.le_trans Z0 E3.1
        have ne_a1_ft : a1 ≠ ft := Nat.ne_of_lt (Nat.lt_of_lt_of_le E_a1.lt (Nat.le_of_eq g3.symm))
        have ne_a2_ft : a2 ≠ ft := Nat.ne_of_lt (Nat.lt_of_lt_of_le E_a2.lt (Nat.le_of_eq g3.symm))
        have ne_aL_ft : aL ≠ ft := Nat.ne_of_lt (Nat.lt_of_lt_of_le E_aL.lt (Nat.le_of_eq g3.symm))
        have ne_bL_ft : bL ≠ ft := Nat.ne_of_lt (Nat.lt_of_lt_of_le V_bL.lt (Nat.le_of_eq g3.symm))
        have O := O.ext E3
        have E_a1 := E_a1.ext E3
        have F_value_a1 := F_value_a1.ext E3
        have E_a2 := E_a2.ext E3
        have F_value_a2 := F_value_a2.ext E3
        have E_aL := E_aL.ext E3
        have F_value_aL := F_value_aL.ext E3
        have F_coder_aL := F_coder_aL.ext E3
        have V_bL := V_bL.ext E3
        have F_words_ft : Fld Z h3 ft "com/example/farthing/farthing/format/FormText" "words" "Ljava/util/Set;" .null := D3 (Or.inr (hw _ (List.mem_of_getElem? (i := 50) rfl))) (ty := (.object "java/util/Set")) (by decide)
        have F_wordsBeforeCurrency_ft : Fld Z h3 ft "com/example/farthing/farthing/format/FormText" "wordsBeforeCurrency" "Ljava/util/Set;" .null := D3 (Or.inr (hw _ (List.mem_of_getElem? (i := 52) rfl))) (ty := (.object "java/util/Set")) (by decide)
        have F_wordsAfterCurrency_ft : Fld Z h3 ft "com/example/farthing/farthing/format/FormText" "wordsAfterCurrency" "Ljava/util/Set;" .null := D3 (Or.inr (hw _ (List.mem_of_getElem? (i := 54) rfl))) (ty := (.object "java/util/Set")) (by decide)
        have F_signsBefore_ft : Fld Z h3 ft "com/example/farthing/farthing/format/FormText" "signsBefore" "Ljava/lang/String;" .null := D3 (Or.inr (hw _ (List.mem_of_getElem? (i := 56) rfl))) (ty := (.object "java/lang/String")) (by decide)
        have F_signsAfter_ft : Fld Z h3 ft "com/example/farthing/farthing/format/FormText" "signsAfter" "Ljava/lang/String;" .null := D3 (Or.inr (hw _ (List.mem_of_getElem? (i := 58) rfl))) (ty := (.object "java/lang/String")) (by decide)
        show G T3 (mkF m 29 #[.val (.int i1), .val (.int i2), .val (.int i3), .val (.int i4), .val (.int (0 : Int32)), .val (.int (0 : Int32)), .val (.ref a1), .val (.ref a2), .unset, .unset] [(.ref ft)])
        refine hs.go (fun _ kk_ => XS.dup X3.here hx rfl (hb hby at_29) rfl rfl kk_) ?_
        show G T3 (mkF m 30 #[.val (.int i1), .val (.int i2), .val (.int i3), .val (.int i4), .val (.int (0 : Int32)), .val (.int (0 : Int32)), .val (.ref a1), .val (.ref a2), .unset, .unset] [(.ref ft), (.ref ft)])
        refine hs.go (fun _ kk_ => XS.aconstNull X3.here hx rfl (hb hby at_30) kk_) ?_
        show G T3 (mkF m 31 #[.val (.int i1), .val (.int i2), .val (.int i3), .val (.int i4), .val (.int (0 : Int32)), .val (.int (0 : Int32)), .val (.ref a1), .val (.ref a2), .unset, .unset] [.null, (.ref ft), (.ref ft)])
        refine hs.go (fun _ kk_ => XS.aconstNull X3.here hx rfl (hb hby at_31) kk_) ?_
        show G T3 (mkF m 32 #[.val (.int i1), .val (.int i2), .val (.int i3), .val (.int i4), .val (.int (0 : Int32)), .val (.int (0 : Int32)), .val (.ref a1), .val (.ref a2), .unset, .unset] [.null, .null, (.ref ft), (.ref ft)])
        refine hs.go (fun _ kk_ => XS.aconstNull X3.here hx rfl (hb hby at_32) kk_) ?_
        show G T3 (mkF m 33 #[.val (.int i1), .val (.int i2), .val (.int i3), .val (.int i4), .val (.int (0 : Int32)), .val (.int (0 : Int32)), .val (.ref a1), .val (.ref a2), .unset, .unset] [.null, .null, .null, (.ref ft), (.ref ft)])
        refine hs.go (fun _ kk_ => XS.aload X3.here hx rfl (hb hby at_33) rfl rfl kk_) ?_
        show G T3 (mkF m 35 #[.val (.int i1), .val (.int i2), .val (.int i3), .val (.int i4), .val (.int (0 : Int32)), .val (.int (0 : Int32)), .val (.ref a1), .val (.ref a2), .unset, .unset] [(.ref a1), .null, .null, .null, (.ref ft), (.ref ft)])
        refine hs.go (fun _ kk_ => XS.aload X3.here hx rfl (hb hby at_35) rfl rfl kk_) ?_
        show G T3 (mkF m 37 #[.val (.int i1), .val (.int i2), .val (.int i3), .val (.int i4), .val (.int (0 : Int32)), .val (.int (0 : Int32)), .val (.ref a1), .val (.ref a2), .unset, .unset] [(.ref a2), (.ref a1), .null, .null, .null, (.ref ft), (.ref ft)])
        refine rCallI hs X3 hx hZ (as' := [.null, .null, .null, (.ref a1), (.ref a2)]) Jl.stb (rm8 l Z a0 hw [] ((Jl Z "java/lang/String" 7 aL)) Jl.stb ft a1 a2 h3 n0 Z0 E_ft g_ft F_words_ft F_wordsBeforeCurrency_ft F_wordsAfterCurrency_ft F_signsBefore_ft F_signsAfter_ft) rfl hown (hw _ (List.mem_of_getElem? (i := 40) rfl)) (hw _ (List.mem_of_getElem? (i := 41) rfl)) (hw _ (List.mem_of_getElem? (i := 39) rfl)) (hw _ (List.mem_of_getElem? (i := 42) rfl)) hy_8 rfl (by rw [hml]; rfl) [(.ref ft)] (lenOf pd_8 rfl) rfl 1 (by show 2 * 0 + _ ≤ _; exact Nat.le_of_eq rfl) (hb hby at_37) (by decide) (by decide) (by decide) (by decide) (fun r4 T4 h4 vm4 X4 q4 => ?_)
        obtain ⟨rfl, Kc4, E_ft, F_signsBefore_ft, F_signsAfter_ft, hj4⟩ := q4
        have X4 := X4 _ hj4
        have O := O.keep Kc4 (allS g_ft all0)
        have E_a1 := E_a1.keep Kc4
        have F_value_a1 := F_value_a1.keep Kc4 (ninS ne_a1_ft nin0)
        have E_a2 := E_a2.keep Kc4
        have F_value_a2 := F_value_a2.keep Kc4 (ninS ne_a2_ft nin0)
        have E_aL := E_aL.keep Kc4
        have F_value_aL := F_value_aL.keep Kc4 (ninS ne_aL_ft nin0)
        have F_coder_aL := F_coder_aL.keep Kc4 (ninS ne_aL_ft nin0)
        have V_bL := V_bL.keep Kc4 (ninS ne_bL_ft nin0)
        have Z0 := Nat.le_trans Z0 Kc4.1
        show G T4 (mkF m 40 #[.val (.int i1), .val (.int i2), .val (.int i3), .val (.int i4), .val (.int (0 : Int32)), .val (.int (0 : Int32)), .val (.ref a1), .val (.ref a2), .unset, .unset] [(.ref ft)])
        refine hs.go (fun _ kk_ => XS.astore X4.here hx rfl (hb hby at_40) rfl rfl (l' := #[.val (.int i1), .val (.int i2), .val (.int i3), .val (.int i4), .val (.int (0 : Int32)), .val (.int (0 : Int32)), .val (.ref a1), .val (.ref a2), .val (.ref ft), .unset]) rfl kk_) ?_
        show G T4 (mkF m 42 #[.val (.int i1), .val (.int i2), .val (.int i3), .val (.int i4), .val (.int (0 : Int32)), .val (.int (0 : Int32)), .val (.ref a1), .val (.ref a2), .val (.ref ft), .unset] [])
        refine hs.go (fun _ kk_ => XS.iload X4.here hx rfl (hb hby at_42) rfl  kk_) ?_
        show G T4 (mkF m 44 #[.val (.int i1), .val (.int i2), .val (.int i3), .val (.int i4), .val (.int (0 : Int32)), .val (.int (0 : Int32)), .val (.ref a1), .val (.ref a2), .val (.ref ft), .unset] [(.int (0 : Int32))])
        refine hs.go (fun _ kk_ => XS.ifNo X4.here hx rfl (hb hby at_44) rfl ((if0 _ _).trans (teq (rfl : (0 : Int32) = (0 : Int32))).2) kk_) ?_
        show G T4 (mkF m 47 #[.val (.int i1), .val (.int i2), .val (.int i3), .val (.int i4), .val (.int (0 : Int32)), .val (.int (0 : Int32)), .val (.ref a1), .val (.ref a2), .val (.ref ft), .unset] [])
        refine hs.go (fun _ kk_ => XS.iload X4.here hx rfl (hb hby at_47) rfl  kk_) ?_
        show G T4 (mkF m 49 #[.val (.int i1), .val (.int i2), .val (.int i3), .val (.int i4), .val (.int (0 : Int32)), .val (.int (0 : Int32)), .val (.ref a1), .val (.ref a2), .val (.ref ft), .unset] [(.int (0 : Int32))])
        refine hs.go (fun _ kk_ => XS.ifYes X4.here hx rfl (pc0 := 49) (pc' := 56) rfl (hb hby at_49) rfl ((if0 _ _).trans (teq (rfl : (0 : Int32) = (0 : Int32))).1) (by decide) (by decide) kk_) ?_
        show G T4 (mkF m 56 #[.val (.int i1), .val (.int i2), .val (.int i3), .val (.int i4), .val (.int (0 : Int32)), .val (.int (0 : Int32)), .val (.ref a1), .val (.ref a2), .val (.ref ft), .unset] [])
        refine hs.go (fun _ kk_ => XS.iconst X4.here hx rfl (hb hby at_56) kk_) ?_
        show G T4 (mkF m 57 #[.val (.int i1), .val (.int i2), .val (.int i3), .val (.int i4), .val (.int (0 : Int32)), .val (.int (0 : Int32)), .val (.ref a1), .val (.ref a2), .val (.ref ft), .unset] [(.int (0 : Int32))])
        refine hs.go (fun _ kk_ => XS.istore X4.here hx rfl (hb hby at_57) rfl (l' := #[.val (.int i1), .val (.int i2), .val (.int i3), .val (.int i4), .val (.int (0 : Int32)), .val (.int (0 : Int32)), .val (.ref a1), .val (.ref a2), .val (.ref ft), .val (.int (0 : Int32))]) rfl kk_) ?_
        show G T4 (mkF m 59 #[.val (.int i1), .val (.int i2), .val (.int i3), .val (.int i4), .val (.int (0 : Int32)), .val (.int (0 : Int32)), .val (.ref a1), .val (.ref a2), .val (.ref ft), .val (.int (0 : Int32))] [])
        refine hs.go (fun _ kk_ => XS.aload X4.here hx rfl (hb hby at_59) rfl rfl kk_) ?_
        show G T4 (mkF m 61 #[.val (.int i1), .val (.int i2), .val (.int i3), .val (.int i4), .val (.int (0 : Int32)), .val (.int (0 : Int32)), .val (.ref a1), .val (.ref a2), .val (.ref ft), .val (.int (0 : Int32))] [(.ref ft)])
        refine rCallV hs X4 hx hZ (as' := []) Jl.stb (rm10 l Z a0 hw [] ((Jl Z "java/lang/String" 7 aL)) Jl.stb ft a1 a2 bL bL kL kL (0 : Int32) (0 : Int32) [] [] h4 n0 Z0 F_signsBefore_ft F_signsAfter_ft E_a1 F_value_a1 V_bL E_a2 F_value_a2 V_bL) E_ft hown (hw _ (List.mem_of_getElem? (i := 59) rfl)) (hw _ (List.mem_of_getElem? (i := 60) rfl)) (hw _ (List.mem_of_getElem? (i := 62) rfl)) (hw _ (List.mem_of_getElem? (i := 61) rfl)) (hw _ (List.mem_of_getElem? (i := 39) rfl)) (hw _ (List.mem_of_getElem? (i := 63) rfl)) hy_10 rfl (by rw [hml]; rfl) [] (lenOf pd_6 rfl) rfl 0 (by show 2 * 0 + _ ≤ _; exact Nat.le_of_eq rfl) (hb hby at_61) (by decide) (by decide) (by decide) (by decide) (fun r5 T5 h5 vm5 X5 q5 => ?_)
        obtain ⟨rfl, qh5, hj5⟩ := q5
        have X5 := X5 _ hj5
        rw [qh5] at X5
        show G T5 (mkF m 64 #[.val (.int i1), .val (.int i2), .val (.int i3), .val (.int i4), .val (.int (0 : Int32)), .val (.int (0 : Int32)), .val (.ref a1), .val (.ref a2), .val (.ref ft), .val (.int (0 : Int32))] [(.int (fws (0 : Int32) (0 : Int32)))])
        refine hs.go (fun _ kk_ => XS.iload X5.here hx rfl (hb hby at_64) rfl  kk_) ?_
        show G T5 (mkF m 66 #[.val (.int i1), .val (.int i2), .val (.int i3), .val (.int i4), .val (.int (0 : Int32)), .val (.int (0 : Int32)), .val (.ref a1), .val (.ref a2), .val (.ref ft), .val (.int (0 : Int32))] [(.int (0 : Int32)), (.int (fws (0 : Int32) (0 : Int32)))])
        refine hs.go (fun _ kk_ => XS.icmpNo X5.here hx rfl (hb hby at_66) rfl (teq ((by decide) : (fws (0 : Int32) (0 : Int32)) = (0 : Int32))).2 kk_) ?_
        show G T5 (mkF m 69 #[.val (.int i1), .val (.int i2), .val (.int i3), .val (.int i4), .val (.int (0 : Int32)), .val (.int (0 : Int32)), .val (.ref a1), .val (.ref a2), .val (.ref ft), .val (.int (0 : Int32))] [])
        refine hs.go (fun _ kk_ => XS.iconst X5.here hx rfl (hb hby at_69) kk_) ?_
        show G T5 (mkF m 70 #[.val (.int i1), .val (.int i2), .val (.int i3), .val (.int i4), .val (.int (0 : Int32)), .val (.int (0 : Int32)), .val (.ref a1), .val (.ref a2), .val (.ref ft), .val (.int (0 : Int32))] [(.int (1 : Int32))])
        refine hs.go (fun _ kk_ => XS.goto X5.here hx rfl (pc0 := 70) (pc' := 74) rfl (hb hby at_70) (by decide) (by decide) kk_) ?_
        show G T5 (mkF m 74 #[.val (.int i1), .val (.int i2), .val (.int i3), .val (.int i4), .val (.int (0 : Int32)), .val (.int (0 : Int32)), .val (.ref a1), .val (.ref a2), .val (.ref ft), .val (.int (0 : Int32))] [(.int (1 : Int32))])
        exact rRetN fin Jl.stb X5 hx (by decide) (by decide) hret (by simp) (hb hby at_74) (z' := (1 : Int32)) (by decide) (fun vm' hj => rfl)
    · subst e_
      show G s₁ (mkF m 10 #[.val (.int i1), .val (.int i2), .val (.int i3), .val (.int i4), .val (.int (0 : Int32)), .val (.int (1 : Int32)), .unset, .unset, .unset, .unset] [])
      refine hs.go (fun _ kk_ => XS.iload X0.here hx rfl (hb hby at_10) rfl  kk_) ?_
      show G s₁ (mkF m 12 #[.val (.int i1), .val (.int i2), .val (.int i3), .val (.int i4), .val (.int (0 : Int32)), .val (.int (1 : Int32)), .unset, .unset, .unset, .unset] [(.int (0 : Int32))])
      refine hs.go (fun _ kk_ => XS.iloadN X0.here hx rfl (hb hby at_12) rfl  kk_) ?_
      show G s₁ (mkF m 13 #[.val (.int i1), .val (.int i2), .val (.int i3), .val (.int i4), .val (.int (0 : Int32)), .val (.int (1 : Int32)), .unset, .unset, .unset, .unset] [(.int i2), (.int (0 : Int32))])
      refine rCallS hs X0 hx hZ (as' := [(.int (0 : Int32)), (.int i2)]) Jn.stb (tx_f l Z a0 hw [] i2 h0 n0 Z0 O HC HW) hown (hw _ (List.mem_of_getElem? (i := 0) rfl)) (hw _ (List.mem_of_getElem? (i := 1) rfl)) (hw _ (List.mem_of_getElem? (i := 2) rfl)) (hw _ (List.mem_of_getElem? (i := 3) rfl)) hy_1 rfl (by rw [hml]; rfl) [] (lenOf pd_7 rfl) rfl 0 (by show 2 * 0 + _ ≤ _; exact Nat.le_of_eq rfl) (hb hby at_13) (by decide) (by decide) (by decide) (by decide) (fun r6 T6 h6 vm6 X6 q6 => ?_)
      obtain ⟨a6, aL, bL, kL, rfl, Kc6, E_a6, F_value_a6, E_aL, F_value_aL, F_coder_aL, V_bL, hj6⟩ := q6
      have X6 := X6 _ hj6
      have O := O.keep Kc6 all0
      have Z0 := Nat.le_trans Z0 Kc6.1
      show G T6 (mkF m 16 #[.val (.int i1), .val (.int i2), .val (.int i3), .val (.int i4), .val (.int (0 : Int32)), .val (.int (1 : Int32)), .unset, .unset, .unset, .unset] [(.ref a6)])
      refine hs.go (fun _ kk_ => XS.astore X6.here hx rfl (hb hby at_16) rfl rfl (l' := #[.val (.int i1), .val (.int i2), .val (.int i3), .val (.int i4), .val (.int (0 : Int32)), .val (.int (1 : Int32)), .val (.ref a6), .unset, .unset, .unset]) rfl kk_) ?_
      show G T6 (mkF m 18 #[.val (.int i1), .val (.int i2), .val (.int i3), .val (.int i4), .val (.int (0 : Int32)), .val (.int (1 : Int32)), .val (.ref a6), .unset, .unset, .unset] [])
      refine hs.go (fun _ kk_ => XS.iload X6.here hx rfl (hb hby at_18) rfl  kk_) ?_
      show G T6 (mkF m 20 #[.val (.int i1), .val (.int i2), .val (.int i3), .val (.int i4), .val (.int (0 : Int32)), .val (.int (1 : Int32)), .val (.ref a6), .unset, .unset, .unset] [(.int (1 : Int32))])
      refine hs.go (fun _ kk_ => XS.iloadN X6.here hx rfl (hb hby at_20) rfl  kk_) ?_
      show G T6 (mkF m 21 #[.val (.int i1), .val (.int i2), .val (.int i3), .val (.int i4), .val (.int (0 : Int32)), .val (.int (1 : Int32)), .val (.ref a6), .unset, .unset, .unset] [(.int i4), (.int (1 : Int32))])
      refine rCallS hs X6 hx hZ (as' := [(.int (1 : Int32)), (.int i4)]) Jl.stb (tx_1 l Z a0 hw [] ((Jl Z "java/lang/String" 7 aL)) Jl.stb i4 h6 n0 Z0 O cw S0 hcw) hown (hw _ (List.mem_of_getElem? (i := 0) rfl)) (hw _ (List.mem_of_getElem? (i := 1) rfl)) (hw _ (List.mem_of_getElem? (i := 2) rfl)) (hw _ (List.mem_of_getElem? (i := 3) rfl)) hy_1 rfl (by rw [hml]; rfl) [] (lenOf pd_7 rfl) rfl 0 (by show 2 * 0 + _ ≤ _; exact Nat.le_of_eq rfl) (hb hby at_21) (by decide) (by decide) (by decide) (by decide) (fun r7 T7 h7 vm7 X7 q7 => ?_)
      obtain ⟨a7, d7, kd7, vd7, rfl, Kc7, E_a7, F_value_a7, V_d7, hj7⟩ := q7
      have X7 := X7 _ hj7
      have O := O.keep Kc7 all0
      have E_a6 := E_a6.keep Kc7
      have F_value_a6 := F_value_a6.keep Kc7 nin0
      have E_aL := E_aL.keep Kc7
      have F_value_aL := F_value_aL.keep Kc7 nin0
      have F_coder_aL := F_coder_aL.keep Kc7 nin0
      have V_bL := V_bL.keep Kc7 nin0
      have Z0 := Nat.le_trans Z0 Kc7.1
      show G T7 (mkF m 24 #[.val (.int i1), .val (.int i2), .val (.int i3), .val (.int i4), .val (.int (0 : Int32)), .val (.int (1 : Int32)), .val (.ref a6), .unset, .unset, .unset] [(.ref a7)])
      refine hs.go (fun _ kk_ => XS.astore X7.here hx rfl (hb hby at_24) rfl rfl (l' := #[.val (.int i1), .val (.int i2), .val (.int i3), .val (.int i4), .val (.int (0 : Int32)), .val (.int (1 : Int32)), .val (.ref a6), .val (.ref a7), .unset, .unset]) rfl kk_) ?_
      show G T7 (mkF m 26 #[.val (.int i1), .val (.int i2), .val (.int i3), .val (.int i4), .val (.int (0 : Int32)), .val (.int (1 : Int32)), .val (.ref a6), .val (.ref a7), .unset, .unset] [])
      as_aux_lemma =>
        refine rNewO hs X7 hx hZ hown (hw _ (List.mem_of_getElem? (i := 37) rfl)) (hw _ (List.mem_of_getElem? (i := 38) rfl)) (hw _ (List.mem_of_getElem? (i := 39) rfl)) rfl (hb hby at_26) (by decide) (by decide) (fun T8 h8 ft g8 X8 E8 E_ft D8 => ?_)
        have g_ft : n0 ≤ ft := by rw [g8]; exact Z0
        have Z0 := Nat.le_trans Z0 E8.1
        have ne_a6_ft : a6 ≠ ft := Nat.ne_of_lt (Nat.lt_of_lt_of_le E_a6.lt (Nat.le_of_eq g8.symm))
        have ne_aL_ft : aL ≠ ft := Nat.ne_of_lt (Nat.lt_of_lt_of_le E_aL.lt (Nat.le_of_eq g8.symm))
        have ne_bL_ft : bL ≠ ft := Nat.ne_of_lt (Nat.lt_of_lt_of_le V_bL.lt (Nat.le_of_eq g8.symm))
        have ne_a7_ft : a7 ≠ ft := Nat.ne_of_lt (Nat.lt_of_lt_of_le E_a7.lt (Nat.le_of_eq g8.symm))
        have ne_d7_ft : d7 ≠ ft := Nat.ne_of_lt (Nat.lt_of_lt_of_le V_d7.lt (Nat.le_of_eq g8.symm))
        have O := O.ext E8
        have E_a6 := E_a6.ext E8
        have F_value_a6 := F_value_a6.ext E8
        have E_aL := E_aL.ext E8
        have F_value_aL := F_value_aL.ext E8
        have F_coder_aL := F_coder_aL.ext E8
        have V_bL := V_bL.ext E8
        have E_a7 := E_a7.ext E8
        have F_value_a7 := F_value_a7.ext E8
        have V_d7 := V_d7.ext E8
        have F_words_ft : Fld Z h8 ft "com/example/farthing/farthing/format/FormText" "words" "Ljava/util/Set;" .null := D8 (Or.inr (hw _ (List.mem_of_getElem? (i := 50) rfl))) (ty := (.object "java/util/Set")) (by decide)
        have F_wordsBeforeCurrency_ft : Fld Z h8 ft "com/example/farthing/farthing/format/FormText" "wordsBeforeCurrency" "Ljava/util/Set;" .null := D8 (Or.inr (hw _ (List.mem_of_getElem? (i := 52) rfl))) (ty := (.object "java/util/Set")) (by decide)
        have F_wordsAfterCurrency_ft : Fld Z h8 ft "com/example/farthing/farthing/format/FormText" "wordsAfterCurrency" "Ljava/util/Set;" .null := D8 (Or.inr (hw _ (List.mem_of_getElem? (i := 54) rfl))) (ty := (.object "java/util/Set")) (by decide)
        have F_signsBefore_ft : Fld Z h8 ft "com/example/farthing/farthing/format/FormText" "signsBefore" "Ljava/lang/String;" .null := D8 (Or.inr (hw _ (List.mem_of_getElem? (i := 56) rfl))) (ty := (.object "java/lang/String")) (by decide)
        have F_signsAfter_ft : Fld Z h8 ft "com/example/farthing/farthing/format/FormText" "signsAfter" "Ljava/lang/String;" .null := D8 (Or.inr (hw _ (List.mem_of_getElem? (i := 58) rfl))) (ty := (.object "java/lang/String")) (by decide)
        show G T8 (mkF m 29 #[.val (.int i1), .val (.int i2), .val (.int i3), .val (.int i4), .val (.int (0 : Int32)), .val (.int (1 : Int32)), .val (.ref a6), .val (.ref a7), .unset, .unset] [(.ref ft)])
        refine hs.go (fun _ kk_ => XS.dup X8.here hx rfl (hb hby at_29) rfl rfl kk_) ?_
        show G T8 (mkF m 30 #[.val (.int i1), .val (.int i2), .val (.int i3), .val (.int i4), .val (.int (0 : Int32)), .val (.int (1 : Int32)), .val (.ref a6), .val (.ref a7), .unset, .unset] [(.ref ft), (.ref ft)])
        refine hs.go (fun _ kk_ => XS.aconstNull X8.here hx rfl (hb hby at_30) kk_) ?_
        show G T8 (mkF m 31 #[.val (.int i1), .val (.int i2), .val (.int i3), .val (.int i4), .val (.int (0 : Int32)), .val (.int (1 : Int32)), .val (.ref a6), .val (.ref a7), .unset, .unset] [.null, (.ref ft), (.ref ft)])
        refine hs.go (fun _ kk_ => XS.aconstNull X8.here hx rfl (hb hby at_31) kk_) ?_
        show G T8 (mkF m 32 #[.val (.int i1), .val (.int i2), .val (.int i3), .val (.int i4), .val (.int (0 : Int32)), .val (.int (1 : Int32)), .val (.ref a6), .val (.ref a7), .unset, .unset] [.null, .null, (.ref ft), (.ref ft)])
        refine hs.go (fun _ kk_ => XS.aconstNull X8.here hx rfl (hb hby at_32) kk_) ?_
        show G T8 (mkF m 33 #[.val (.int i1), .val (.int i2), .val (.int i3), .val (.int i4), .val (.int (0 : Int32)), .val (.int (1 : Int32)), .val (.ref a6), .val (.ref a7), .unset, .unset] [.null, .null, .null, (.ref ft), (.ref ft)])
        refine hs.go (fun _ kk_ => XS.aload X8.here hx rfl (hb hby at_33) rfl rfl kk_) ?_
        show G T8 (mkF m 35 #[.val (.int i1), .val (.int i2), .val (.int i3), .val (.int i4), .val (.int (0 : Int32)), .val (.int (1 : Int32)), .val (.ref a6), .val (.ref a7), .unset, .unset] [(.ref a6), .null, .null, .null, (.ref ft), (.ref ft)])
        refine hs.go (fun _ kk_ => XS.aload X8.here hx rfl (hb hby at_35) rfl rfl kk_) ?_
        show G T8 (mkF m 37 #[.val (.int i1), .val (.int i2), .val (.int i3), .val (.int i4), .val (.int (0 : Int32)), .val (.int (1 : Int32)), .val (.ref a6), .val (.ref a7), .unset, .unset] [(.ref a7), (.ref a6), .null, .null, .null, (.ref ft), (.ref ft)])
        refine rCallI hs X8 hx hZ (as' := [.null, .null, .null, (.ref a6), (.ref a7)]) Jl.stb (rm8 l Z a0 hw [] ((Jl Z "java/lang/String" 7 aL)) Jl.stb ft a6 a7 h8 n0 Z0 E_ft g_ft F_words_ft F_wordsBeforeCurrency_ft F_wordsAfterCurrency_ft F_signsBefore_ft F_signsAfter_ft) rfl hown (hw _ (List.mem_of_getElem? (i := 40) rfl)) (hw _ (List.mem_of_getElem? (i := 41) rfl)) (hw _ (List.mem_of_getElem? (i := 39) rfl)) (hw _ (List.mem_of_getElem? (i := 42) rfl)) hy_8 rfl (by rw [hml]; rfl) [(.ref ft)] (lenOf pd_8 rfl) rfl 1 (by show 2 * 0 + _ ≤ _; exact Nat.le_of_eq rfl) (hb hby at_37) (by decide) (by decide) (by decide) (by decide) (fun r9 T9 h9 vm9 X9 q9 => ?_)
        obtain ⟨rfl, Kc9, E_ft, F_signsBefore_ft, F_signsAfter_ft, hj9⟩ := q9
        have X9 := X9 _ hj9
        have O := O.keep Kc9 (allS g_ft all0)
        have E_a6 := E_a6.keep Kc9
        have F_value_a6 := F_value_a6.keep Kc9 (ninS ne_a6_ft nin0)
        have E_aL := E_aL.keep Kc9
        have F_value_aL := F_value_aL.keep Kc9 (ninS ne_aL_ft nin0)
        have F_coder_aL := F_coder_aL.keep Kc9 (ninS ne_aL_ft nin0)
        have V_bL := V_bL.keep Kc9 (ninS ne_bL_ft nin0)
        have E_a7 := E_a7.keep Kc9
        have F_value_a7 := F_value_a7.keep Kc9 (ninS ne_a7_ft nin0)
        have V_d7 := V_d7.keep Kc9 (ninS ne_d7_ft nin0)
        have Z0 := Nat.le_trans Z0 Kc9.1
        show G T9 (mkF m 40 #[.val (.int i1), .val (.int i2), .val (.int i3), .val (.int i4), .val (.int (0 : Int32)), .val (.int (1 : Int32)), .val (.ref a6), .val (.ref a7), .unset, .unset] [(.ref ft)])
        refine hs.go (fun _ kk_ => XS.astore X9.here hx rfl (hb hby at_40) rfl rfl (l' := #[.val (.int i1), .val (.int i2), .val (.int i3), .val (.int i4), .val (.int (0 : Int32)), .val (.int (1 : Int32)), .val (.ref a6), .val (.ref a7), .val (.ref ft), .unset]) rfl kk_) ?_
        show G T9 (mkF m 42 #[.val (.int i1), .val (.int i2), .val (.int i3), .val (.int i4), .val (.int (0 : Int32)), .val (.int (1 : Int32)), .val (.ref a6), .val (.ref a7), .val (.ref ft), .unset] [])
        refine hs.go (fun _ kk_ => XS.iload X9.here hx rfl (hb hby at_42) rfl  kk_) ?_
        show G T9 (mkF m 44 #[.val (.int i1), .val (.int i2), .val (.int i3), .val (.int i4), .val (.int (0 : Int32)), .val (.int (1 : Int32)), .val (.ref a6), .val (.ref a7), .val (.ref ft), .unset] [(.int (0 : Int32))])
        refine hs.go (fun _ kk_ => XS.ifNo X9.here hx rfl (hb hby at_44) rfl ((if0 _ _).trans (teq (rfl : (0 : Int32) = (0 : Int32))).2) kk_) ?_
        show G T9 (mkF m 47 #[.val (.int i1), .val (.int i2), .val (.int i3), .val (.int i4), .val (.int (0 : Int32)), .val (.int (1 : Int32)), .val (.ref a6), .val (.ref a7), .val (.ref ft), .unset] [])
        refine hs.go (fun _ kk_ => XS.iload X9.here hx rfl (hb hby at_47) rfl  kk_) ?_
        show G T9 (mkF m 49 #[.val (.int i1), .val (.int i2), .val (.int i3), .val (.int i4), .val (.int (0 : Int32)), .val (.int (1 : Int32)), .val (.ref a6), .val (.ref a7), .val (.ref ft), .unset] [(.int (1 : Int32))])
        refine hs.go (fun _ kk_ => XS.ifNo X9.here hx rfl (hb hby at_49) rfl ((if0 _ _).trans (feq ((by decide) : ¬ ((1 : Int32) = (0 : Int32)))).1) kk_) ?_
        show G T9 (mkF m 52 #[.val (.int i1), .val (.int i2), .val (.int i3), .val (.int i4), .val (.int (0 : Int32)), .val (.int (1 : Int32)), .val (.ref a6), .val (.ref a7), .val (.ref ft), .unset] [])
        refine hs.go (fun _ kk_ => XS.iconst X9.here hx rfl (hb hby at_52) kk_) ?_
        show G T9 (mkF m 53 #[.val (.int i1), .val (.int i2), .val (.int i3), .val (.int i4), .val (.int (0 : Int32)), .val (.int (1 : Int32)), .val (.ref a6), .val (.ref a7), .val (.ref ft), .unset] [(.int (1 : Int32))])
        refine hs.go (fun _ kk_ => XS.goto X9.here hx rfl (pc0 := 53) (pc' := 57) rfl (hb hby at_53) (by decide) (by decide) kk_) ?_
        show G T9 (mkF m 57 #[.val (.int i1), .val (.int i2), .val (.int i3), .val (.int i4), .val (.int (0 : Int32)), .val (.int (1 : Int32)), .val (.ref a6), .val (.ref a7), .val (.ref ft), .unset] [(.int (1 : Int32))])
        refine hs.go (fun _ kk_ => XS.istore X9.here hx rfl (hb hby at_57) rfl (l' := #[.val (.int i1), .val (.int i2), .val (.int i3), .val (.int i4), .val (.int (0 : Int32)), .val (.int (1 : Int32)), .val (.ref a6), .val (.ref a7), .val (.ref ft), .val (.int (1 : Int32))]) rfl kk_) ?_
        show G T9 (mkF m 59 #[.val (.int i1), .val (.int i2), .val (.int i3), .val (.int i4), .val (.int (0 : Int32)), .val (.int (1 : Int32)), .val (.ref a6), .val (.ref a7), .val (.ref ft), .val (.int (1 : Int32))] [])
        refine hs.go (fun _ kk_ => XS.aload X9.here hx rfl (hb hby at_59) rfl rfl kk_) ?_
        show G T9 (mkF m 61 #[.val (.int i1), .val (.int i2), .val (.int i3), .val (.int i4), .val (.int (0 : Int32)), .val (.int (1 : Int32)), .val (.ref a6), .val (.ref a7), .val (.ref ft), .val (.int (1 : Int32))] [(.ref ft)])
        refine rCallV hs X9 hx hZ (as' := []) Jl.stb (rm10 l Z a0 hw [] ((Jl Z "java/lang/String" 7 aL)) Jl.stb ft a6 a7 bL d7 kL kd7 (0 : Int32) (1 : Int32) [] vd7 h9 n0 Z0 F_signsBefore_ft F_signsAfter_ft E_a6 F_value_a6 V_bL E_a7 F_value_a7 V_d7) E_ft hown (hw _ (List.mem_of_getElem? (i := 59) rfl)) (hw _ (List.mem_of_getElem? (i := 60) rfl)) (hw _ (List.mem_of_getElem? (i := 62) rfl)) (hw _ (List.mem_of_getElem? (i := 61) rfl)) (hw _ (List.mem_of_getElem? (i := 39) rfl)) (hw _ (List.mem_of_getElem? (i := 63) rfl)) hy_10 rfl (by rw [hml]; rfl) [] (lenOf pd_6 rfl) rfl 0 (by show 2 * 0 + _ ≤ _; exact Nat.le_of_eq rfl) (hb hby at_61) (by decide) (by decide) (by decide) (by decide) (fun r10 T10 h10 vm10 X10 q10 => ?_)
        obtain ⟨rfl, qh10, hj10⟩ := q10
        have X10 := X10 _ hj10
        rw [qh10] at X10
        show G T10 (mkF m 64 #[.val (.int i1), .val (.int i2), .val (.int i3), .val (.int i4), .val (.int (0 : Int32)), .val (.int (1 : Int32)), .val (.ref a6), .val (.ref a7), .val (.ref ft), .val (.int (1 : Int32))] [(.int (fws (0 : Int32) (1 : Int32)))])
        refine hs.go (fun _ kk_ => XS.iload X10.here hx rfl (hb hby at_64) rfl  kk_) ?_
        show G T10 (mkF m 66 #[.val (.int i1), .val (.int i2), .val (.int i3), .val (.int i4), .val (.int (0 : Int32)), .val (.int (1 : Int32)), .val (.ref a6), .val (.ref a7), .val (.ref ft), .val (.int (1 : Int32))] [(.int (1 : Int32)), (.int (fws (0 : Int32) (1 : Int32)))])
        refine hs.go (fun _ kk_ => XS.icmpNo X10.here hx rfl (hb hby at_66) rfl (teq ((by decide) : (fws (0 : Int32) (1 : Int32)) = (1 : Int32))).2 kk_) ?_
        show G T10 (mkF m 69 #[.val (.int i1), .val (.int i2), .val (.int i3), .val (.int i4), .val (.int (0 : Int32)), .val (.int (1 : Int32)), .val (.ref a6), .val (.ref a7), .val (.ref ft), .val (.int (1 : Int32))] [])
        refine hs.go (fun _ kk_ => XS.iconst X10.here hx rfl (hb hby at_69) kk_) ?_
        show G T10 (mkF m 70 #[.val (.int i1), .val (.int i2), .val (.int i3), .val (.int i4), .val (.int (0 : Int32)), .val (.int (1 : Int32)), .val (.ref a6), .val (.ref a7), .val (.ref ft), .val (.int (1 : Int32))] [(.int (1 : Int32))])
        refine hs.go (fun _ kk_ => XS.goto X10.here hx rfl (pc0 := 70) (pc' := 74) rfl (hb hby at_70) (by decide) (by decide) kk_) ?_
        show G T10 (mkF m 74 #[.val (.int i1), .val (.int i2), .val (.int i3), .val (.int i4), .val (.int (0 : Int32)), .val (.int (1 : Int32)), .val (.ref a6), .val (.ref a7), .val (.ref ft), .val (.int (1 : Int32))] [(.int (1 : Int32))])
        exact rRetN fin Jl.stb X10 hx (by decide) (by decide) hret (by simp) (hb hby at_74) (z' := (1 : Int32)) (by decide) (fun vm' hj => rfl)
    · subst e_
      show G s₁ (mkF m 10 #[.val (.int i1), .val (.int i2), .val (.int i3), .val (.int i4), .val (.int (0 : Int32)), .val (.int (2 : Int32)), .unset, .unset, .unset, .unset] [])
      refine hs.go (fun _ kk_ => XS.iload X0.here hx rfl (hb hby at_10) rfl  kk_) ?_
      show G s₁ (mkF m 12 #[.val (.int i1), .val (.int i2), .val (.int i3), .val (.int i4), .val (.int (0 : Int32)), .val (.int (2 : Int32)), .unset, .unset, .unset, .unset] [(.int (0 : Int32))])
      refine hs.go (fun _ kk_ => XS.iloadN X0.here hx rfl (hb hby at_12) rfl  kk_) ?_
      show G s₁ (mkF m 13 #[.val (.int i1), .val (.int i2), .val (.int i3), .val (.int i4), .val (.int (0 : Int32)), .val (.int (2 : Int32)), .unset, .unset, .unset, .unset] [(.int i2), (.int (0 : Int32))])
      refine rCallS hs X0 hx hZ (as' := [(.int (0 : Int32)), (.int i2)]) Jn.stb (tx_f l Z a0 hw [] i2 h0 n0 Z0 O HC HW) hown (hw _ (List.mem_of_getElem? (i := 0) rfl)) (hw _ (List.mem_of_getElem? (i := 1) rfl)) (hw _ (List.mem_of_getElem? (i := 2) rfl)) (hw _ (List.mem_of_getElem? (i := 3) rfl)) hy_1 rfl (by rw [hml]; rfl) [] (lenOf pd_7 rfl) rfl 0 (by show 2 * 0 + _ ≤ _; exact Nat.le_of_eq rfl) (hb hby at_13) (by decide) (by decide) (by decide) (by decide) (fun r11 T11 h11 vm11 X11 q11 => ?_)
      obtain ⟨a11, aL, bL, kL, rfl, Kc11, E_a11, F_value_a11, E_aL, F_value_aL, F_coder_aL, V_bL, hj11⟩ := q11
      have X11 := X11 _ hj11
      have O := O.keep Kc11 all0
      have Z0 := Nat.le_trans Z0 Kc11.1
      show G T11 (mkF m 16 #[.val (.int i1), .val (.int i2), .val (.int i3), .val (.int i4), .val (.int (0 : Int32)), .val (.int (2 : Int32)), .unset, .unset, .unset, .unset] [(.ref a11)])
      refine hs.go (fun _ kk_ => XS.astore X11.here hx rfl (hb hby at_16) rfl rfl (l' := #[.val (.int i1), .val (.int i2), .val (.int i3), .val (.int i4), .val (.int (0 : Int32)), .val (.int (2 : Int32)), .val (.ref a11), .unset, .unset, .unset]) rfl kk_) ?_
      show G T11 (mkF m 18 #[.val (.int i1), .val (.int i2), .val (.int i3), .val (.int i4), .val (.int (0 : Int32)), .val (.int (2 : Int32)), .val (.ref a11), .unset, .unset, .unset] [])
      refine hs.go (fun _ kk_ => XS.iload X11.here hx rfl (hb hby at_18) rfl  kk_) ?_
      show G T11 (mkF m 20 #[.val (.int i1), .val (.int i2), .val (.int i3), .val (.int i4), .val (.int (0 : Int32)), .val (.int (2 : Int32)), .val (.ref a11), .unset, .unset, .unset] [(.int (2 : Int32))])
      refine hs.go (fun _ kk_ => XS.iloadN X11.here hx rfl (hb hby at_20) rfl  kk_) ?_
      show G T11 (mkF m 21 #[.val (.int i1), .val (.int i2), .val (.int i3), .val (.int i4), .val (.int (0 : Int32)), .val (.int (2 : Int32)), .val (.ref a11), .unset, .unset, .unset] [(.int i4), (.int (2 : Int32))])
      refine rCallS hs X11 hx hZ (as' := [(.int (2 : Int32)), (.int i4)]) Jl.stb (tx_2 l Z a0 hw [] ((Jl Z "java/lang/String" 7 aL)) Jl.stb i4 h11 n0 Z0 O cw S0 hcw) hown (hw _ (List.mem_of_getElem? (i := 0) rfl)) (hw _ (List.mem_of_getElem? (i := 1) rfl)) (hw _ (List.mem_of_getElem? (i := 2) rfl)) (hw _ (List.mem_of_getElem? (i := 3) rfl)) hy_1 rfl (by rw [hml]; rfl) [] (lenOf pd_7 rfl) rfl 0 (by show 2 * 0 + _ ≤ _; exact Nat.le_of_eq rfl) (hb hby at_21) (by decide) (by decide) (by decide) (by decide) (fun r12 T12 h12 vm12 X12 q12 => ?_)
      obtain ⟨a12, d12, kd12, vd12, rfl, Kc12, E_a12, F_value_a12, V_d12, hj12⟩ := q12
      have X12 := X12 _ hj12
      have O := O.keep Kc12 all0
      have E_a11 := E_a11.keep Kc12
      have F_value_a11 := F_value_a11.keep Kc12 nin0
      have E_aL := E_aL.keep Kc12
      have F_value_aL := F_value_aL.keep Kc12 nin0
      have F_coder_aL := F_coder_aL.keep Kc12 nin0
      have V_bL := V_bL.keep Kc12 nin0
      have Z0 := Nat.le_trans Z0 Kc12.1
      show G T12 (mkF m 24 #[.val (.int i1), .val (.int i2), .val (.int i3), .val (.int i4), .val (.int (0 : Int32)), .val (.int (2 : Int32)), .val (.ref a11), .unset, .unset, .unset] [(.ref a12)])
      refine hs.go (fun _ kk_ => XS.astore X12.here hx rfl (hb hby at_24) rfl rfl (l' := #[.val (.int i1), .val (.int i2), .val (.int i3), .val (.int i4), .val (.int (0 : Int32)), .val (.int (2 : Int32)), .val (.ref a11), .val (.ref a12), .unset, .unset]) rfl kk_) ?_
      show G T12 (mkF m 26 #[.val (.int i1), .val (.int i2), .val (.int i3), .val (.int i4), .val (.int (0 : Int32)), .val (.int (2 : Int32)), .val (.ref a11), .val (.ref a12), .unset, .unset] [])
      as_aux_lemma =>
        refine rNewO hs X12 hx hZ hown (hw _ (List.mem_of_getElem? (i := 37) rfl)) (hw _ (List.mem_of_getElem? (i := 38) rfl)) (hw _ (List.mem_of_getElem? (i := 39) rfl)) rfl (hb hby at_26) (by decide) (by decide) (fun T13 h13 ft g13 X13 E13 E_ft D13 => ?_)
        have g_ft : n0 ≤ ft := by rw [g13]; exact Z0
        have Z0 := Nat.le_trans Z0 E13.1
        have ne_a11_ft : a11 ≠ ft := Nat.ne_of_lt (Nat.lt_of_lt_of_le E_a11.lt (Nat.le_of_eq g13.symm))
        have ne_aL_ft : aL ≠ ft := Nat.ne_of_lt (Nat.lt_of_lt_of_le E_aL.lt (Nat.le_of_eq g13.symm))
        have ne_bL_ft : bL ≠ ft := Nat.ne_of_lt (Nat.lt_of_lt_of_le V_bL.lt (Nat.le_of_eq g13.symm))
        have ne_a12_ft : a12 ≠ ft := Nat.ne_of_lt (Nat.lt_of_lt_of_le E_a12.lt (Nat.le_of_eq g13.symm))
        have ne_d12_ft : d12 ≠ ft := Nat.ne_of_lt (Nat.lt_of_lt_of_le V_d12.lt (Nat.le_of_eq g13.symm))
        have O := O.ext E13
        have E_a11 := E_a11.ext E13
        have F_value_a11 := F_value_a11.ext E13
        have E_aL := E_aL.ext E13
        have F_value_aL := F_value_aL.ext E13
        have F_coder_aL := F_coder_aL.ext E13
        have V_bL := V_bL.ext E13
        have E_a12 := E_a12.ext E13
        have F_value_a12 := F_value_a12.ext E13
        have V_d12 := V_d12.ext E13
        have F_words_ft : Fld Z h13 ft "com/example/farthing/farthing/format/FormText" "words" "Ljava/util/Set;" .null := D13 (Or.inr (hw _ (List.mem_of_getElem? (i := 50) rfl))) (ty := (.object "java/util/Set")) (by decide)
        have F_wordsBeforeCurrency_ft : Fld Z h13 ft "com/example/farthing/farthing/format/FormText" "wordsBeforeCurrency" "Ljava/util/Set;" .null := D13 (Or.inr (hw _ (List.mem_of_getElem? (i := 52) rfl))) (ty := (.object "java/util/Set")) (by decide)
        have F_wordsAfterCurrency_ft : Fld Z h13 ft "com/example/farthing/farthing/format/FormText" "wordsAfterCurrency" "Ljava/util/Set;" .null := D13 (Or.inr (hw _ (List.mem_of_getElem? (i := 54) rfl))) (ty := (.object "java/util/Set")) (by decide)
        have F_signsBefore_ft : Fld Z h13 ft "com/example/farthing/farthing/format/FormText" "signsBefore" "Ljava/lang/String;" .null := D13 (Or.inr (hw _ (List.mem_of_getElem? (i := 56) rfl))) (ty := (.object "java/lang/String")) (by decide)
        have F_signsAfter_ft : Fld Z h13 ft "com/example/farthing/farthing/format/FormText" "signsAfter" "Ljava/lang/String;" .null := D13 (Or.inr (hw _ (List.mem_of_getElem? (i := 58) rfl))) (ty := (.object "java/lang/String")) (by decide)
        show G T13 (mkF m 29 #[.val (.int i1), .val (.int i2), .val (.int i3), .val (.int i4), .val (.int (0 : Int32)), .val (.int (2 : Int32)), .val (.ref a11), .val (.ref a12), .unset, .unset] [(.ref ft)])
        refine hs.go (fun _ kk_ => XS.dup X13.here hx rfl (hb hby at_29) rfl rfl kk_) ?_
        show G T13 (mkF m 30 #[.val (.int i1), .val (.int i2), .val (.int i3), .val (.int i4), .val (.int (0 : Int32)), .val (.int (2 : Int32)), .val (.ref a11), .val (.ref a12), .unset, .unset] [(.ref ft), (.ref ft)])
        refine hs.go (fun _ kk_ => XS.aconstNull X13.here hx rfl (hb hby at_30) kk_) ?_
        show G T13 (mkF m 31 #[.val (.int i1), .val (.int i2), .val (.int i3), .val (.int i4), .val (.int (0 : Int32)), .val (.int (2 : Int32)), .val (.ref a11), .val (.ref a12), .unset, .unset] [.null, (.ref ft), (.ref ft)])
        refine hs.go (fun _ kk_ => XS.aconstNull X13.here hx rfl (hb hby at_31) kk_) ?_
        show G T13 (mkF m 32 #[.val (.int i1), .val (.int i2), .val (.int i3), .val (.int i4), .val (.int (0 : Int32)), .val (.int (2 : Int32)), .val (.ref a11), .val (.ref a12), .unset, .unset] [.null, .null, (.ref ft), (.ref ft)])
        refine hs.go (fun _ kk_ => XS.aconstNull X13.here hx rfl (hb hby at_32) kk_) ?_
        show G T13 (mkF m 33 #[.val (.int i1), .val (.int i2), .val (.int i3), .val (.int i4), .val (.int (0 : Int32)), .val (.int (2 : Int32)), .val (.ref a11), .val (.ref a12), .unset, .unset] [.null, .null, .null, (.ref ft), (.ref ft)])
        refine hs.go (fun _ kk_ => XS.aload X13.here hx rfl (hb hby at_33) rfl rfl kk_) ?_
        show G T13 (mkF m 35 #[.val (.int i1), .val (.int i2), .val (.int i3), .val (.int i4), .val (.int (0 : Int32)), .val (.int (2 : Int32)), .val (.ref a11), .val (.ref a12), .unset, .unset] [(.ref a11), .null, .null, .null, (.ref ft), (.ref ft)])
        refine hs.go (fun _ kk_ => XS.aload X13.here hx rfl (hb hby at_35) rfl rfl kk_) ?_
        show G T13 (mkF m 37 #[.val (.int i1), .val (.int i2), .val (.int i3), .val (.int i4), .val (.int (0 : Int32)), .val (.int (2 : Int32)), .val (.ref a11), .val (.ref a12), .unset, .unset] [(.ref a12), (.ref a11), .null, .null, .null, (.ref ft), (.ref ft)])
        refine rCallI hs X13 hx hZ (as' := [.null, .null, .null, (.ref a11), (.ref a12)]) Jl.stb (rm8 l Z a0 hw [] ((Jl Z "java/lang/String" 7 aL)) Jl.stb ft a11 a12 h13 n0 Z0 E_ft g_ft F_words_ft F_wordsBeforeCurrency_ft F_wordsAfterCurrency_ft F_signsBefore_ft F_signsAfter_ft) rfl hown (hw _ (List.mem_of_getElem? (i := 40) rfl)) (hw _ (List.mem_of_getElem? (i := 41) rfl)) (hw _ (List.mem_of_getElem? (i := 39) rfl)) (hw _ (List.mem_of_getElem? (i := 42) rfl)) hy_8 rfl (by rw [hml]; rfl) [(.ref ft)] (lenOf pd_8 rfl) rfl 1 (by show 2 * 0 + _ ≤ _; exact Nat.le_of_eq rfl) (hb hby at_37) (by decide) (by decide) (by decide) (by decide) (fun r14 T14 h14 vm14 X14 q14 => ?_)
        obtain ⟨rfl, Kc14, E_ft, F_signsBefore_ft, F_signsAfter_ft, hj14⟩ := q14
        have X14 := X14 _ hj14
        have O := O.keep Kc14 (allS g_ft all0)
        have E_a11 := E_a11.keep Kc14
        have F_value_a11 := F_value_a11.keep Kc14 (ninS ne_a11_ft nin0)
        have E_aL := E_aL.keep Kc14
        have F_value_aL := F_value_aL.keep Kc14 (ninS ne_aL_ft nin0)
        have F_coder_aL := F_coder_aL.keep Kc14 (ninS ne_aL_ft nin0)
        have V_bL := V_bL.keep Kc14 (ninS ne_bL_ft nin0)
        have E_a12 := E_a12.keep Kc14
        have F_value_a12 := F_value_a12.keep Kc14 (ninS ne_a12_ft nin0)
        have V_d12 := V_d12.keep Kc14 (ninS ne_d12_ft nin0)
        have Z0 := Nat.le_trans Z0 Kc14.1
        show G T14 (mkF m 40 #[.val (.int i1), .val (.int i2), .val (.int i3), .val (.int i4), .val (.int (0 : Int32)), .val (.int (2 : Int32)), .val (.ref a11), .val (.ref a12), .unset, .unset] [(.ref ft)])
        refine hs.go (fun _ kk_ => XS.astore X14.here hx rfl (hb hby at_40) rfl rfl (l' := #[.val (.int i1), .val (.int i2), .val (.int i3), .val (.int i4), .val (.int (0 : Int32)), .val (.int (2 : Int32)), .val (.ref a11), .val (.ref a12), .val (.ref ft), .unset]) rfl kk_) ?_
        show G T14 (mkF m 42 #[.val (.int i1), .val (.int i2), .val (.int i3), .val (.int i4), .val (.int (0 : Int32)), .val (.int (2 : Int32)), .val (.ref a11), .val (.ref a12), .val (.ref ft), .unset] [])
        refine hs.go (fun _ kk_ => XS.iload X14.here hx rfl (hb hby at_42) rfl  kk_) ?_
        show G T14 (mkF m 44 #[.val (.int i1), .val (.int i2), .val (.int i3), .val (.int i4), .val (.int (0 : Int32)), .val (.int (2 : Int32)), .val (.ref a11), .val (.ref a12), .val (.ref ft), .unset] [(.int (0 : Int32))])
        refine hs.go (fun _ kk_ => XS.ifNo X14.here hx rfl (hb hby at_44) rfl ((if0 _ _).trans (teq (rfl : (0 : Int32) = (0 : Int32))).2) kk_) ?_
        show G T14 (mkF m 47 #[.val (.int i1), .val (.int i2), .val (.int i3), .val (.int i4), .val (.int (0 : Int32)), .val (.int (2 : Int32)), .val (.ref a11), .val (.ref a12), .val (.ref ft), .unset] [])
        refine hs.go (fun _ kk_ => XS.iload X14.here hx rfl (hb hby at_47) rfl  kk_) ?_
        show G T14 (mkF m 49 #[.val (.int i1), .val (.int i2), .val (.int i3), .val (.int i4), .val (.int (0 : Int32)), .val (.int (2 : Int32)), .val (.ref a11), .val (.ref a12), .val (.ref ft), .unset] [(.int (2 : Int32))])
        refine hs.go (fun _ kk_ => XS.ifNo X14.here hx rfl (hb hby at_49) rfl ((if0 _ _).trans (feq ((by decide) : ¬ ((2 : Int32) = (0 : Int32)))).1) kk_) ?_
        show G T14 (mkF m 52 #[.val (.int i1), .val (.int i2), .val (.int i3), .val (.int i4), .val (.int (0 : Int32)), .val (.int (2 : Int32)), .val (.ref a11), .val (.ref a12), .val (.ref ft), .unset] [])
        refine hs.go (fun _ kk_ => XS.iconst X14.here hx rfl (hb hby at_52) kk_) ?_
        show G T14 (mkF m 53 #[.val (.int i1), .val (.int i2), .val (.int i3), .val (.int i4), .val (.int (0 : Int32)), .val (.int (2 : Int32)), .val (.ref a11), .val (.ref a12), .val (.ref ft), .unset] [(.int (1 : Int32))])
        refine hs.go (fun _ kk_ => XS.goto X14.here hx rfl (pc0 := 53) (pc' := 57) rfl (hb hby at_53) (by decide) (by decide) kk_) ?_
        show G T14 (mkF m 57 #[.val (.int i1), .val (.int i2), .val (.int i3), .val (.int i4), .val (.int (0 : Int32)), .val (.int (2 : Int32)), .val (.ref a11), .val (.ref a12), .val (.ref ft), .unset] [(.int (1 : Int32))])
        refine hs.go (fun _ kk_ => XS.istore X14.here hx rfl (hb hby at_57) rfl (l' := #[.val (.int i1), .val (.int i2), .val (.int i3), .val (.int i4), .val (.int (0 : Int32)), .val (.int (2 : Int32)), .val (.ref a11), .val (.ref a12), .val (.ref ft), .val (.int (1 : Int32))]) rfl kk_) ?_
        show G T14 (mkF m 59 #[.val (.int i1), .val (.int i2), .val (.int i3), .val (.int i4), .val (.int (0 : Int32)), .val (.int (2 : Int32)), .val (.ref a11), .val (.ref a12), .val (.ref ft), .val (.int (1 : Int32))] [])
        refine hs.go (fun _ kk_ => XS.aload X14.here hx rfl (hb hby at_59) rfl rfl kk_) ?_
        show G T14 (mkF m 61 #[.val (.int i1), .val (.int i2), .val (.int i3), .val (.int i4), .val (.int (0 : Int32)), .val (.int (2 : Int32)), .val (.ref a11), .val (.ref a12), .val (.ref ft), .val (.int (1 : Int32))] [(.ref ft)])
        refine rCallV hs X14 hx hZ (as' := []) Jl.stb (rm10 l Z a0 hw [] ((Jl Z "java/lang/String" 7 aL)) Jl.stb ft a11 a12 bL d12 kL kd12 (0 : Int32) (2 : Int32) [] vd12 h14 n0 Z0 F_signsBefore_ft F_signsAfter_ft E_a11 F_value_a11 V_bL E_a12 F_value_a12 V_d12) E_ft hown (hw _ (List.mem_of_getElem? (i := 59) rfl)) (hw _ (List.mem_of_getElem? (i := 60) rfl)) (hw _ (List.mem_of_getElem? (i := 62) rfl)) (hw _ (List.mem_of_getElem? (i := 61) rfl)) (hw _ (List.mem_of_getElem? (i := 39) rfl)) (hw _ (List.mem_of_getElem? (i := 63) rfl)) hy_10 rfl (by rw [hml]; rfl) [] (lenOf pd_6 rfl) rfl 0 (by show 2 * 0 + _ ≤ _; exact Nat.le_of_eq rfl) (hb hby at_61) (by decide) (by decide) (by decide) (by decide) (fun r15 T15 h15 vm15 X15 q15 => ?_)
        obtain ⟨rfl, qh15, hj15⟩ := q15
        have X15 := X15 _ hj15
        rw [qh15] at X15
        show G T15 (mkF m 64 #[.val (.int i1), .val (.int i2), .val (.int i3), .val (.int i4), .val (.int (0 : Int32)), .val (.int (2 : Int32)), .val (.ref a11), .val (.ref a12), .val (.ref ft), .val (.int (1 : Int32))] [(.int (fws (0 : Int32) (2 : Int32)))])
        refine hs.go (fun _ kk_ => XS.iload X15.here hx rfl (hb hby at_64) rfl  kk_) ?_
        show G T15 (mkF m 66 #[.val (.int i1), .val (.int i2), .val (.int i3), .val (.int i4), .val (.int (0 : Int32)), .val (.int (2 : Int32)), .val (.ref a11), .val (.ref a12), .val (.ref ft), .val (.int (1 : Int32))] [(.int (1 : Int32)), (.int (fws (0 : Int32) (2 : Int32)))])
        refine hs.go (fun _ kk_ => XS.icmpNo X15.here hx rfl (hb hby at_66) rfl (teq ((by decide) : (fws (0 : Int32) (2 : Int32)) = (1 : Int32))).2 kk_) ?_
        show G T15 (mkF m 69 #[.val (.int i1), .val (.int i2), .val (.int i3), .val (.int i4), .val (.int (0 : Int32)), .val (.int (2 : Int32)), .val (.ref a11), .val (.ref a12), .val (.ref ft), .val (.int (1 : Int32))] [])
        refine hs.go (fun _ kk_ => XS.iconst X15.here hx rfl (hb hby at_69) kk_) ?_
        show G T15 (mkF m 70 #[.val (.int i1), .val (.int i2), .val (.int i3), .val (.int i4), .val (.int (0 : Int32)), .val (.int (2 : Int32)), .val (.ref a11), .val (.ref a12), .val (.ref ft), .val (.int (1 : Int32))] [(.int (1 : Int32))])
        refine hs.go (fun _ kk_ => XS.goto X15.here hx rfl (pc0 := 70) (pc' := 74) rfl (hb hby at_70) (by decide) (by decide) kk_) ?_
        show G T15 (mkF m 74 #[.val (.int i1), .val (.int i2), .val (.int i3), .val (.int i4), .val (.int (0 : Int32)), .val (.int (2 : Int32)), .val (.ref a11), .val (.ref a12), .val (.ref ft), .val (.int (1 : Int32))] [(.int (1 : Int32))])
        exact rRetN fin Jl.stb X15 hx (by decide) (by decide) hret (by simp) (hb hby at_74) (z' := (1 : Int32)) (by decide) (fun vm' hj => rfl)
    · subst e_
      show G s₁ (mkF m 10 #[.val (.int i1), .val (.int i2), .val (.int i3), .val (.int i4), .val (.int (0 : Int32)), .val (.int (3 : Int32)), .unset, .unset, .unset, .unset] [])
      refine hs.go (fun _ kk_ => XS.iload X0.here hx rfl (hb hby at_10) rfl  kk_) ?_
      show G s₁ (mkF m 12 #[.val (.int i1), .val (.int i2), .val (.int i3), .val (.int i4), .val (.int (0 : Int32)), .val (.int (3 : Int32)), .unset, .unset, .unset, .unset] [(.int (0 : Int32))])
      refine hs.go (fun _ kk_ => XS.iloadN X0.here hx rfl (hb hby at_12) rfl  kk_) ?_
      show G s₁ (mkF m 13 #[.val (.int i1), .val (.int i2), .val (.int i3), .val (.int i4), .val (.int (0 : Int32)), .val (.int (3 : Int32)), .unset, .unset, .unset, .unset] [(.int i2), (.int (0 : Int32))])
      refine rCallS hs X0 hx hZ (as' := [(.int (0 : Int32)), (.int i2)]) Jn.stb (tx_f l Z a0 hw [] i2 h0 n0 Z0 O HC HW) hown (hw _ (List.mem_of_getElem? (i := 0) rfl)) (hw _ (List.mem_of_getElem? (i := 1) rfl)) (hw _ (List.mem_of_getElem? (i := 2) rfl)) (hw _ (List.mem_of_getElem? (i := 3) rfl)) hy_1 rfl (by rw [hml]; rfl) [] (lenOf pd_7 rfl) rfl 0 (by show 2 * 0 + _ ≤ _; exact Nat.le_of_eq rfl) (hb hby at_13) (by decide) (by decide) (by decide) (by decide) (fun r16 T16 h16 vm16 X16 q16 => ?_)
      obtain ⟨a16, aL, bL, kL, rfl, Kc16, E_a16, F_value_a16, E_aL, F_value_aL, F_coder_aL, V_bL, hj16⟩ := q16
      have X16 := X16 _ hj16
      have O := O.keep Kc16 all0
      have Z0 := Nat.le_trans Z0 Kc16.1
      show G T16 (mkF m 16 #[.val (.int i1), .val (.int i2), .val (.int i3), .val (.int i4), .val (.int (0 : Int32)), .val (.int (3 : Int32)), .unset, .unset, .unset, .unset] [(.ref a16)])
      refine hs.go (fun _ kk_ => XS.astore X16.here hx rfl (hb hby at_16) rfl rfl (l' := #[.val (.int i1), .val (.int i2), .val (.int i3), .val (.int i4), .val (.int (0 : Int32)), .val (.int (3 : Int32)), .val (.ref a16), .unset, .unset, .unset]) rfl kk_) ?_
      show G T16 (mkF m 18 #[.val (.int i1), .val (.int i2), .val (.int i3), .val (.int i4), .val (.int (0 : Int32)), .val (.int (3 : Int32)), .val (.ref a16), .unset, .unset, .unset] [])
      refine hs.go (fun _ kk_ => XS.iload X16.here hx rfl (hb hby at_18) rfl  kk_) ?_
      show G T16 (mkF m 20 #[.val (.int i1), .val (.int i2), .val (.int i3), .val (.int i4), .val (.int (0 : Int32)), .val (.int (3 : Int32)), .val (.ref a16), .unset, .unset, .unset] [(.int (3 : Int32))])
      refine hs.go (fun _ kk_ => XS.iloadN X16.here hx rfl (hb hby at_20) rfl  kk_) ?_
      show G T16 (mkF m 21 #[.val (.int i1), .val (.int i2), .val (.int i3), .val (.int i4), .val (.int (0 : Int32)), .val (.int (3 : Int32)), .val (.ref a16), .unset, .unset, .unset] [(.int i4), (.int (3 : Int32))])
      refine rCallS hs X16 hx hZ (as' := [(.int (3 : Int32)), (.int i4)]) Jl.stb (tx_3 l Z a0 hw [] ((Jl Z "java/lang/String" 7 aL)) Jl.stb i4 h16 n0 Z0 O cw S0 hcw) hown (hw _ (List.mem_of_getElem? (i := 0) rfl)) (hw _ (List.mem_of_getElem? (i := 1) rfl)) (hw _ (List.mem_of_getElem? (i := 2) rfl)) (hw _ (List.mem_of_getElem? (i := 3) rfl)) hy_1 rfl (by rw [hml]; rfl) [] (lenOf pd_7 rfl) rfl 0 (by show 2 * 0 + _ ≤ _; exact Nat.le_of_eq rfl) (hb hby at_21) (by decide) (by decide) (by decide) (by decide) (fun r17 T17 h17 vm17 X17 q17 => ?_)
      obtain ⟨a17, d17, kd17, vd17, rfl, Kc17, E_a17, F_value_a17, V_d17, hj17⟩ := q17
      have X17 := X17 _ hj17
      have O := O.keep Kc17 all0
      have E_a16 := E_a16.keep Kc17
      have F_value_a16 := F_value_a16.keep Kc17 nin0
      have E_aL := E_aL.keep Kc17
      have F_value_aL := F_value_aL.keep Kc17 nin0
      have F_coder_aL := F_coder_aL.keep Kc17 nin0
      have V_bL := V_bL.keep Kc17 nin0
      have Z0 := Nat.le_trans Z0 Kc17.1
      show G T17 (mkF m 24 #[.val (.int i1), .val (.int i2), .val (.int i3), .val (.int i4), .val (.int (0 : Int32)), .val (.int (3 : Int32)), .val (.ref a16), .unset, .unset, .unset] [(.ref a17)])
      refine hs.go (fun _ kk_ => XS.astore X17.here hx rfl (hb hby at_24) rfl rfl (l' := #[.val (.int i1), .val (.int i2), .val (.int i3), .val (.int i4), .val (.int (0 : Int32)), .val (.int (3 : Int32)), .val (.ref a16), .val (.ref a17), .unset, .unset]) rfl kk_) ?_
      show G T17 (mkF m 26 #[.val (.int i1), .val (.int i2), .val (.int i3), .val (.int i4), .val (.int (0 : Int32)), .val (.int (3 : Int32)), .val (.ref a16), .val (.ref a17), .unset, .unset] [])
      as_aux_lemma =>
        refine rNewO hs X17 hx hZ hown (hw _ (List.mem_of_getElem? (i := 37) rfl)) (hw _ (List.mem_of_getElem? (i := 38) rfl)) (hw _ (List.mem_of_getElem? (i := 39) rfl)) rfl (hb hby at_26) (by decide) (by decide) (fun T18 h18 ft g18 X18 E18 E_ft D18 => ?_)
        have g_ft : n0 ≤ ft := by rw [g18]; exact Z0
        have Z0 := Nat.le_trans Z0 E18.1
        have ne_a16_ft : a16 ≠ ft := Nat.ne_of_lt (Nat.lt_of_lt_of_le E_a16.lt (Nat.le_of_eq g18.symm))
        have ne_aL_ft : aL ≠ ft := Nat.ne_of_lt (Nat.lt_of_lt_of_le E_aL.lt (Nat.le_of_eq g18.symm))
        have ne_bL_ft : bL ≠ ft := Nat.ne_of_lt (Nat.lt_of_lt_of_le V_bL.lt (Nat.le_of_eq g18.symm))
        have ne_a17_ft : a17 ≠ ft := Nat.ne_of_lt (Nat.lt_of_lt_of_le E_a17.lt (Nat.le_of_eq g18.symm))
        have ne_d17_ft : d17 ≠ ft := Nat.ne_of_lt (Nat.lt_of_lt_of_le V_d17.lt (Nat.le_of_eq g18.symm))
        have O := O.ext E18
        have E_a16 := E_a16.ext E18
        have F_value_a16 := F_value_a16.ext E18
        have E_aL := E_aL.ext E18
        have F_value_aL := F_value_aL.ext E18
        have F_coder_aL := F_coder_aL.ext E18
        have V_bL := V_bL.ext E18
        have E_a17 := E_a17.ext E18
        have F_value_a17 := F_value_a17.ext E18
        have V_d17 := V_d17.ext E18
        have F_words_ft : Fld Z h18 ft "com/example/farthing/farthing/format/FormText" "words" "Ljava/util/Set;" .null := D18 (Or.inr (hw _ (List.mem_of_getElem? (i := 50) rfl))) (ty := (.object "java/util/Set")) (by decide)
        have F_wordsBeforeCurrency_ft : Fld Z h18 ft "com/example/farthing/farthing/format/FormText" "wordsBeforeCurrency" "Ljava/util/Set;" .null := D18 (Or.inr (hw _ (List.mem_of_getElem? (i := 52) rfl))) (ty := (.object "java/util/Set")) (by decide)
        have F_wordsAfterCurrency_ft : Fld Z h18 ft "com/example/farthing/farthing/format/FormText" "wordsAfterCurrency" "Ljava/util/Set;" .null := D18 (Or.inr (hw _ (List.mem_of_getElem? (i := 54) rfl))) (ty := (.object "java/util/Set")) (by decide)
        have F_signsBefore_ft : Fld Z h18 ft "com/example/farthing/farthing/format/FormText" "signsBefore" "Ljava/lang/String;" .null := D18 (Or.inr (hw _ (List.mem_of_getElem? (i := 56) rfl))) (ty := (.object "java/lang/String")) (by decide)
        have F_signsAfter_ft : Fld Z h18 ft "com/example/farthing/farthing/format/FormText" "signsAfter" "Ljava/lang/String;" .null := D18 (Or.inr (hw _ (List.mem_of_getElem? (i := 58) rfl))) (ty := (.object "java/lang/String")) (by decide)
        show G T18 (mkF m 29 #[.val (.int i1), .val (.int i2), .val (.int i3), .val (.int i4), .val (.int (0 : Int32)), .val (.int (3 : Int32)), .val (.ref a16), .val (.ref a17), .unset, .unset] [(.ref ft)])
        refine hs.go (fun _ kk_ => XS.dup X18.here hx rfl (hb hby at_29) rfl rfl kk_) ?_
        show G T18 (mkF m 30 #[.val (.int i1), .val (.int i2), .val (.int i3), .val (.int i4), .val (.int (0 : Int32)), .val (.int (3 : Int32)), .val (.ref a16), .val (.ref a17), .unset, .unset] [(.ref ft), (.ref ft)])
        refine hs.go (fun _ kk_ => XS.aconstNull X18.here hx rfl (hb hby at_30) kk_) ?_
        show G T18 (mkF m 31 #[.val (.int i1), .val (.int i2), .val (.int i3), .val (.int i4), .val (.int (0 : Int32)), .val (.int (3 : Int32)), .val (.ref a16), .val (.ref a17), .unset, .unset] [.null, (.ref ft), (.ref ft)])
        refine hs.go (fun _ kk_ => XS.aconstNull X18.here hx rfl (hb hby at_31) kk_) ?_
        show G T18 (mkF m 32 #[.val (.int i1), .val (.int i2), .val (.int i3), .val (.int i4), .val (.int (0 : Int32)), .val (.int (3 : Int32)), .val (.ref a16), .val (.ref a17), .unset, .unset] [.null, .null, (.ref ft), (.ref ft)])
        refine hs.go (fun _ kk_ => XS.aconstNull X18.here hx rfl (hb hby at_32) kk_) ?_
        show G T18 (mkF m 33 #[.val (.int i1), .val (.int i2), .val (.int i3), .val (.int i4), .val (.int (0 : Int32)), .val (.int (3 : Int32)), .val (.ref a16), .val (.ref a17), .unset, .unset] [.null, .null, .null, (.ref ft), (.ref ft)])
        refine hs.go (fun _ kk_ => XS.aload X18.here hx rfl (hb hby at_33) rfl rfl kk_) ?_
        show G T18 (mkF m 35 #[.val (.int i1), .val (.int i2), .val (.int i3), .val (.int i4), .val (.int (0 : Int32)), .val (.int (3 : Int32)), .val (.ref a16), .val (.ref a17), .unset, .unset] [(.ref a16), .null, .null, .null, (.ref ft), (.ref ft)])
        refine hs.go (fun _ kk_ => XS.aload X18.here hx rfl (hb hby at_35) rfl rfl kk_) ?_
        show G T18 (mkF m 37 #[.val (.int i1), .val (.int i2), .val (.int i3), .val (.int i4), .val (.int (0 : Int32)), .val (.int (3 : Int32)), .val (.ref a16), .val (.ref a17), .unset, .unset] [(.ref a17), (.ref a16), .null, .null, .null, (.ref ft), (.ref ft)])
        refine rCallI hs X18 hx hZ (as' := [.null, .null, .null, (.ref a16), (.ref a17)]) Jl.stb (rm8 l Z a0 hw [] ((Jl Z "java/lang/String" 7 aL)) Jl.stb ft a16 a17 h18 n0 Z0 E_ft g_ft F_words_ft F_wordsBeforeCurrency_ft F_wordsAfterCurrency_ft F_signsBefore_ft F_signsAfter_ft) rfl hown (hw _ (List.mem_of_getElem? (i := 40) rfl)) (hw _ (List.mem_of_getElem? (i := 41) rfl)) (hw _ (List.mem_of_getElem? (i := 39) rfl)) (hw _ (List.mem_of_getElem? (i := 42) rfl)) hy_8 rfl (by rw [hml]; rfl) [(.ref ft)] (lenOf pd_8 rfl) rfl 1 (by show 2 * 0 + _ ≤ _; exact Nat.le_of_eq rfl) (hb hby at_37) (by decide) (by decide) (by decide) (by decide) (fun r19 T19 h19 vm19 X19 q19 => ?_)
        obtain ⟨rfl, Kc19, E_ft, F_signsBefore_ft, F_signsAfter_ft, hj19⟩ := q19
        have X19 := X19 _ hj19
        have O := O.keep Kc19 (allS g_ft all0)
        have E_a16 := E_a16.keep Kc19
        have F_value_a16 := F_value_a16.keep Kc19 (ninS ne_a16_ft nin0)
        have E_aL := E_aL.keep Kc19
        have F_value_aL := F_value_aL.keep Kc19 (ninS ne_aL_ft nin0)
        have F_coder_aL := F_coder_aL.keep Kc19 (ninS ne_aL_ft nin0)
        have V_bL := V_bL.keep Kc19 (ninS ne_bL_ft nin0)
        have E_a17 := E_a17.keep Kc19
        have F_value_a17 := F_value_a17.keep Kc19 (ninS ne_a17_ft nin0)
        have V_d17 := V_d17.keep Kc19 (ninS ne_d17_ft nin0)
        have Z0 := Nat.le_trans Z0 Kc19.1
        show G T19 (mkF m 40 #[.val (.int i1), .val (.int i2), .val (.int i3), .val (.int i4), .val (.int (0 : Int32)), .val (.int (3 : Int32)), .val (.ref a16), .val (.ref a17), .unset, .unset] [(.ref ft)])
        refine hs.go (fun _ kk_ => XS.astore X19.here hx rfl (hb hby at_40) rfl rfl (l' := #[.val (.int i1), .val (.int i2), .val (.int i3), .val (.int i4), .val (.int (0 : Int32)), .val (.int (3 : Int32)), .val (.ref a16), .val (.ref a17), .val (.ref ft), .unset]) rfl kk_) ?_
        show G T19 (mkF m 42 #[.val (.int i1), .val (.int i2), .val (.int i3), .val (.int i4), .val (.int (0 : Int32)), .val (.int (3 : Int32)), .val (.ref a16), .val (.ref a17), .val (.ref ft), .unset] [])
        refine hs.go (fun _ kk_ => XS.iload X19.here hx rfl (hb hby at_42) rfl  kk_) ?_
        show G T19 (mkF m 44 #[.val (.int i1), .val (.int i2), .val (.int i3), .val (.int i4), .val (.int (0 : Int32)), .val (.int (3 : Int32)), .val (.ref a16), .val (.ref a17), .val (.ref ft), .unset] [(.int (0 : Int32))])
        refine hs.go (fun _ kk_ => XS.ifNo X19.here hx rfl (hb hby at_44) rfl ((if0 _ _).trans (teq (rfl : (0 : Int32) = (0 : Int32))).2) kk_) ?_
        show G T19 (mkF m 47 #[.val (.int i1), .val (.int i2), .val (.int i3), .val (.int i4), .val (.int (0 : Int32)), .val (.int (3 : Int32)), .val (.ref a16), .val (.ref a17), .val (.ref ft), .unset] [])
        refine hs.go (fun _ kk_ => XS.iload X19.here hx rfl (hb hby at_47) rfl  kk_) ?_
        show G T19 (mkF m 49 #[.val (.int i1), .val (.int i2), .val (.int i3), .val (.int i4), .val (.int (0 : Int32)), .val (.int (3 : Int32)), .val (.ref a16), .val (.ref a17), .val (.ref ft), .unset] [(.int (3 : Int32))])
        refine hs.go (fun _ kk_ => XS.ifNo X19.here hx rfl (hb hby at_49) rfl ((if0 _ _).trans (feq ((by decide) : ¬ ((3 : Int32) = (0 : Int32)))).1) kk_) ?_
        show G T19 (mkF m 52 #[.val (.int i1), .val (.int i2), .val (.int i3), .val (.int i4), .val (.int (0 : Int32)), .val (.int (3 : Int32)), .val (.ref a16), .val (.ref a17), .val (.ref ft), .unset] [])
        refine hs.go (fun _ kk_ => XS.iconst X19.here hx rfl (hb hby at_52) kk_) ?_
        show G T19 (mkF m 53 #[.val (.int i1), .val (.int i2), .val (.int i3), .val (.int i4), .val (.int (0 : Int32)), .val (.int (3 : Int32)), .val (.ref a16), .val (.ref a17), .val (.ref ft), .unset] [(.int (1 : Int32))])
        refine hs.go (fun _ kk_ => XS.goto X19.here hx rfl (pc0 := 53) (pc' := 57) rfl (hb hby at_53) (by decide) (by decide) kk_) ?_
        show G T19 (mkF m 57 #[.val (.int i1), .val (.int i2), .val (.int i3), .val (.int i4), .val (.int (0 : Int32)), .val (.int (3 : Int32)), .val (.ref a16), .val (.ref a17), .val (.ref ft), .unset] [(.int (1 : Int32))])
        refine hs.go (fun _ kk_ => XS.istore X19.here hx rfl (hb hby at_57) rfl (l' := #[.val (.int i1), .val (.int i2), .val (.int i3), .val (.int i4), .val (.int (0 : Int32)), .val (.int (3 : Int32)), .val (.ref a16), .val (.ref a17), .val (.ref ft), .val (.int (1 : Int32))]) rfl kk_) ?_
        show G T19 (mkF m 59 #[.val (.int i1), .val (.int i2), .val (.int i3), .val (.int i4), .val (.int (0 : Int32)), .val (.int (3 : Int32)), .val (.ref a16), .val (.ref a17), .val (.ref ft), .val (.int (1 : Int32))] [])
        refine hs.go (fun _ kk_ => XS.aload X19.here hx rfl (hb hby at_59) rfl rfl kk_) ?_
        show G T19 (mkF m 61 #[.val (.int i1), .val (.int i2), .val (.int i3), .val (.int i4), .val (.int (0 : Int32)), .val (.int (3 : Int32)), .val (.ref a16), .val (.ref a17), .val (.ref ft), .val (.int (1 : Int32))] [(.ref ft)])
        refine rCallV hs X19 hx hZ (as' := []) Jl.stb (rm10 l Z a0 hw [] ((Jl Z "java/lang/String" 7 aL)) Jl.stb ft a16 a17 bL d17 kL kd17 (0 : Int32) (3 : Int32) [] vd17 h19 n0 Z0 F_signsBefore_ft F_signsAfter_ft E_a16 F_value_a16 V_bL E_a17 F_value_a17 V_d17) E_ft hown (hw _ (List.mem_of_getElem? (i := 59) rfl)) (hw _ (List.mem_of_getElem? (i := 60) rfl)) (hw _ (List.mem_of_getElem? (i := 62) rfl)) (hw _ (List.mem_of_getElem? (i := 61) rfl)) (hw _ (List.mem_of_getElem? (i := 39) rfl)) (hw _ (List.mem_of_getElem? (i := 63) rfl)) hy_10 rfl (by rw [hml]; rfl) [] (lenOf pd_6 rfl) rfl 0 (by show 2 * 0 + _ ≤ _; exact Nat.le_of_eq rfl) (hb hby at_61) (by decide) (by decide) (by decide) (by decide) (fun r20 T20 h20 vm20 X20 q20 => ?_)
        obtain ⟨rfl, qh20, hj20⟩ := q20
        have X20 := X20 _ hj20
        rw [qh20] at X20
        show G T20 (mkF m 64 #[.val (.int i1), .val (.int i2), .val (.int i3), .val (.int i4), .val (.int (0 : Int32)), .val (.int (3 : Int32)), .val (.ref a16), .val (.ref a17), .val (.ref ft), .val (.int (1 : Int32))] [(.int (fws (0 : Int32) (3 : Int32)))])
        refine hs.go (fun _ kk_ => XS.iload X20.here hx rfl (hb hby at_64) rfl  kk_) ?_
        show G T20 (mkF m 66 #[.val (.int i1), .val (.int i2), .val (.int i3), .val (.int i4), .val (.int (0 : Int32)), .val (.int (3 : Int32)), .val (.ref a16), .val (.ref a17), .val (.ref ft), .val (.int (1 : Int32))] [(.int (1 : Int32)), (.int (fws (0 : Int32) (3 : Int32)))])
        refine hs.go (fun _ kk_ => XS.icmpNo X20.here hx rfl (hb hby at_66) rfl (teq ((by decide) : (fws (0 : Int32) (3 : Int32)) = (1 : Int32))).2 kk_) ?_
        show G T20 (mkF m 69 #[.val (.int i1), .val (.int i2), .val (.int i3), .val (.int i4), .val (.int (0 : Int32)), .val (.int (3 : Int32)), .val (.ref a16), .val (.ref a17), .val (.ref ft), .val (.int (1 : Int32))] [])
        refine hs.go (fun _ kk_ => XS.iconst X20.here hx rfl (hb hby at_69) kk_) ?_
        show G T20 (mkF m 70 #[.val (.int i1), .val (.int i2), .val (.int i3), .val (.int i4), .val (.int (0 : Int32)), .val (.int (3 : Int32)), .val (.ref a16), .val (.ref a17), .val (.ref ft), .val (.int (1 : Int32))] [(.int (1 : Int32))])
        refine hs.go (fun _ kk_ => XS.goto X20.here hx rfl (pc0 := 70) (pc' := 74) rfl (hb hby at_70) (by decide) (by decide) kk_) ?_
        show G T20 (mkF m 74 #[.val (.int i1), .val (.int i2), .val (.int i3), .val (.int i4), .val (.int (0 : Int32)), .val (.int (3 : Int32)), .val (.ref a16), .val (.ref a17), .val (.ref ft), .val (.int (1 : Int32))] [(.int (1 : Int32))])
        exact rRetN fin Jl.stb X20 hx (by decide) (by decide) hret (by simp) (hb hby at_74) (z' := (1 : Int32)) (by decide) (fun vm' hj => rfl)
  · subst e_
    show G s₁ (mkF m 5 #[.val (.int i1), .val (.int i2), .val (.int i3), .val (.int i4), .val (.int (1 : Int32)), .unset, .unset, .unset, .unset, .unset] [])
    refine hs.go (fun _ kk_ => XS.iloadN X0.here hx rfl (hb hby at_5) rfl  kk_) ?_
    show G s₁ (mkF m 6 #[.val (.int i1), .val (.int i2), .val (.int i3), .val (.int i4), .val (.int (1 : Int32)), .unset, .unset, .unset, .unset, .unset] [(.int i3)])
    refine hs.go (fun _ kk_ => XS.iconst X0.here hx rfl (hb hby at_6) kk_) ?_
    show G s₁ (mkF m 7 #[.val (.int i1), .val (.int i2), .val (.int i3), .val (.int i4), .val (.int (1 : Int32)), .unset, .unset, .unset, .unset, .unset] [(.int (3 : Int32)), (.int i3)])
    refine hs.go (fun _ kk_ => XS.iand X0.here hx rfl (hb hby at_7) rfl kk_) ?_
    show G s₁ (mkF m 8 #[.val (.int i1), .val (.int i2), .val (.int i3), .val (.int i4), .val (.int (1 : Int32)), .unset, .unset, .unset, .unset, .unset] [(.int (i3 &&& (3 : Int32)))])
    refine nameIt (P := fun zz_ : Int32 => G s₁ (mkF m 8 #[.val (.int i1), .val (.int i2), .val (.int i3), .val (.int i4), .val (.int (1 : Int32)), .unset, .unset, .unset, .unset, .unset] [(.int zz_)])) (i3 &&& (3 : Int32)) (fun na hna => ?_)
    show G s₁ (mkF m 8 #[.val (.int i1), .val (.int i2), .val (.int i3), .val (.int i4), .val (.int (1 : Int32)), .unset, .unset, .unset, .unset, .unset] [(.int na)])
    refine hs.go (fun _ kk_ => XS.istore X0.here hx rfl (hb hby at_8) rfl (l' := #[.val (.int i1), .val (.int i2), .val (.int i3), .val (.int i4), .val (.int (1 : Int32)), .val (.int na), .unset, .unset, .unset, .unset]) rfl kk_) ?_
    show G s₁ (mkF m 10 #[.val (.int i1), .val (.int i2), .val (.int i3), .val (.int i4), .val (.int (1 : Int32)), .val (.int na), .unset, .unset, .unset, .unset] [])
    rcases own_m3 hna with e_ | e_ | e_ | e_
    · subst e_
      show G s₁ (mkF m 10 #[.val (.int i1), .val (.int i2), .val (.int i3), .val (.int i4), .val (.int (1 : Int32)), .val (.int (0 : Int32)), .unset, .unset, .unset, .unset] [])
      refine hs.go (fun _ kk_ => XS.iload X0.here hx rfl (hb hby at_10) rfl  kk_) ?_
      show G s₁ (mkF m 12 #[.val (.int i1), .val (.int i2), .val (.int i3), .val (.int i4), .val (.int (1 : Int32)), .val (.int (0 : Int32)), .unset, .unset, .unset, .unset] [(.int (1 : Int32))])
      refine hs.go (fun _ kk_ => XS.iloadN X0.here hx rfl (hb hby at_12) rfl  kk_) ?_
      show G s₁ (mkF m 13 #[.val (.int i1), .val (.int i2), .val (.int i3), .val (.int i4), .val (.int (1 : Int32)), .val (.int (0 : Int32)), .unset, .unset, .unset, .unset] [(.int i2), (.int (1 : Int32))])
      refine rCallS hs X0 hx hZ (as' := [(.int (1 : Int32)), (.int i2)]) Jn.stb (tx_1 l Z a0 hw [] ((Jn Z [])) Jn.stb i2 h0 n0 Z0 O cw S0 hcw) hown (hw _ (List.mem_of_getElem? (i := 0) rfl)) (hw _ (List.mem_of_getElem? (i := 1) rfl)) (hw _ (List.mem_of_getElem? (i := 2) rfl)) (hw _ (List.mem_of_getElem? (i := 3) rfl)) hy_1 rfl (by rw [hml]; rfl) [] (lenOf pd_7 rfl) rfl 0 (by show 2 * 0 + _ ≤ _; exact Nat.le_of_eq rfl) (hb hby at_13) (by decide) (by decide) (by decide) (by decide) (fun r21 T21 h21 vm21 X21 q21 => ?_)
      obtain ⟨a21, d21, kd21, vd21, rfl, Kc21, E_a21, F_value_a21, V_d21, hj21⟩ := q21
      have X21 := X21 _ hj21
      have O := O.keep Kc21 all0
      have Z0 := Nat.le_trans Z0 Kc21.1
      show G T21 (mkF m 16 #[.val (.int i1), .val (.int i2), .val (.int i3), .val (.int i4), .val (.int (1 : Int32)), .val (.int (0 : Int32)), .unset, .unset, .unset, .unset] [(.ref a21)])
      refine hs.go (fun _ kk_ => XS.astore X21.here hx rfl (hb hby at_16) rfl rfl (l' := #[.val (.int i1), .val (.int i2), .val (.int i3), .val (.int i4), .val (.int (1 : Int32)), .val (.int (0 : Int32)), .val (.ref a21), .unset, .unset, .unset]) rfl kk_) ?_
      show G T21 (mkF m 18 #[.val (.int i1), .val (.int i2), .val (.int i3), .val (.int i4), .val (.int (1 : Int32)), .val (.int (0 : Int32)), .val (.ref a21), .unset, .unset, .unset] [])
      refine hs.go (fun _ kk_ => XS.iload X21.here hx rfl (hb hby at_18) rfl  kk_) ?_
      show G T21 (mkF m 20 #[.val (.int i1), .val (.int i2), .val (.int i3), .val (.int i4), .val (.int (1 : Int32)), .val (.int (0 : Int32)), .val (.ref a21), .unset, .unset, .unset] [(.int (0 : Int32))])
      refine hs.go (fun _ kk_ => XS.iloadN X21.here hx rfl (hb hby at_20) rfl  kk_) ?_
      show G T21 (mkF m 21 #[.val (.int i1), .val (.int i2), .val (.int i3), .val (.int i4), .val (.int (1 : Int32)), .val (.int (0 : Int32)), .val (.ref a21), .unset, .unset, .unset] [(.int i4), (.int (0 : Int32))])
      refine rCallS hs X21 hx hZ (as' := [(.int (0 : Int32)), (.int i4)]) Jn.stb (tx_f l Z a0 hw [] i4 h21 n0 Z0 O HC HW) hown (hw _ (List.mem_of_getElem? (i := 0) rfl)) (hw _ (List.mem_of_getElem? (i := 1) rfl)) (hw _ (List.mem_of_getElem? (i := 2) rfl)) (hw _ (List.mem_of_getElem? (i := 3) rfl)) hy_1 rfl (by rw [hml]; rfl) [] (lenOf pd_7 rfl) rfl 0 (by show 2 * 0 + _ ≤ _; exact Nat.le_of_eq rfl) (hb hby at_21) (by decide) (by decide) (by decide) (by decide) (fun r22 T22 h22 vm22 X22 q22 => ?_)
      obtain ⟨a22, aL, bL, kL, rfl, Kc22, E_a22, F_value_a22, E_aL, F_value_aL, F_coder_aL, V_bL, hj22⟩ := q22
      have X22 := X22 _ hj22
      have O := O.keep Kc22 all0
      have E_a21 := E_a21.keep Kc22
      have F_value_a21 := F_value_a21.keep Kc22 nin0
      have V_d21 := V_d21.keep Kc22 nin0
      have Z0 := Nat.le_trans Z0 Kc22.1
      show G T22 (mkF m 24 #[.val (.int i1), .val (.int i2), .val (.int i3), .val (.int i4), .val (.int (1 : Int32)), .val (.int (0 : Int32)), .val (.ref a21), .unset, .unset, .unset] [(.ref a22)])
      refine hs.go (fun _ kk_ => XS.astore X22.here hx rfl (hb hby at_24) rfl rfl (l' := #[.val (.int i1), .val (.int i2), .val (.int i3), .val (.int i4), .val (.int (1 : Int32)), .val (.int (0 : Int32)), .val (.ref a21), .val (.ref a22), .unset, .unset]) rfl kk_) ?_
      show G T22 (mkF m 26 #[.val (.int i1), .val (.int i2), .val (.int i3), .val (.int i4), .val (.int (1 : Int32)), .val (.int (0 : Int32)), .val (.ref a21), .val (.ref a22), .unset, .unset] [])
      as_aux_lemma =>
        refine rNewO hs X22 hx hZ hown (hw _ (List.mem_of_getElem? (i := 37) rfl)) (hw _ (List.mem_of_getElem? (i := 38) rfl)) (hw _ (List.mem_of_getElem? (i := 39) rfl)) rfl (hb hby at_26) (by decide) (by decide) (fun T23 h23 ft g23 X23 E23 E_ft D23 => ?_)
        have g_ft : n0 ≤ ft := by rw [g23]; exact Z0
        have Z0 := Nat.le_trans Z0 E23.1
        have ne_a21_ft : a21 ≠ ft := Nat.ne_of_lt (Nat.lt_of_lt_of_le E_a21.lt (Nat.le_of_eq g23.symm))
        have ne_d21_ft : d21 ≠ ft := Nat.ne_of_lt (Nat.lt_of_lt_of_le V_d21.lt (Nat.le_of_eq g23.symm))
        have ne_a22_ft : a22 ≠ ft := Nat.ne_of_lt (Nat.lt_of_lt_of_le E_a22.lt (Nat.le_of_eq g23.symm))
        have ne_aL_ft : aL ≠ ft := Nat.ne_of_lt (Nat.lt_of_lt_of_le E_aL.lt (Nat.le_of_eq g23.symm))
        have ne_bL_ft : bL ≠ ft := Nat.ne_of_lt (Nat.lt_of_lt_of_le V_bL.lt (Nat.le_of_eq g23.symm))
        have O := O.ext E23
        have E_a21 := E_a21.ext E23
        have F_value_a21 := F_value_a21.ext E23
        have V_d21 := V_d21.ext E23
        have E_a22 := E_a22.ext E23
        have F_value_a22 := F_value_a22.ext E23
        have E_aL := E_aL.ext E23
        have F_value_aL := F_value_aL.ext E23
        have F_coder_aL := F_coder_aL.ext E23
        have V_bL := V_bL.ext E23
        have F_words_ft : Fld Z h23 ft "com/example/farthing/farthing/format/FormText" "words" "Ljava/util/Set;" .null := D23 (Or.inr (hw _ (List.mem_of_getElem? (i := 50) rfl))) (ty := (.object "java/util/Set")) (by decide)
        have F_wordsBeforeCurrency_ft : Fld Z h23 ft "com/example/farthing/farthing/format/FormText" "wordsBeforeCurrency" "Ljava/util/Set;" .null := D23 (Or.inr (hw _ (List.mem_of_getElem? (i := 52) rfl))) (ty := (.object "java/util/Set")) (by decide)
        have F_wordsAfterCurrency_ft : Fld Z h23 ft "com/example/farthing/farthing/format/FormText" "wordsAfterCurrency" "Ljava/util/Set;" .null := D23 (Or.inr (hw _ (List.mem_of_getElem? (i := 54) rfl))) (ty := (.object "java/util/Set")) (by decide)
        have F_signsBefore_ft : Fld Z h23 ft "com/example/farthing/farthing/format/FormText" "signsBefore" "Ljava/lang/String;" .null := D23 (Or.inr (hw _ (List.mem_of_getElem? (i := 56) rfl))) (ty := (.object "java/lang/String")) (by decide)
        have F_signsAfter_ft : Fld Z h23 ft "com/example/farthing/farthing/format/FormText" "signsAfter" "Ljava/lang/String;" .null := D23 (Or.inr (hw _ (List.mem_of_getElem? (i := 58) rfl))) (ty := (.object "java/lang/String")) (by decide)
        show G T23 (mkF m 29 #[.val (.int i1), .val (.int i2), .val (.int i3), .val (.int i4), .val (.int (1 : Int32)), .val (.int (0 : Int32)), .val (.ref a21), .val (.ref a22), .unset, .unset] [(.ref ft)])
        refine hs.go (fun _ kk_ => XS.dup X23.here hx rfl (hb hby at_29) rfl rfl kk_) ?_
        show G T23 (mkF m 30 #[.val (.int i1), .val (.int i2), .val (.int i3), .val (.int i4), .val (.int (1 : Int32)), .val (.int (0 : Int32)), .val (.ref a21), .val (.ref a22), .unset, .unset] [(.ref ft), (.ref ft)])
        refine hs.go (fun _ kk_ => XS.aconstNull X23.here hx rfl (hb hby at_30) kk_) ?_
        show G T23 (mkF m 31 #[.val (.int i1), .val (.int i2), .val (.int i3), .val (.int i4), .val (.int (1 : Int32)), .val (.int (0 : Int32)), .val (.ref a21), .val (.ref a22), .unset, .unset] [.null, (.ref ft), (.ref ft)])
        refine hs.go (fun _ kk_ => XS.aconstNull X23.here hx rfl (hb hby at_31) kk_) ?_
        show G T23 (mkF m 32 #[.val (.int i1), .val (.int i2), .val (.int i3), .val (.int i4), .val (.int (1 : Int32)), .val (.int (0 : Int32)), .val (.ref a21), .val (.ref a22), .unset, .unset] [.null, .null, (.ref ft), (.ref ft)])
        refine hs.go (fun _ kk_ => XS.aconstNull X23.here hx rfl (hb hby at_32) kk_) ?_
        show G T23 (mkF m 33 #[.val (.int i1), .val (.int i2), .val (.int i3), .val (.int i4), .val (.int (1 : Int32)), .val (.int (0 : Int32)), .val (.ref a21), .val (.ref a22), .unset, .unset] [.null, .null, .null, (.ref ft), (.ref ft)])
        refine hs.go (fun _ kk_ => XS.aload X23.here hx rfl (hb hby at_33) rfl rfl kk_) ?_
        show G T23 (mkF m 35 #[.val (.int i1), .val (.int i2), .val (.int i3), .val (.int i4), .val (.int (1 : Int32)), .val (.int (0 : Int32)), .val (.ref a21), .val (.ref a22), .unset, .unset] [(.ref a21), .null, .null, .null, (.ref ft), (.ref ft)])
        refine hs.go (fun _ kk_ => XS.aload X23.here hx rfl (hb hby at_35) rfl rfl kk_) ?_
        show G T23 (mkF m 37 #[.val (.int i1), .val (.int i2), .val (.int i3), .val (.int i4), .val (.int (1 : Int32)), .val (.int (0 : Int32)), .val (.ref a21), .val (.ref a22), .unset, .unset] [(.ref a22), (.ref a21), .null, .null, .null, (.ref ft), (.ref ft)])
        refine rCallI hs X23 hx hZ (as' := [.null, .null, .null, (.ref a21), (.ref a22)]) Jl.stb (rm8 l Z a0 hw [] ((Jl Z "java/lang/String" 7 aL)) Jl.stb ft a21 a22 h23 n0 Z0 E_ft g_ft F_words_ft F_wordsBeforeCurrency_ft F_wordsAfterCurrency_ft F_signsBefore_ft F_signsAfter_ft) rfl hown (hw _ (List.mem_of_getElem? (i := 40) rfl)) (hw _ (List.mem_of_getElem? (i := 41) rfl)) (hw _ (List.mem_of_getElem? (i := 39) rfl)) (hw _ (List.mem_of_getElem? (i := 42) rfl)) hy_8 rfl (by rw [hml]; rfl) [(.ref ft)] (lenOf pd_8 rfl) rfl 1 (by show 2 * 0 + _ ≤ _; exact Nat.le_of_eq rfl) (hb hby at_37) (by decide) (by decide) (by decide) (by decide) (fun r24 T24 h24 vm24 X24 q24 => ?_)
        obtain ⟨rfl, Kc24, E_ft, F_signsBefore_ft, F_signsAfter_ft, hj24⟩ := q24
        have X24 := X24 _ hj24
        have O := O.keep Kc24 (allS g_ft all0)
        have E_a21 := E_a21.keep Kc24
        have F_value_a21 := F_value_a21.keep Kc24 (ninS ne_a21_ft nin0)
        have V_d21 := V_d21.keep Kc24 (ninS ne_d21_ft nin0)
        have E_a22 := E_a22.keep Kc24
        have F_value_a22 := F_value_a22.keep Kc24 (ninS ne_a22_ft nin0)
        have E_aL := E_aL.keep Kc24
        have F_value_aL := F_value_aL.keep Kc24 (ninS ne_aL_ft nin0)
        have F_coder_aL := F_coder_aL.keep Kc24 (ninS ne_aL_ft nin0)
        have V_bL := V_bL.keep Kc24 (ninS ne_bL_ft nin0)
        have Z0 := Nat.le_trans Z0 Kc24.1
        show G T24 (mkF m 40 #[.val (.int i1), .val (.int i2), .val (.int i3), .val (.int i4), .val (.int (1 : Int32)), .val (.int (0 : Int32)), .val (.ref a21), .val (.ref a22), .unset, .unset] [(.ref ft)])
        refine hs.go (fun _ kk_ => XS.astore X24.here hx rfl (hb hby at_40) rfl rfl (l' := #[.val (.int i1), .val (.int i2), .val (.int i3), .val (.int i4), .val (.int (1 : Int32)), .val (.int (0 : Int32)), .val (.ref a21), .val (.ref a22), .val (.ref ft), .unset]) rfl kk_) ?_
        show G T24 (mkF m 42 #[.val (.int i1), .val (.int i2), .val (.int i3), .val (.int i4), .val (.int (1 : Int32)), .val (.int (0 : Int32)), .val (.ref a21), .val (.ref a22), .val (.ref ft), .unset] [])
        refine hs.go (fun _ kk_ => XS.iload X24.here hx rfl (hb hby at_42) rfl  kk_) ?_
        show G T24 (mkF m 44 #[.val (.int i1), .val (.int i2), .val (.int i3), .val (.int i4), .val (.int (1 : Int32)), .val (.int (0 : Int32)), .val (.ref a21), .val (.ref a22), .val (.ref ft), .unset] [(.int (1 : Int32))])
        refine hs.go (fun _ kk_ => XS.ifYes X24.here hx rfl (pc0 := 44) (pc' := 52) rfl (hb hby at_44) rfl ((if0 _ _).trans (feq ((by decide) : ¬ ((1 : Int32) = (0 : Int32)))).2) (by decide) (by decide) kk_) ?_
        show G T24 (mkF m 52 #[.val (.int i1), .val (.int i2), .val (.int i3), .val (.int i4), .val (.int (1 : Int32)), .val (.int (0 : Int32)), .val (.ref a21), .val (.ref a22), .val (.ref ft), .unset] [])
        refine hs.go (fun _ kk_ => XS.iconst X24.here hx rfl (hb hby at_52) kk_) ?_
        show G T24 (mkF m 53 #[.val (.int i1), .val (.int i2), .val (.int i3), .val (.int i4), .val (.int (1 : Int32)), .val (.int (0 : Int32)), .val (.ref a21), .val (.ref a22), .val (.ref ft), .unset] [(.int (1 : Int32))])
        refine hs.go (fun _ kk_ => XS.goto X24.here hx rfl (pc0 := 53) (pc' := 57) rfl (hb hby at_53) (by decide) (by decide) kk_) ?_
        show G T24 (mkF m 57 #[.val (.int i1), .val (.int i2), .val (.int i3), .val (.int i4), .val (.int (1 : Int32)), .val (.int (0 : Int32)), .val (.ref a21), .val (.ref a22), .val (.ref ft), .unset] [(.int (1 : Int32))])
        refine hs.go (fun _ kk_ => XS.istore X24.here hx rfl (hb hby at_57) rfl (l' := #[.val (.int i1), .val (.int i2), .val (.int i3), .val (.int i4), .val (.int (1 : Int32)), .val (.int (0 : Int32)), .val (.ref a21), .val (.ref a22), .val (.ref ft), .val (.int (1 : Int32))]) rfl kk_) ?_
        show G T24 (mkF m 59 #[.val (.int i1), .val (.int i2), .val (.int i3), .val (.int i4), .val (.int (1 : Int32)), .val (.int (0 : Int32)), .val (.ref a21), .val (.ref a22), .val (.ref ft), .val (.int (1 : Int32))] [])
        refine hs.go (fun _ kk_ => XS.aload X24.here hx rfl (hb hby at_59) rfl rfl kk_) ?_
        show G T24 (mkF m 61 #[.val (.int i1), .val (.int i2), .val (.int i3), .val (.int i4), .val (.int (1 : Int32)), .val (.int (0 : Int32)), .val (.ref a21), .val (.ref a22), .val (.ref ft), .val (.int (1 : Int32))] [(.ref ft)])
        refine rCallV hs X24 hx hZ (as' := []) Jl.stb (rm10 l Z a0 hw [] ((Jl Z "java/lang/String" 7 aL)) Jl.stb ft a21 a22 d21 bL kd21 kL (1 : Int32) (0 : Int32) vd21 [] h24 n0 Z0 F_signsBefore_ft F_signsAfter_ft E_a21 F_value_a21 V_d21 E_a22 F_value_a22 V_bL) E_ft hown (hw _ (List.mem_of_getElem? (i := 59) rfl)) (hw _ (List.mem_of_getElem? (i := 60) rfl)) (hw _ (List.mem_of_getElem? (i := 62) rfl)) (hw _ (List.mem_of_getElem? (i := 61) rfl)) (hw _ (List.mem_of_getElem? (i := 39) rfl)) (hw _ (List.mem_of_getElem? (i := 63) rfl)) hy_10 rfl (by rw [hml]; rfl) [] (lenOf pd_6 rfl) rfl 0 (by show 2 * 0 + _ ≤ _; exact Nat.le_of_eq rfl) (hb hby at_61) (by decide) (by decide) (by decide) (by decide) (fun r25 T25 h25 vm25 X25 q25 => ?_)
        obtain ⟨rfl, qh25, hj25⟩ := q25
        have X25 := X25 _ hj25
        rw [qh25] at X25
        show G T25 (mkF m 64 #[.val (.int i1), .val (.int i2), .val (.int i3), .val (.int i4), .val (.int (1 : Int32)), .val (.int (0 : Int32)), .val (.ref a21), .val (.ref a22), .val (.ref ft), .val (.int (1 : Int32))] [(.int (fws (1 : Int32) (0 : Int32)))])
        refine hs.go (fun _ kk_ => XS.iload X25.here hx rfl (hb hby at_64) rfl  kk_) ?_
        show G T25 (mkF m 66 #[.val (.int i1), .val (.int i2), .val (.int i3), .val (.int i4), .val (.int (1 : Int32)), .val (.int (0 : Int32)), .val (.ref a21), .val (.ref a22), .val (.ref ft), .val (.int (1 : Int32))] [(.int (1 : Int32)), (.int (fws (1 : Int32) (0 : Int32)))])
        refine hs.go (fun _ kk_ => XS.icmpNo X25.here hx rfl (hb hby at_66) rfl (teq ((by decide) : (fws (1 : Int32) (0 : Int32)) = (1 : Int32))).2 kk_) ?_
        show G T25 (mkF m 69 #[.val (.int i1), .val (.int i2), .val (.int i3), .val (.int i4), .val (.int (1 : Int32)), .val (.int (0 : Int32)), .val (.ref a21), .val (.ref a22), .val (.ref ft), .val (.int (1 : Int32))] [])
        refine hs.go (fun _ kk_ => XS.iconst X25.here hx rfl (hb hby at_69) kk_) ?_
        show G T25 (mkF m 70 #[.val (.int i1), .val (.int i2), .val (.int i3), .val (.int i4), .val (.int (1 : Int32)), .val (.int (0 : Int32)), .val (.ref a21), .val (.ref a22), .val (.ref ft), .val (.int (1 : Int32))] [(.int (1 : Int32))])
        refine hs.go (fun _ kk_ => XS.goto X25.here hx rfl (pc0 := 70) (pc' := 74) rfl (hb hby at_70) (by decide) (by decide) kk_) ?_
        show G T25 (mkF m 74 #[.val (.int i1), .val (.int i2), .val (.int i3), .val (.int i4), .val (.int (1 : Int32)), .val (.int (0 : Int32)), .val (.ref a21), .val (.ref a22), .val (.ref ft), .val (.int (1 : Int32))] [(.int (1 : Int32))])
        exact rRetN fin Jl.stb X25 hx (by decide) (by decide) hret (by simp) (hb hby at_74) (z' := (1 : Int32)) (by decide) (fun vm' hj => rfl)
    · subst e_
      show G s₁ (mkF m 10 #[.val (.int i1), .val (.int i2), .val (.int i3), .val (.int i4), .val (.int (1 : Int32)), .val (.int (1 : Int32)), .unset, .unset, .unset, .unset] [])
      refine hs.go (fun _ kk_ => XS.iload X0.here hx rfl (hb hby at_10) rfl  kk_) ?_
      show G s₁ (mkF m 12 #[.val (.int i1), .val (.int i2), .val (.int i3), .val (.int i4), .val (.int (1 : Int32)), .val (.int (1 : Int32)), .unset, .unset, .unset, .unset] [(.int (1 : Int32))])
      refine hs.go (fun _ kk_ => XS.iloadN X0.here hx rfl (hb hby at_12) rfl  kk_) ?_
      show G s₁ (mkF m 13 #[.val (.int i1), .val (.int i2), .val (.int i3), .val (.int i4), .val (.int (1 : Int32)), .val (.int (1 : Int32)), .unset, .unset, .unset, .unset] [(.int i2), (.int (1 : Int32))])
      refine rCallS hs X0 hx hZ (as' := [(.int (1 : Int32)), (.int i2)]) Jn.stb (tx_1 l Z a0 hw [] ((Jn Z [])) Jn.stb i2 h0 n0 Z0 O cw S0 hcw) hown (hw _ (List.mem_of_getElem? (i := 0) rfl)) (hw _ (List.mem_of_getElem? (i := 1) rfl)) (hw _ (List.mem_of_getElem? (i := 2) rfl)) (hw _ (List.mem_of_getElem? (i := 3) rfl)) hy_1 rfl (by rw [hml]; rfl) [] (lenOf pd_7 rfl) rfl 0 (by show 2 * 0 + _ ≤ _; exact Nat.le_of_eq rfl) (hb hby at_13) (by decide) (by decide) (by decide) (by decide) (fun r26 T26 h26 vm26 X26 q26 => ?_)
      obtain ⟨a26, d26, kd26, vd26, rfl, Kc26, E_a26, F_value_a26, V_d26, hj26⟩ := q26
      have X26 := X26 _ hj26
      have O := O.keep Kc26 all0
      have Z0 := Nat.le_trans Z0 Kc26.1
      show G T26 (mkF m 16 #[.val (.int i1), .val (.int i2), .val (.int i3), .val (.int i4), .val (.int (1 : Int32)), .val (.int (1 : Int32)), .unset, .unset, .unset, .unset] [(.ref a26)])
      refine hs.go (fun _ kk_ => XS.astore X26.here hx rfl (hb hby at_16) rfl rfl (l' := #[.val (.int i1), .val (.int i2), .val (.int i3), .val (.int i4), .val (.int (1 : Int32)), .val (.int (1 : Int32)), .val (.ref a26), .unset, .unset, .unset]) rfl kk_) ?_
      show G T26 (mkF m 18 #[.val (.int i1), .val (.int i2), .val (.int i3), .val (.int i4), .val (.int (1 : Int32)), .val (.int (1 : Int32)), .val (.ref a26), .unset, .unset, .unset] [])
      refine hs.go (fun _ kk_ => XS.iload X26.here hx rfl (hb hby at_18) rfl  kk_) ?_
      show G T26 (mkF m 20 #[.val (.int i1), .val (.int i2), .val (.int i3), .val (.int i4), .val (.int (1 : Int32)), .val (.int (1 : Int32)), .val (.ref a26), .unset, .unset, .unset] [(.int (1 : Int32))])
      refine hs.go (fun _ kk_ => XS.iloadN X26.here hx rfl (hb hby at_20) rfl  kk_) ?_
      show G T26 (mkF m 21 #[.val (.int i1), .val (.int i2), .val (.int i3), .val (.int i4), .val (.int (1 : Int32)), .val (.int (1 : Int32)), .val (.ref a26), .unset, .unset, .unset] [(.int i4), (.int (1 : Int32))])
      refine rCallS hs X26 hx hZ (as' := [(.int (1 : Int32)), (.int i4)]) Jn.stb (tx_1 l Z a0 hw [] ((Jn Z [])) Jn.stb i4 h26 n0 Z0 O cw S0 hcw) hown (hw _ (List.mem_of_getElem? (i := 0) rfl)) (hw _ (List.mem_of_getElem? (i := 1) rfl)) (hw _ (List.mem_of_getElem? (i := 2) rfl)) (hw _ (List.mem_of_getElem? (i := 3) rfl)) hy_1 rfl (by rw [hml]; rfl) [] (lenOf pd_7 rfl) rfl 0 (by show 2 * 0 + _ ≤ _; exact Nat.le_of_eq rfl) (hb hby at_21) (by decide) (by decide) (by decide) (by decide) (fun r27 T27 h27 vm27 X27 q27 => ?_)
      obtain ⟨a27, d27, kd27, vd27, rfl, Kc27, E_a27, F_value_a27, V_d27, hj27⟩ := q27
      have X27 := X27 _ hj27
      have O := O.keep Kc27 all0
      have E_a26 := E_a26.keep Kc27
      have F_value_a26 := F_value_a26.keep Kc27 nin0
      have V_d26 := V_d26.keep Kc27 nin0
      have Z0 := Nat.le_trans Z0 Kc27.1
      show G T27 (mkF m 24 #[.val (.int i1), .val (.int i2), .val (.int i3), .val (.int i4), .val (.int (1 : Int32)), .val (.int (1 : Int32)), .val (.ref a26), .unset, .unset, .unset] [(.ref a27)])
      refine hs.go (fun _ kk_ => XS.astore X27.here hx rfl (hb hby at_24) rfl rfl (l' := #[.val (.int i1), .val (.int i2), .val (.int i3), .val (.int i4), .val (.int (1 : Int32)), .val (.int (1 : Int32)), .val (.ref a26), .val (.ref a27), .unset, .unset]) rfl kk_) ?_
      show G T27 (mkF m 26 #[.val (.int i1), .val (.int i2), .val (.int i3), .val (.int i4), .val (.int (1 : Int32)), .val (.int (1 : Int32)), .val (.ref a26), .val (.ref a27), .unset, .unset] [])
      as_aux_lemma =>
        refine rNewO hs X27 hx hZ hown (hw _ (List.mem_of_getElem? (i := 37) rfl)) (hw _ (List.mem_of_getElem? (i := 38) rfl)) (hw _ (List.mem_of_getElem? (i := 39) rfl)) rfl (hb hby at_26) (by decide) (by decide) (fun T28 h28 ft g28 X28 E28 E_ft D28 => ?_)
        have g_ft : n0 ≤ ft := by rw [g28]; exact Z0
        have Z0 := Nat.le_trans Z0 E28.1
        have ne_a26_ft : a26 ≠ ft := Nat.ne_of_lt (Nat.lt_of_lt_of_le E_a26.lt (Nat.le_of_eq g28.symm))
        have ne_d26_ft : d26 ≠ ft := Nat.ne_of_lt (Nat.lt_of_lt_of_le V_d26.lt (Nat.le_of_eq g28.symm))
        have ne_a27_ft : a27 ≠ ft := Nat.ne_of_lt (Nat.lt_of_lt_of_le E_a27.lt (Nat.le_of_eq g28.symm))
        have ne_d27_ft : d27 ≠ ft := Nat.ne_of_lt (Nat.lt_of_lt_of_le V_d27.lt (Nat.le_of_eq g28.symm))
        have O := O.ext E28
        have E_a26 := E_a26.ext E28
        have F_value_a26 := F_value_a26.ext E28
        have V_d26 := V_d26.ext E28
        have E_a27 := E_a27.ext E28
        have F_value_a27 := F_value_a27.ext E28
        have V_d27 := V_d27.ext E28
        have F_words_ft : Fld Z h28 ft "com/example/farthing/farthing/format/FormText" "words" "Ljava/util/Set;" .null := D28 (Or.inr (hw _ (List.mem_of_getElem? (i := 50) rfl))) (ty := (.object "java/util/Set")) (by decide)
        have F_wordsBeforeCurrency_ft : Fld Z h28 ft "com/example/farthing/farthing/format/FormText" "wordsBeforeCurrency" "Ljava/util/Set;" .null := D28 (Or.inr (hw _ (List.mem_of_getElem? (i := 52) rfl))) (ty := (.object "java/util/Set")) (by decide)
        have F_wordsAfterCurrency_ft : Fld Z h28 ft "com/example/farthing/farthing/format/FormText" "wordsAfterCurrency" "Ljava/util/Set;" .null := D28 (Or.inr (hw _ (List.mem_of_getElem? (i := 54) rfl))) (ty := (.object "java/util/Set")) (by decide)
        have F_signsBefore_ft : Fld Z h28 ft "com/example/farthing/farthing/format/FormText" "signsBefore" "Ljava/lang/String;" .null := D28 (Or.inr (hw _ (List.mem_of_getElem? (i := 56) rfl))) (ty := (.object "java/lang/String")) (by decide)
        have F_signsAfter_ft : Fld Z h28 ft "com/example/farthing/farthing/format/FormText" "signsAfter" "Ljava/lang/String;" .null := D28 (Or.inr (hw _ (List.mem_of_getElem? (i := 58) rfl))) (ty := (.object "java/lang/String")) (by decide)
        show G T28 (mkF m 29 #[.val (.int i1), .val (.int i2), .val (.int i3), .val (.int i4), .val (.int (1 : Int32)), .val (.int (1 : Int32)), .val (.ref a26), .val (.ref a27), .unset, .unset] [(.ref ft)])
        refine hs.go (fun _ kk_ => XS.dup X28.here hx rfl (hb hby at_29) rfl rfl kk_) ?_
        show G T28 (mkF m 30 #[.val (.int i1), .val (.int i2), .val (.int i3), .val (.int i4), .val (.int (1 : Int32)), .val (.int (1 : Int32)), .val (.ref a26), .val (.ref a27), .unset, .unset] [(.ref ft), (.ref ft)])
        refine hs.go (fun _ kk_ => XS.aconstNull X28.here hx rfl (hb hby at_30) kk_) ?_
        show G T28 (mkF m 31 #[.val (.int i1), .val (.int i2), .val (.int i3), .val (.int i4), .val (.int (1 : Int32)), .val (.int (1 : Int32)), .val (.ref a26), .val (.ref a27), .unset, .unset] [.null, (.ref ft), (.ref ft)])
        refine hs.go (fun _ kk_ => XS.aconstNull X28.here hx rfl (hb hby at_31) kk_) ?_
        show G T28 (mkF m 32 #[.val (.int i1), .val (.int i2), .val (.int i3), .val (.int i4), .val (.int (1 : Int32)), .val (.int (1 : Int32)), .val (.ref a26), .val (.ref a27), .unset, .unset] [.null, .null, (.ref ft), (.ref ft)])
        refine hs.go (fun _ kk_ => XS.aconstNull X28.here hx rfl (hb hby at_32) kk_) ?_
        show G T28 (mkF m 33 #[.val (.int i1), .val (.int i2), .val (.int i3), .val (.int i4), .val (.int (1 : Int32)), .val (.int (1 : Int32)), .val (.ref a26), .val (.ref a27), .unset, .unset] [.null, .null, .null, (.ref ft), (.ref ft)])
        refine hs.go (fun _ kk_ => XS.aload X28.here hx rfl (hb hby at_33) rfl rfl kk_) ?_
        show G T28 (mkF m 35 #[.val (.int i1), .val (.int i2), .val (.int i3), .val (.int i4), .val (.int (1 : Int32)), .val (.int (1 : Int32)), .val (.ref a26), .val (.ref a27), .unset, .unset] [(.ref a26), .null, .null, .null, (.ref ft), (.ref ft)])
        refine hs.go (fun _ kk_ => XS.aload X28.here hx rfl (hb hby at_35) rfl rfl kk_) ?_
        show G T28 (mkF m 37 #[.val (.int i1), .val (.int i2), .val (.int i3), .val (.int i4), .val (.int (1 : Int32)), .val (.int (1 : Int32)), .val (.ref a26), .val (.ref a27), .unset, .unset] [(.ref a27), (.ref a26), .null, .null, .null, (.ref ft), (.ref ft)])
        refine rCallI hs X28 hx hZ (as' := [.null, .null, .null, (.ref a26), (.ref a27)]) Jn.stb (rm8 l Z a0 hw [] ((Jn Z [])) Jn.stb ft a26 a27 h28 n0 Z0 E_ft g_ft F_words_ft F_wordsBeforeCurrency_ft F_wordsAfterCurrency_ft F_signsBefore_ft F_signsAfter_ft) rfl hown (hw _ (List.mem_of_getElem? (i := 40) rfl)) (hw _ (List.mem_of_getElem? (i := 41) rfl)) (hw _ (List.mem_of_getElem? (i := 39) rfl)) (hw _ (List.mem_of_getElem? (i := 42) rfl)) hy_8 rfl (by rw [hml]; rfl) [(.ref ft)] (lenOf pd_8 rfl) rfl 1 (by show 2 * 0 + _ ≤ _; exact Nat.le_of_eq rfl) (hb hby at_37) (by decide) (by decide) (by decide) (by decide) (fun r29 T29 h29 vm29 X29 q29 => ?_)
        obtain ⟨rfl, Kc29, E_ft, F_signsBefore_ft, F_signsAfter_ft, hj29⟩ := q29
        have X29 := X29 _ hj29
        have O := O.keep Kc29 (allS g_ft all0)
        have E_a26 := E_a26.keep Kc29
        have F_value_a26 := F_value_a26.keep Kc29 (ninS ne_a26_ft nin0)
        have V_d26 := V_d26.keep Kc29 (ninS ne_d26_ft nin0)
        have E_a27 := E_a27.keep Kc29
        have F_value_a27 := F_value_a27.keep Kc29 (ninS ne_a27_ft nin0)
        have V_d27 := V_d27.keep Kc29 (ninS ne_d27_ft nin0)
        have Z0 := Nat.le_trans Z0 Kc29.1
        show G T29 (mkF m 40 #[.val (.int i1), .val (.int i2), .val (.int i3), .val (.int i4), .val (.int (1 : Int32)), .val (.int (1 : Int32)), .val (.ref a26), .val (.ref a27), .unset, .unset] [(.ref ft)])
        refine hs.go (fun _ kk_ => XS.astore X29.here hx rfl (hb hby at_40) rfl rfl (l' := #[.val (.int i1), .val (.int i2), .val (.int i3), .val (.int i4), .val (.int (1 : Int32)), .val (.int (1 : Int32)), .val (.ref a26), .val (.ref a27), .val (.ref ft), .unset]) rfl kk_) ?_
        show G T29 (mkF m 42 #[.val (.int i1), .val (.int i2), .val (.int i3), .val (.int i4), .val (.int (1 : Int32)), .val (.int (1 : Int32)), .val (.ref a26), .val (.ref a27), .val (.ref ft), .unset] [])
        refine hs.go (fun _ kk_ => XS.iload X29.here hx rfl (hb hby at_42) rfl  kk_) ?_
        show G T29 (mkF m 44 #[.val (.int i1), .val (.int i2), .val (.int i3), .val (.int i4), .val (.int (1 : Int32)), .val (.int (1 : Int32)), .val (.ref a26), .val (.ref a27), .val (.ref ft), .unset] [(.int (1 : Int32))])
        refine hs.go (fun _ kk_ => XS.ifYes X29.here hx rfl (pc0 := 44) (pc' := 52) rfl (hb hby at_44) rfl ((if0 _ _).trans (feq ((by decide) : ¬ ((1 : Int32) = (0 : Int32)))).2) (by decide) (by decide) kk_) ?_
        show G T29 (mkF m 52 #[.val (.int i1), .val (.int i2), .val (.int i3), .val (.int i4), .val (.int (1 : Int32)), .val (.int (1 : Int32)), .val (.ref a26), .val (.ref a27), .val (.ref ft), .unset] [])
        refine hs.go (fun _ kk_ => XS.iconst X29.here hx rfl (hb hby at_52) kk_) ?_
        show G T29 (mkF m 53 #[.val (.int i1), .val (.int i2), .val (.int i3), .val (.int i4), .val (.int (1 : Int32)), .val (.int (1 : Int32)), .val (.ref a26), .val (.ref a27), .val (.ref ft), .unset] [(.int (1 : Int32))])
        refine hs.go (fun _ kk_ => XS.goto X29.here hx rfl (pc0 := 53) (pc' := 57) rfl (hb hby at_53) (by decide) (by decide) kk_) ?_
        show G T29 (mkF m 57 #[.val (.int i1), .val (.int i2), .val (.int i3), .val (.int i4), .val (.int (1 : Int32)), .val (.int (1 : Int32)), .val (.ref a26), .val (.ref a27), .val (.ref ft), .unset] [(.int (1 : Int32))])
        refine hs.go (fun _ kk_ => XS.istore X29.here hx rfl (hb hby at_57) rfl (l' := #[.val (.int i1), .val (.int i2), .val (.int i3), .val (.int i4), .val (.int (1 : Int32)), .val (.int (1 : Int32)), .val (.ref a26), .val (.ref a27), .val (.ref ft), .val (.int (1 : Int32))]) rfl kk_) ?_
        show G T29 (mkF m 59 #[.val (.int i1), .val (.int i2), .val (.int i3), .val (.int i4), .val (.int (1 : Int32)), .val (.int (1 : Int32)), .val (.ref a26), .val (.ref a27), .val (.ref ft), .val (.int (1 : Int32))] [])
        refine hs.go (fun _ kk_ => XS.aload X29.here hx rfl (hb hby at_59) rfl rfl kk_) ?_
        show G T29 (mkF m 61 #[.val (.int i1), .val (.int i2), .val (.int i3), .val (.int i4), .val (.int (1 : Int32)), .val (.int (1 : Int32)), .val (.ref a26), .val (.ref a27), .val (.ref ft), .val (.int (1 : Int32))] [(.ref ft)])
        refine rCallV hs X29 hx hZ (as' := []) Jn.stb (rm10 l Z a0 hw [] ((Jn Z [])) Jn.stb ft a26 a27 d26 d27 kd26 kd27 (1 : Int32) (1 : Int32) vd26 vd27 h29 n0 Z0 F_signsBefore_ft F_signsAfter_ft E_a26 F_value_a26 V_d26 E_a27 F_value_a27 V_d27) E_ft hown (hw _ (List.mem_of_getElem? (i := 59) rfl)) (hw _ (List.mem_of_getElem? (i := 60) rfl)) (hw _ (List.mem_of_getElem? (i := 62) rfl)) (hw _ (List.mem_of_getElem? (i := 61) rfl)) (hw _ (List.mem_of_getElem? (i := 39) rfl)) (hw _ (List.mem_of_getElem? (i := 63) rfl)) hy_10 rfl (by rw [hml]; rfl) [] (lenOf pd_6 rfl) rfl 0 (by show 2 * 0 + _ ≤ _; exact Nat.le_of_eq rfl) (hb hby at_61) (by decide) (by decide) (by decide) (by decide) (fun r30 T30 h30 vm30 X30 q30 => ?_)
        obtain ⟨rfl, qh30, hj30⟩ := q30
        have X30 := X30 _ hj30
        rw [qh30] at X30
        show G T30 (mkF m 64 #[.val (.int i1), .val (.int i2), .val (.int i3), .val (.int i4), .val (.int (1 : Int32)), .val (.int (1 : Int32)), .val (.ref a26), .val (.ref a27), .val (.ref ft), .val (.int (1 : Int32))] [(.int (fws (1 : Int32) (1 : Int32)))])
        refine hs.go (fun _ kk_ => XS.iload X30.here hx rfl (hb hby at_64) rfl  kk_) ?_
        show G T30 (mkF m 66 #[.val (.int i1), .val (.int i2), .val (.int i3), .val (.int i4), .val (.int (1 : Int32)), .val (.int (1 : Int32)), .val (.ref a26), .val (.ref a27), .val (.ref ft), .val (.int (1 : Int32))] [(.int (1 : Int32)), (.int (fws (1 : Int32) (1 : Int32)))])
        refine hs.go (fun _ kk_ => XS.icmpNo X30.here hx rfl (hb hby at_66) rfl (teq ((by decide) : (fws (1 : Int32) (1 : Int32)) = (1 : Int32))).2 kk_) ?_
        show G T30 (mkF m 69 #[.val (.int i1), .val (.int i2), .val (.int i3), .val (.int i4), .val (.int (1 : Int32)), .val (.int (1 : Int32)), .val (.ref a26), .val (.ref a27), .val (.ref ft), .val (.int (1 : Int32))] [])
        refine hs.go (fun _ kk_ => XS.iconst X30.here hx rfl (hb hby at_69) kk_) ?_
        show G T30 (mkF m 70 #[.val (.int i1), .val (.int i2), .val (.int i3), .val (.int i4), .val (.int (1 : Int32)), .val (.int (1 : Int32)), .val (.ref a26), .val (.ref a27), .val (.ref ft), .val (.int (1 : Int32))] [(.int (1 : Int32))])
        refine hs.go (fun _ kk_ => XS.goto X30.here hx rfl (pc0 := 70) (pc' := 74) rfl (hb hby at_70) (by decide) (by decide) kk_) ?_
        show G T30 (mkF m 74 #[.val (.int i1), .val (.int i2), .val (.int i3), .val (.int i4), .val (.int (1 : Int32)), .val (.int (1 : Int32)), .val (.ref a26), .val (.ref a27), .val (.ref ft), .val (.int (1 : Int32))] [(.int (1 : Int32))])
        exact rRetN fin Jn.stb X30 hx (by decide) (by decide) hret (by simp) (hb hby at_74) (z' := (1 : Int32)) (by decide) (fun vm' hj => rfl)
    · subst e_
      show G s₁ (mkF m 10 #[.val (.int i1), .val (.int i2), .val (.int i3), .val (.int i4), .val (.int (1 : Int32)), .val (.int (2 : Int32)), .unset, .unset, .unset, .unset] [])
      refine hs.go (fun _ kk_ => XS.iload X0.here hx rfl (hb hby at_10) rfl  kk_) ?_
      show G s₁ (mkF m 12 #[.val (.int i1), .val (.int i2), .val (.int i3), .val (.int i4), .val (.int (1 : Int32)), .val (.int (2 : Int32)), .unset, .unset, .unset, .unset] [(.int (1 : Int32))])
      refine hs.go (fun _ kk_ => XS.iloadN X0.here hx rfl (hb hby at_12) rfl  kk_) ?_
      show G s₁ (mkF m 13 #[.val (.int i1), .val (.int i2), .val (.int i3), .val (.int i4), .val (.int (1 : Int32)), .val (.int (2 : Int32)), .unset, .unset, .unset, .unset] [(.int i2), (.int (1 : Int32))])
      refine rCallS hs X0 hx hZ (as' := [(.int (1 : Int32)), (.int i2)]) Jn.stb (tx_1 l Z a0 hw [] ((Jn Z [])) Jn.stb i2 h0 n0 Z0 O cw S0 hcw) hown (hw _ (List.mem_of_getElem? (i := 0) rfl)) (hw _ (List.mem_of_getElem? (i := 1) rfl)) (hw _ (List.mem_of_getElem? (i := 2) rfl)) (hw _ (List.mem_of_getElem? (i := 3) rfl)) hy_1 rfl (by rw [hml]; rfl) [] (lenOf pd_7 rfl) rfl 0 (by show 2 * 0 + _ ≤ _; exact Nat.le_of_eq rfl) (hb hby at_13) (by decide) (by decide) (by decide) (by decide) (fun r31 T31 h31 vm31 X31 q31 => ?_)
      obtain ⟨a31, d31, kd31, vd31, rfl, Kc31, E_a31, F_value_a31, V_d31, hj31⟩ := q31
      have X31 := X31 _ hj31
      have O := O.keep Kc31 all0
      have Z0 := Nat.le_trans Z0 Kc31.1
      show G T31 (mkF m 16 #[.val (.int i1), .val (.int i2), .val (.int i3), .val (.int i4), .val (.int (1 : Int32)), .val (.int (2 : Int32)), .unset, .unset, .unset, .unset] [(.ref a31)])
      refine hs.go (fun _ kk_ => XS.astore X31.here hx rfl (hb hby at_16) rfl rfl (l' := #[.val (.int i1), .val (.int i2), .val (.int i3), .val (.int i4), .val (.int (1 : Int32)), .val (.int (2 : Int32)), .val (.ref a31), .unset, .unset, .unset]) rfl kk_) ?_
      show G T31 (mkF m 18 #[.val (.int i1), .val (.int i2), .val (.int i3), .val (.int i4), .val (.int (1 : Int32)), .val (.int (2 : Int32)), .val (.ref a31), .unset, .unset, .unset] [])
      refine hs.go (fun _ kk_ => XS.iload X31.here hx rfl (hb hby at_18) rfl  kk_) ?_
      show G T31 (mkF m 20 #[.val (.int i1), .val (.int i2), .val (.int i3), .val (.int i4), .val (.int (1 : Int32)), .val (.int (2 : Int32)), .val (.ref a31), .unset, .unset, .unset] [(.int (2 : Int32))])
      refine hs.go (fun _ kk_ => XS.iloadN X31.here hx rfl (hb hby at_20) rfl  kk_) ?_
      show G T31 (mkF m 21 #[.val (.int i1), .val (.int i2), .val (.int i3), .val (.int i4), .val (.int (1 : Int32)), .val (.int (2 : Int32)), .val (.ref a31), .unset, .unset, .unset] [(.int i4), (.int (2 : Int32))])
      refine rCallS hs X31 hx hZ (as' := [(.int (2 : Int32)), (.int i4)]) Jn.stb (tx_2 l Z a0 hw [] ((Jn Z [])) Jn.stb i4 h31 n0 Z0 O cw S0 hcw) hown (hw _ (List.mem_of_getElem? (i := 0) rfl)) (hw _ (List.mem_of_getElem? (i := 1) rfl)) (hw _ (List.mem_of_getElem? (i := 2) rfl)) (hw _ (List.mem_of_getElem? (i := 3) rfl)) hy_1 rfl (by rw [hml]; rfl) [] (lenOf pd_7 rfl) rfl 0 (by show 2 * 0 + _ ≤ _; exact Nat.le_of_eq rfl) (hb hby at_21) (by decide) (by decide) (by decide) (by decide) (fun r32 T32 h32 vm32 X32 q32 => ?_)
      obtain ⟨a32, d32, kd32, vd32, rfl, Kc32, E_a32, F_value_a32, V_d32, hj32⟩ := q32
      have X32 := X32 _ hj32
      have O := O.keep Kc32 all0
      have E_a31 := E_a31.keep Kc32
      have F_value_a31 := F_value_a31.keep Kc32 nin0
      have V_d31 := V_d31.keep Kc32 nin0
      have Z0 := Nat.le_trans Z0 Kc32.1
      show G T32 (mkF m 24 #[.val (.int i1), .val (.int i2), .val (.int i3), .val (.int i4), .val (.int (1 : Int32)), .val (.int (2 : Int32)), .val (.ref a31), .unset, .unset, .unset] [(.ref a32)])
      refine hs.go (fun _ kk_ => XS.astore X32.here hx rfl (hb hby at_24) rfl rfl (l' := #[.val (.int i1), .val (.int i2), .val (.int i3), .val (.int i4), .val (.int (1 : Int32)), .val (.int (2 : Int32)), .val (.ref a31), .val (.ref a32), .unset, .unset]) rfl kk_) ?_
      show G T32 (mkF m 26 #[.val (.int i1), .val (.int i2), .val (.int i3), .val (.int i4), .val (.int (1 : Int32)), .val (.int (2 : Int32)), .val (.ref a31), .val (.ref a32), .unset, .unset] [])
      as_aux_lemma =>
        refine rNewO hs X32 hx hZ hown (hw _ (List.mem_of_getElem? (i := 37) rfl)) (hw _ (List.mem_of_getElem? (i := 38) rfl)) (hw _ (List.mem_of_getElem? (i := 39) rfl)) rfl (hb hby at_26) (by decide) (by decide) (fun T33 h33 ft g33 X33 E33 E_ft D33 => ?_)
        have g_ft : n0 ≤ ft := by rw [g33]; exact Z0
        have Z0 := Nat.le_trans Z0 E33.1
        have ne_a31_ft : a31 ≠ ft := Nat.ne_of_lt (Nat.lt_of_lt_of_le E_a31.lt (Nat.le_of_eq g33.symm))
        have ne_d31_ft : d31 ≠ ft := Nat.ne_of_lt (Nat.lt_of_lt_of_le V_d31.lt (Nat.le_of_eq g33.symm))
        have ne_a32_ft : a32 ≠ ft := Nat.ne_of_lt (Nat.lt_of_lt_of_le E_a32.lt (Nat.le_of_eq g33.symm))
        have ne_d32_ft : d32 ≠ ft := Nat.ne_of_lt (Nat.lt_of_lt_of_le V_d32.lt (Nat.le_of_eq g33.symm))
        have O := O.ext E33
        have E_a31 := E_a31.ext E33
        have F_value_a31 := F_value_a31.ext E33
        have V_d31 := V_d31.ext E33
        have E_a32 := E_a32.ext E33
        have F_value_a32 := F_value_a32.ext E33
        have V_d32 := V_d32.ext E33
        have F_words_ft : Fld Z h33 ft "com/example/farthing/farthing/format/FormText" "words" "Ljava/util/Set;" .null := D33 (Or.inr (hw _ (List.mem_of_getElem? (i := 50) rfl))) (ty := (.object "java/util/Set")) (by decide)
        have F_wordsBeforeCurrency_ft : Fld Z h33 ft "com/example/farthing/farthing/format/FormText" "wordsBeforeCurrency" "Ljava/util/Set;" .null := D33 (Or.inr (hw _ (List.mem_of_getElem? (i := 52) rfl))) (ty := (.object "java/util/Set")) (by decide)
        have F_wordsAfterCurrency_ft : Fld Z h33 ft "com/example/farthing/farthing/format/FormText" "wordsAfterCurrency" "Ljava/util/Set;" .null := D33 (Or.inr (hw _ (List.mem_of_getElem? (i := 54) rfl))) (ty := (.object "java/util/Set")) (by decide)
        have F_signsBefore_ft : Fld Z h33 ft "com/example/farthing/farthing/format/FormText" "signsBefore" "Ljava/lang/String;" .null := D33 (Or.inr (hw _ (List.mem_of_getElem? (i := 56) rfl))) (ty := (.object "java/lang/String")) (by decide)
        have F_signsAfter_ft : Fld Z h33 ft "com/example/farthing/farthing/format/FormText" "signsAfter" "Ljava/lang/String;" .null := D33 (Or.inr (hw _ (List.mem_of_getElem? (i := 58) rfl))) (ty := (.object "java/lang/String")) (by decide)
        show G T33 (mkF m 29 #[.val (.int i1), .val (.int i2), .val (.int i3), .val (.int i4), .val (.int (1 : Int32)), .val (.int (2 : Int32)), .val (.ref a31), .val (.ref a32), .unset, .unset] [(.ref ft)])
        refine hs.go (fun _ kk_ => XS.dup X33.here hx rfl (hb hby at_29) rfl rfl kk_) ?_
        show G T33 (mkF m 30 #[.val (.int i1), .val (.int i2), .val (.int i3), .val (.int i4), .val (.int (1 : Int32)), .val (.int (2 : Int32)), .val (.ref a31), .val (.ref a32), .unset, .unset] [(.ref ft), (.ref ft)])
        refine hs.go (fun _ kk_ => XS.aconstNull X33.here hx rfl (hb hby at_30) kk_) ?_
        show G T33 (mkF m 31 #[.val (.int i1), .val (.int i2), .val (.int i3), .val (.int i4), .val (.int (1 : Int32)), .val (.int (2 : Int32)), .val (.ref a31), .val (.ref a32), .unset, .unset] [.null, (.ref ft), (.ref ft)])
        refine hs.go (fun _ kk_ => XS.aconstNull X33.here hx rfl (hb hby at_31) kk_) ?_
        show G T33 (mkF m 32 #[.val (.int i1), .val (.int i2), .val (.int i3), .val (.int i4), .val (.int (1 : Int32)), .val (.int (2 : Int32)), .val (.ref a31), .val (.ref a32), .unset, .unset] [.null, .null, (.ref ft), (.ref ft)])
        refine hs.go (fun _ kk_ => XS.aconstNull X33.here hx rfl (hb hby at_32) kk_) ?_
        show G T33 (mkF m 33 #[.val (.int i1), .val (.int i2), .val (.int i3), .val (.int i4), .val (.int (1 : Int32)), .val (.int (2 : Int32)), .val (.ref a31), .val (.ref a32), .unset, .unset] [.null, .null, .null, (.ref ft), (.ref ft)])
        refine hs.go (fun _ kk_ => XS.aload X33.here hx rfl (hb hby at_33) rfl rfl kk_) ?_
        show G T33 (mkF m 35 #[.val (.int i1), .val (.int i2), .val (.int i3), .val (.int i4), .val (.int (1 : Int32)), .val (.int (2 : Int32)), .val (.ref a31), .val (.ref a32), .unset, .unset] [(.ref a31), .null, .null, .null, (.ref ft), (.ref ft)])
        refine hs.go (fun _ kk_ => XS.aload X33.here hx rfl (hb hby at_35) rfl rfl kk_) ?_
        show G T33 (mkF m 37 #[.val (.int i1), .val (.int i2), .val (.int i3), .val (.int i4), .val (.int (1 : Int32)), .val (.int (2 : Int32)), .val (.ref a31), .val (.ref a32), .unset, .unset] [(.ref a32), (.ref a31), .null, .null, .null, (.ref ft), (.ref ft)])
        refine rCallI hs X33 hx hZ (as' := [.null, .null, .null, (.ref a31), (.ref a32)]) Jn.stb (rm8 l Z a0 hw [] ((Jn Z [])) Jn.stb ft a31 a32 h33 n0 Z0 E_ft g_ft F_words_ft F_wordsBeforeCurrency_ft F_wordsAfterCurrency_ft F_signsBefore_ft F_signsAfter_ft) rfl hown (hw _ (List.mem_of_getElem? (i := 40) rfl)) (hw _ (List.mem_of_getElem? (i := 41) rfl)) (hw _ (List.mem_of_getElem? (i := 39) rfl)) (hw _ (List.mem_of_getElem? (i := 42) rfl)) hy_8 rfl (by rw [hml]; rfl) [(.ref ft)] (lenOf pd_8 rfl) rfl 1 (by show 2 * 0 + _ ≤ _; exact Nat.le_of_eq rfl) (hb hby at_37) (by decide) (by decide) (by decide) (by decide) (fun r34 T34 h34 vm34 X34 q34 => ?_)
        obtain ⟨rfl, Kc34, E_ft, F_signsBefore_ft, F_signsAfter_ft, hj34⟩ := q34
        have X34 := X34 _ hj34
        have O := O.keep Kc34 (allS g_ft all0)
        have E_a31 := E_a31.keep Kc34
        have F_value_a31 := F_value_a31.keep Kc34 (ninS ne_a31_ft nin0)
        have V_d31 := V_d31.keep Kc34 (ninS ne_d31_ft nin0)
        have E_a32 := E_a32.keep Kc34
        have F_value_a32 := F_value_a32.keep Kc34 (ninS ne_a32_ft nin0)
        have V_d32 := V_d32.keep Kc34 (ninS ne_d32_ft nin0)
        have Z0 := Nat.le_trans Z0 Kc34.1
        show G T34 (mkF m 40 #[.val (.int i1), .val (.int i2), .val (.int i3), .val (.int i4), .val (.int (1 : Int32)), .val (.int (2 : Int32)), .val (.ref a31), .val (.ref a32), .unset, .unset] [(.ref ft)])
        refine hs.go (fun _ kk_ => XS.astore X34.here hx rfl (hb hby at_40) rfl rfl (l' := #[.val (.int i1), .val (.int i2), .val (.int i3), .val (.int i4), .val (.int (1 : Int32)), .val (.int (2 : Int32)), .val (.ref a31), .val (.ref a32), .val (.ref ft), .unset]) rfl kk_) ?_
        show G T34 (mkF m 42 #[.val (.int i1), .val (.int i2), .val (.int i3), .val (.int i4), .val (.int (1 : Int32)), .val (.int (2 : Int32)), .val (.ref a31), .val (.ref a32), .val (.ref ft), .unset] [])
        refine hs.go (fun _ kk_ => XS.iload X34.here hx rfl (hb hby at_42) rfl  kk_) ?_
        show G T34 (mkF m 44 #[.val (.int i1), .val (.int i2), .val (.int i3), .val (.int i4), .val (.int (1 : Int32)), .val (.int (2 : Int32)), .val (.ref a31), .val (.ref a32), .val (.ref ft), .unset] [(.int (1 : Int32))])
        refine hs.go (fun _ kk_ => XS.ifYes X34.here hx rfl (pc0 := 44) (pc' := 52) rfl (hb hby at_44) rfl ((if0 _ _).trans (feq ((by decide) : ¬ ((1 : Int32) = (0 : Int32)))).2) (by decide) (by decide) kk_) ?_
        show G T34 (mkF m 52 #[.val (.int i1), .val (.int i2), .val (.int i3), .val (.int i4), .val (.int (1 : Int32)), .val (.int (2 : Int32)), .val (.ref a31), .val (.ref a32), .val (.ref ft), .unset] [])
        refine hs.go (fun _ kk_ => XS.iconst X34.here hx rfl (hb hby at_52) kk_) ?_
        show G T34 (mkF m 53 #[.val (.int i1), .val (.int i2), .val (.int i3), .val (.int i4), .val (.int (1 : Int32)), .val (.int (2 : Int32)), .val (.ref a31), .val (.ref a32), .val (.ref ft), .unset] [(.int (1 : Int32))])
        refine hs.go (fun _ kk_ => XS.goto X34.here hx rfl (pc0 := 53) (pc' := 57) rfl (hb hby at_53) (by decide) (by decide) kk_) ?_
        show G T34 (mkF m 57 #[.val (.int i1), .val (.int i2), .val (.int i3), .val (.int i4), .val (.int (1 : Int32)), .val (.int (2 : Int32)), .val (.ref a31), .val (.ref a32), .val (.ref ft), .unset] [(.int (1 : Int32))])
        refine hs.go (fun _ kk_ => XS.istore X34.here hx rfl (hb hby at_57) rfl (l' := #[.val (.int i1), .val (.int i2), .val (.int i3), .val (.int i4), .val (.int (1 : Int32)), .val (.int (2 : Int32)), .val (.ref a31), .val (.ref a32), .val (.ref ft), .val (.int (1 : Int32))]) rfl kk_) ?_
        show G T34 (mkF m 59 #[.val (.int i1), .val (.int i2), .val (.int i3), .val (.int i4), .val (.int (1 : Int32)), .val (.int (2 : Int32)), .val (.ref a31), .val (.ref a32), .val (.ref ft), .val (.int (1 : Int32))] [])
        refine hs.go (fun _ kk_ => XS.aload X34.here hx rfl (hb hby at_59) rfl rfl kk_) ?_
        show G T34 (mkF m 61 #[.val (.int i1), .val (.int i2), .val (.int i3), .val (.int i4), .val (.int (1 : Int32)), .val (.int (2 : Int32)), .val (.ref a31), .val (.ref a32), .val (.ref ft), .val (.int (1 : Int32))] [(.ref ft)])
        refine rCallV hs X34 hx hZ (as' := []) Jn.stb (rm10 l Z a0 hw [] ((Jn Z [])) Jn.stb ft a31 a32 d31 d32 kd31 kd32 (1 : Int32) (2 : Int32) vd31 vd32 h34 n0 Z0 F_signsBefore_ft F_signsAfter_ft E_a31 F_value_a31 V_d31 E_a32 F_value_a32 V_d32) E_ft hown (hw _ (List.mem_of_getElem? (i := 59) rfl)) (hw _ (List.mem_of_getElem? (i := 60) rfl)) (hw _ (List.mem_of_getElem? (i := 62) rfl)) (hw _ (List.mem_of_getElem? (i := 61) rfl)) (hw _ (List.mem_of_getElem? (i := 39) rfl)) (hw _ (List.mem_of_getElem? (i := 63) rfl)) hy_10 rfl (by rw [hml]; rfl) [] (lenOf pd_6 rfl) rfl 0 (by show 2 * 0 + _ ≤ _; exact Nat.le_of_eq rfl) (hb hby at_61) (by decide) (by decide) (by decide) (by decide) (fun r35 T35 h35 vm35 X35 q35 => ?_)
        obtain ⟨rfl, qh35, hj35⟩ := q35
        have X35 := X35 _ hj35
        rw [qh35] at X35
        show G T35 (mkF m 64 #[.val (.int i1), .val (.int i2), .val (.int i3), .val (.int i4), .val (.int (1 : Int32)), .val (.int (2 : Int32)), .val (.ref a31), .val (.ref a32), .val (.ref ft), .val (.int (1 : Int32))] [(.int (fws (1 : Int32) (2 : Int32)))])
        refine hs.go (fun _ kk_ => XS.iload X35.here hx rfl (hb hby at_64) rfl  kk_) ?_
        show G T35 (mkF m 66 #[.val (.int i1), .val (.int i2), .val (.int i3), .val (.int i4), .val (.int (1 : Int32)), .val (.int (2 : Int32)), .val (.ref a31), .val (.ref a32), .val (.ref ft), .val (.int (1 : Int32))] [(.int (1 : Int32)), (.int (fws (1 : Int32) (2 : Int32)))])
        refine hs.go (fun _ kk_ => XS.icmpNo X35.here hx rfl (hb hby at_66) rfl (teq ((by decide) : (fws (1 : Int32) (2 : Int32)) = (1 : Int32))).2 kk_) ?_
        show G T35 (mkF m 69 #[.val (.int i1), .val (.int i2), .val (.int i3), .val (.int i4), .val (.int (1 : Int32)), .val (.int (2 : Int32)), .val (.ref a31), .val (.ref a32), .val (.ref ft), .val (.int (1 : Int32))] [])
        refine hs.go (fun _ kk_ => XS.iconst X35.here hx rfl (hb hby at_69) kk_) ?_
        show G T35 (mkF m 70 #[.val (.int i1), .val (.int i2), .val (.int i3), .val (.int i4), .val (.int (1 : Int32)), .val (.int (2 : Int32)), .val (.ref a31), .val (.ref a32), .val (.ref ft), .val (.int (1 : Int32))] [(.int (1 : Int32))])
        refine hs.go (fun _ kk_ => XS.goto X35.here hx rfl (pc0 := 70) (pc' := 74) rfl (hb hby at_70) (by decide) (by decide) kk_) ?_
        show G T35 (mkF m 74 #[.val (.int i1), .val (.int i2), .val (.int i3), .val (.int i4), .val (.int (1 : Int32)), .val (.int (2 : Int32)), .val (.ref a31), .val (.ref a32), .val (.ref ft), .val (.int (1 : Int32))] [(.int (1 : Int32))])
        exact rRetN fin Jn.stb X35 hx (by decide) (by decide) hret (by simp) (hb hby at_74) (z' := (1 : Int32)) (by decide) (fun vm' hj => rfl)
    · subst e_
      show G s₁ (mkF m 10 #[.val (.int i1), .val (.int i2), .val (.int i3), .val (.int i4), .val (.int (1 : Int32)), .val (.int (3 : Int32)), .unset, .unset, .unset, .unset] [])
      refine hs.go (fun _ kk_ => XS.iload X0.here hx rfl (hb hby at_10) rfl  kk_) ?_
      show G s₁ (mkF m 12 #[.val (.int i1), .val (.int i2), .val (.int i3), .val (.int i4), .val (.int (1 : Int32)), .val (.int (3 : Int32)), .unset, .unset, .unset, .unset] [(.int (1 : Int32))])
      refine hs.go (fun _ kk_ => XS.iloadN X0.here hx rfl (hb hby at_12) rfl  kk_) ?_
      show G s₁ (mkF m 13 #[.val (.int i1), .val (.int i2), .val (.int i3), .val (.int i4), .val (.int (1 : Int32)), .val (.int (3 : Int32)), .unset, .unset, .unset, .unset] [(.int i2), (.int (1 : Int32))])
      refine rCallS hs X0 hx hZ (as' := [(.int (1 : Int32)), (.int i2)]) Jn.stb (tx_1 l Z a0 hw [] ((Jn Z [])) Jn.stb i2 h0 n0 Z0 O cw S0 hcw) hown (hw _ (List.mem_of_getElem? (i := 0) rfl)) (hw _ (List.mem_of_getElem? (i := 1) rfl)) (hw _ (List.mem_of_getElem? (i := 2) rfl)) (hw _ (List.mem_of_getElem? (i := 3) rfl)) hy_1 rfl (by rw [hml]; rfl) [] (lenOf pd_7 rfl) rfl 0 (by show 2 * 0 + _ ≤ _; exact Nat.le_of_eq rfl) (hb hby at_13) (by decide) (by decide) (by decide) (by decide) (fun r36 T36 h36 vm36 X36 q36 => ?_)
      obtain ⟨a36, d36, kd36, vd36, rfl, Kc36, E_a36, F_value_a36, V_d36, hj36⟩ := q36
      have X36 := X36 _ hj36
      have O := O.keep Kc36 all0
      have Z0 := Nat.le_trans Z0 Kc36.1
      show G T36 (mkF m 16 #[.val (.int i1), .val (.int i2), .val (.int i3), .val (.int i4), .val (.int (1 : Int32)), .val (.int (3 : Int32)), .unset, .unset, .unset, .unset] [(.ref a36)])
      refine hs.go (fun _ kk_ => XS.astore X36.here hx rfl (hb hby at_16) rfl rfl (l' := #[.val (.int i1), .val (.int i2), .val (.int i3), .val (.int i4), .val (.int (1 : Int32)), .val (.int (3 : Int32)), .val (.ref a36), .unset, .unset, .unset]) rfl kk_) ?_
      show G T36 (mkF m 18 #[.val (.int i1), .val (.int i2), .val (.int i3), .val (.int i4), .val (.int (1 : Int32)), .val (.int (3 : Int32)), .val (.ref a36), .unset, .unset, .unset] [])
      refine hs.go (fun _ kk_ => XS.iload X36.here hx rfl (hb hby at_18) rfl  kk_) ?_
      show G T36 (mkF m 20 #[.val (.int i1), .val (.int i2), .val (.int i3), .val (.int i4), .val (.int (1 : Int32)), .val (.int (3 : Int32)), .val (.ref a36), .unset, .unset, .unset] [(.int (3 : Int32))])
      refine hs.go (fun _ kk_ => XS.iloadN X36.here hx rfl (hb hby at_20) rfl  kk_) ?_
      show G T36 (mkF m 21 #[.val (.int i1), .val (.int i2), .val (.int i3), .val (.int i4), .val (.int (1 : Int32)), .val (.int (3 : Int32)), .val (.ref a36), .unset, .unset, .unset] [(.int i4), (.int (3 : Int32))])
      refine rCallS hs X36 hx hZ (as' := [(.int (3 : Int32)), (.int i4)]) Jn.stb (tx_3 l Z a0 hw [] ((Jn Z [])) Jn.stb i4 h36 n0 Z0 O cw S0 hcw) hown (hw _ (List.mem_of_getElem? (i := 0) rfl)) (hw _ (List.mem_of_getElem? (i := 1) rfl)) (hw _ (List.mem_of_getElem? (i := 2) rfl)) (hw _ (List.mem_of_getElem? (i := 3) rfl)) hy_1 rfl (by rw [hml]; rfl) [] (lenOf pd_7 rfl) rfl 0 (by show 2 * 0 + _ ≤ _; exact Nat.le_of_eq rfl) (hb hby at_21) (by decide) (by decide) (by decide) (by decide) (fun r37 T37 h37 vm37 X37 q37 => ?_)
      obtain ⟨a37, d37, kd37, vd37, rfl, Kc37, E_a37, F_value_a37, V_d37, hj37⟩ := q37
      have X37 := X37 _ hj37
      have O := O.keep Kc37 all0
      have E_a36 := E_a36.keep Kc37
      have F_value_a36 := F_value_a36.keep Kc37 nin0
      have V_d36 := V_d36.keep Kc37 nin0
      have Z0 := Nat.le_trans Z0 Kc37.1
      show G T37 (mkF m 24 #[.val (.int i1), .val (.int i2), .val (.int i3), .val (.int i4), .val (.int (1 : Int32)), .val (.int (3 : Int32)), .val (.ref a36), .unset, .unset, .unset] [(.ref a37)])
      refine hs.go (fun _ kk_ => XS.astore X37.here hx rfl (hb hby at_24) rfl rfl (l' := #[.val (.int i1), .val (.int i2), .val (.int i3), .val (.int i4), .val (.int (1 : Int32)), .val (.int (3 : Int32)), .val (.ref a36), .val (.ref a37), .unset, .unset]) rfl kk_) ?_
      show G T37 (mkF m 26 #[.val (.int i1), .val (.int i2), .val (.int i3), .val (.int i4), .val (.int (1 : Int32)), .val (.int (3 : Int32)), .val (.ref a36), .val (.ref a37), .unset, .unset] [])
      as_aux_lemma =>
        refine rNewO hs X37 hx hZ hown (hw _ (List.mem_of_getElem? (i := 37) rfl)) (hw _ (List.mem_of_getElem? (i := 38) rfl)) (hw _ (List.mem_of_getElem? (i := 39) rfl)) rfl (hb hby at_26) (by decide) (by decide) (fun T38 h38 ft g38 X38 E38 E_ft D38 => ?_)
        have g_ft : n0 ≤ ft := by rw [g38]; exact Z0
        have Z0 := Nat.le_trans Z0 E38.1
        have ne_a36_ft : a36 ≠ ft := Nat.ne_of_lt (Nat.lt_of_lt_of_le E_a36.lt (Nat.le_of_eq g38.symm))
        have ne_d36_ft : d36 ≠ ft := Nat.ne_of_lt (Nat.lt_of_lt_of_le V_d36.lt (Nat.le_of_eq g38.symm))
        have ne_a37_ft : a37 ≠ ft := Nat.ne_of_lt (Nat.lt_of_lt_of_le E_a37.lt (Nat.le_of_eq g38.symm))
        have ne_d37_ft : d37 ≠ ft := Nat.ne_of_lt (Nat.lt_of_lt_of_le V_d37.lt (Nat.le_of_eq g38.symm))
        have O := O.ext E38
        have E_a36 := E_a36.ext E38
        have F_value_a36 := F_value_a36.ext E38
        have V_d36 := V_d36.ext E38
        have E_a37 := E_a37.ext E38
        have F_value_a37 := F_value_a37.ext E38
        have V_d37 := V_d37.ext E38
        have F_words_ft : Fld Z h38 ft "com/example/farthing/farthing/format/FormText" "words" "Ljava/util/Set;" .null := D38 (Or.inr (hw _ (List.mem_of_getElem? (i := 50) rfl))) (ty := (.object "java/util/Set")) (by decide)
        have F_wordsBeforeCurrency_ft : Fld Z h38 ft "com/example/farthing/farthing/format/FormText" "wordsBeforeCurrency" "Ljava/util/Set;" .null := D38 (Or.inr (hw _ (List.mem_of_getElem? (i := 52) rfl))) (ty := (.object "java/util/Set")) (by decide)
        have F_wordsAfterCurrency_ft : Fld Z h38 ft "com/example/farthing/farthing/format/FormText" "wordsAfterCurrency" "Ljava/util/Set;" .null := D38 (Or.inr (hw _ (List.mem_of_getElem? (i := 54) rfl))) (ty := (.object "java/util/Set")) (by decide)
        have F_signsBefore_ft : Fld Z h38 ft "com/example/farthing/farthing/format/FormText" "signsBefore" "Ljava/lang/String;" .null := D38 (Or.inr (hw _ (List.mem_of_getElem? (i := 56) rfl))) (ty := (.object "java/lang/String")) (by decide)
        have F_signsAfter_ft : Fld Z h38 ft "com/example/farthing/farthing/format/FormText" "signsAfter" "Ljava/lang/String;" .null := D38 (Or.inr (hw _ (List.mem_of_getElem? (i := 58) rfl))) (ty := (.object "java/lang/String")) (by decide)
        show G T38 (mkF m 29 #[.val (.int i1), .val (.int i2), .val (.int i3), .val (.int i4), .val (.int (1 : Int32)), .val (.int (3 : Int32)), .val (.ref a36), .val (.ref a37), .unset, .unset] [(.ref ft)])
        refine hs.go (fun _ kk_ => XS.dup X38.here hx rfl (hb hby at_29) rfl rfl kk_) ?_
        show G T38 (mkF m 30 #[.val (.int i1), .val (.int i2), .val (.int i3), .val (.int i4), .val (.int (1 : Int32)), .val (.int (3 : Int32)), .val (.ref a36), .val (.ref a37), .unset, .unset] [(.ref ft), (.ref ft)])
        refine hs.go (fun _ kk_ => XS.aconstNull X38.here hx rfl (hb hby at_30) kk_) ?_
        show G T38 (mkF m 31 #[.val (.int i1), .val (.int i2), .val (.int i3), .val (.int i4), .val (.int (1 : Int32)), .val (.int (3 : Int32)), .val (.ref a36), .val (.ref a37), .unset, .unset] [.null, (.ref ft), (.ref ft)])
        refine hs.go (fun _ kk_ => XS.aconstNull X38.here hx rfl (hb hby at_31) kk_) ?_
        show G T38 (mkF m 32 #[.val (.int i1), .val (.int i2), .val (.int i3), .val (.int i4), .val (.int (1 : Int32)), .val (.int (3 : Int32)), .val (.ref a36), .val (.ref a37), .unset, .unset] [.null, .null, (.ref ft), (.ref ft)])
        refine hs.go (fun _ kk_ => XS.aconstNull X38.here hx rfl (hb hby at_32) kk_) ?_
        show G T38 (mkF m 33 #[.val (.int i1), .val (.int i2), .val (.int i3), .val (.int i4), .val (.int (1 : Int32)), .val (.int (3 : Int32)), .val (.ref a36), .val (.ref a37), .unset, .unset] [.null, .null, .null, (.ref ft), (.ref ft)])
        refine hs.go (fun _ kk_ => XS.aload X38.here hx rfl (hb hby at_33) rfl rfl kk_) ?_
        show G T38 (mkF m 35 #[.val (.int i1), .val (.int i2), .val (.int i3), .val (.int i4), .val (.int (1 : Int32)), .val (.int (3 : Int32)), .val (.ref a36), .val (.ref a37), .unset, .unset] [(.ref a36), .null, .null, .null, (.ref ft), (.ref ft)])
        refine hs.go (fun _ kk_ => XS.aload X38.here hx rfl (hb hby at_35) rfl rfl kk_) ?_
        show G T38 (mkF m 37 #[.val (.int i1), .val (.int i2), .val (.int i3), .val (.int i4), .val (.int (1 : Int32)), .val (.int (3 : Int32)), .val (.ref a36), .val (.ref a37), .unset, .unset] [(.ref a37), (.ref a36), .null, .null, .null, (.ref ft), (.ref ft)])
        refine rCallI hs X38 hx hZ (as' := [.null, .null, .null, (.ref a36), (.ref a37)]) Jn.stb (rm8 l Z a0 hw [] ((Jn Z [])) Jn.stb ft a36 a37 h38 n0 Z0 E_ft g_ft F_words_ft F_wordsBeforeCurrency_ft F_wordsAfterCurrency_ft F_signsBefore_ft F_signsAfter_ft) rfl hown (hw _ (List.mem_of_getElem? (i := 40) rfl)) (hw _ (List.mem_of_getElem? (i := 41) rfl)) (hw _ (List.mem_of_getElem? (i := 39) rfl)) (hw _ (List.mem_of_getElem? (i := 42) rfl)) hy_8 rfl (by rw [hml]; rfl) [(.ref ft)] (lenOf pd_8 rfl) rfl 1 (by show 2 * 0 + _ ≤ _; exact Nat.le_of_eq rfl) (hb hby at_37) (by decide) (by decide) (by decide) (by decide) (fun r39 T39 h39 vm39 X39 q39 => ?_)
        obtain ⟨rfl, Kc39, E_ft, F_signsBefore_ft, F_signsAfter_ft, hj39⟩ := q39
        have X39 := X39 _ hj39
        have O := O.keep Kc39 (allS g_ft all0)
        have E_a36 := E_a36.keep Kc39
        have F_value_a36 := F_value_a36.keep Kc39 (ninS ne_a36_ft nin0)
        have V_d36 := V_d36.keep Kc39 (ninS ne_d36_ft nin0)
        have E_a37 := E_a37.keep Kc39
        have F_value_a37 := F_value_a37.keep Kc39 (ninS ne_a37_ft nin0)
        have V_d37 := V_d37.keep Kc39 (ninS ne_d37_ft nin0)
        have Z0 := Nat.le_trans Z0 Kc39.1
        show G T39 (mkF m 40 #[.val (.int i1), .val (.int i2), .val (.int i3), .val (.int i4), .val (.int (1 : Int32)), .val (.int (3 : Int32)), .val (.ref a36), .val (.ref a37), .unset, .unset] [(.ref ft)])
        refine hs.go (fun _ kk_ => XS.astore X39.here hx rfl (hb hby at_40) rfl rfl (l' := #[.val (.int i1), .val (.int i2), .val (.int i3), .val (.int i4), .val (.int (1 : Int32)), .val (.int (3 : Int32)), .val (.ref a36), .val (.ref a37), .val (.ref ft), .unset]) rfl kk_) ?_
        show G T39 (mkF m 42 #[.val (.int i1), .val (.int i2), .val (.int i3), .val (.int i4), .val (.int (1 : Int32)), .val (.int (3 : Int32)), .val (.ref a36), .val (.ref a37), .val (.ref ft), .unset] [])
        refine hs.go (fun _ kk_ => XS.iload X39.here hx rfl (hb hby at_42) rfl  kk_) ?_
        show G T39 (mkF m 44 #[.val (.int i1), .val (.int i2), .val (.int i3), .val (.int i4), .val (.int (1 : Int32)), .val (.int (3 : Int32)), .val (.ref a36), .val (.ref a37), .val (.ref ft), .unset] [(.int (1 : Int32))])
        refine hs.go (fun _ kk_ => XS.ifYes X39.here hx rfl (pc0 := 44) (pc' := 52) rfl (hb hby at_44) rfl ((if0 _ _).trans (feq ((by decide) : ¬ ((1 : Int32) = (0 : Int32)))).2) (by decide) (by decide) kk_) ?_
        show G T39 (mkF m 52 #[.val (.int i1), .val (.int i2), .val (.int i3), .val (.int i4), .val (.int (1 : Int32)), .val (.int (3 : Int32)), .val (.ref a36), .val (.ref a37), .val (.ref ft), .unset] [])
        refine hs.go (fun _ kk_ => XS.iconst X39.here hx rfl (hb hby at_52) kk_) ?_
        show G T39 (mkF m 53 #[.val (.int i1), .val (.int i2), .val (.int i3), .val (.int i4), .val (.int (1 : Int32)), .val (.int (3 : Int32)), .val (.ref a36), .val (.ref a37), .val (.ref ft), .unset] [(.int (1 : Int32))])
        refine hs.go (fun _ kk_ => XS.goto X39.here hx rfl (pc0 := 53) (pc' := 57) rfl (hb hby at_53) (by decide) (by decide) kk_) ?_
        show G T39 (mkF m 57 #[.val (.int i1), .val (.int i2), .val (.int i3), .val (.int i4), .val (.int (1 : Int32)), .val (.int (3 : Int32)), .val (.ref a36), .val (.ref a37), .val (.ref ft), .unset] [(.int (1 : Int32))])
        refine hs.go (fun _ kk_ => XS.istore X39.here hx rfl (hb hby at_57) rfl (l' := #[.val (.int i1), .val (.int i2), .val (.int i3), .val (.int i4), .val (.int (1 : Int32)), .val (.int (3 : Int32)), .val (.ref a36), .val (.ref a37), .val (.ref ft), .val (.int (1 : Int32))]) rfl kk_) ?_
        show G T39 (mkF m 59 #[.val (.int i1), .val (.int i2), .val (.int i3), .val (.int i4), .val (.int (1 : Int32)), .val (.int (3 : Int32)), .val (.ref a36), .val (.ref a37), .val (.ref ft), .val (.int (1 : Int32))] [])
        refine hs.go (fun _ kk_ => XS.aload X39.here hx rfl (hb hby at_59) rfl rfl kk_) ?_
        show G T39 (mkF m 61 #[.val (.int i1), .val (.int i2), .val (.int i3), .val (.int i4), .val (.int (1 : Int32)), .val (.int (3 : Int32)), .val (.ref a36), .val (.ref a37), .val (.ref ft), .val (.int (1 : Int32))] [(.ref ft)])
        refine rCallV hs X39 hx hZ (as' := []) Jn.stb (rm10 l Z a0 hw [] ((Jn Z [])) Jn.stb ft a36 a37 d36 d37 kd36 kd37 (1 : Int32) (3 : Int32) vd36 vd37 h39 n0 Z0 F_signsBefore_ft F_signsAfter_ft E_a36 F_value_a36 V_d36 E_a37 F_value_a37 V_d37) E_ft hown (hw _ (List.mem_of_getElem? (i := 59) rfl)) (hw _ (List.mem_of_getElem? (i := 60) rfl)) (hw _ (List.mem_of_getElem? (i := 62) rfl)) (hw _ (List.mem_of_getElem? (i := 61) rfl)) (hw _ (List.mem_of_getElem? (i := 39) rfl)) (hw _ (List.mem_of_getElem? (i := 63) rfl)) hy_10 rfl (by rw [hml]; rfl) [] (lenOf pd_6 rfl) rfl 0 (by show 2 * 0 + _ ≤ _; exact Nat.le_of_eq rfl) (hb hby at_61) (by decide) (by decide) (by decide) (by decide) (fun r40 T40 h40 vm40 X40 q40 => ?_)
        obtain ⟨rfl, qh40, hj40⟩ := q40
        have X40 := X40 _ hj40
        rw [qh40] at X40
        show G T40 (mkF m 64 #[.val (.int i1), .val (.int i2), .val (.int i3), .val (.int i4), .val (.int (1 : Int32)), .val (.int (3 : Int32)), .val (.ref a36), .val (.ref a37), .val (.ref ft), .val (.int (1 : Int32))] [(.int (fws (1 : Int32) (3 : Int32)))])
        refine hs.go (fun _ kk_ => XS.iload X40.here hx rfl (hb hby at_64) rfl  kk_) ?_
        show G T40 (mkF m 66 #[.val (.int i1), .val (.int i2), .val (.int i3), .val (.int i4), .val (.int (1 : Int32)), .val (.int (3 : Int32)), .val (.ref a36), .val (.ref a37), .val (.ref ft), .val (.int (1 : Int32))] [(.int (1 : Int32)), (.int (fws (1 : Int32) (3 : Int32)))])
        refine hs.go (fun _ kk_ => XS.icmpNo X40.here hx rfl (hb hby at_66) rfl (teq ((by decide) : (fws (1 : Int32) (3 : Int32)) = (1 : Int32))).2 kk_) ?_
        show G T40 (mkF m 69 #[.val (.int i1), .val (.int i2), .val (.int i3), .val (.int i4), .val (.int (1 : Int32)), .val (.int (3 : Int32)), .val (.ref a36), .val (.ref a37), .val (.ref ft), .val (.int (1 : Int32))] [])
        refine hs.go (fun _ kk_ => XS.iconst X40.here hx rfl (hb hby at_69) kk_) ?_
        show G T40 (mkF m 70 #[.val (.int i1), .val (.int i2), .val (.int i3), .val (.int i4), .val (.int (1 : Int32)), .val (.int (3 : Int32)), .val (.ref a36), .val (.ref a37), .val (.ref ft), .val (.int (1 : Int32))] [(.int (1 : Int32))])
        refine hs.go (fun _ kk_ => XS.goto X40.here hx rfl (pc0 := 70) (pc' := 74) rfl (hb hby at_70) (by decide) (by decide) kk_) ?_
        show G T40 (mkF m 74 #[.val (.int i1), .val (.int i2), .val (.int i3), .val (.int i4), .val (.int (1 : Int32)), .val (.int (3 : Int32)), .val (.ref a36), .val (.ref a37), .val (.ref ft), .val (.int (1 : Int32))] [(.int (1 : Int32))])
        exact rRetN fin Jn.stb X40 hx (by decide) (by decide) hret (by simp) (hb hby at_74) (z' := (1 : Int32)) (by decide) (fun vm' hj => rfl)
  · subst e_
    show G s₁ (mkF m 5 #[.val (.int i1), .val (.int i2), .val (.int i3), .val (.int i4), .val (.int (2 : Int32)), .unset, .unset, .unset, .unset, .unset] [])
    refine hs.go (fun _ kk_ => XS.iloadN X0.here hx rfl (hb hby at_5) rfl  kk_) ?_
    show G s₁ (mkF m 6 #[.val (.int i1), .val (.int i2), .val (.int i3), .val (.int i4), .val (.int (2 : Int32)), .unset, .unset, .unset, .unset, .unset] [(.int i3)])
    refine hs.go (fun _ kk_ => XS.iconst X0.here hx rfl (hb hby at_6) kk_) ?_
    show G s₁ (mkF m 7 #[.val (.int i1), .val (.int i2), .val (.int i3), .val (.int i4), .val (.int (2 : Int32)), .unset, .unset, .unset, .unset, .unset] [(.int (3 : Int32)), (.int i3)])
    refine hs.go (fun _ kk_ => XS.iand X0.here hx rfl (hb hby at_7) rfl kk_) ?_
    show G s₁ (mkF m 8 #[.val (.int i1), .val (.int i2), .val (.int i3), .val (.int i4), .val (.int (2 : Int32)), .unset, .unset, .unset, .unset, .unset] [(.int (i3 &&& (3 : Int32)))])
    refine nameIt (P := fun zz_ : Int32 => G s₁ (mkF m 8 #[.val (.int i1), .val (.int i2), .val (.int i3), .val (.int i4), .val (.int (2 : Int32)), .unset, .unset, .unset, .unset, .unset] [(.int zz_)])) (i3 &&& (3 : Int32)) (fun na hna => ?_)
    show G s₁ (mkF m 8 #[.val (.int i1), .val (.int i2), .val (.int i3), .val (.int i4), .val (.int (2 : Int32)), .unset, .unset, .unset, .unset, .unset] [(.int na)])
    refine hs.go (fun _ kk_ => XS.istore X0.here hx rfl (hb hby at_8) rfl (l' := #[.val (.int i1), .val (.int i2), .val (.int i3), .val (.int i4), .val (.int (2 : Int32)), .val (.int na), .unset, .unset, .unset, .unset]) rfl kk_) ?_
    show G s₁ (mkF m 10 #[.val (.int i1), .val (.int i2), .val (.int i3), .val (.int i4), .val (.int (2 : Int32)), .val (.int na), .unset, .unset, .unset, .unset] [])
    rcases own_m3 hna with e_ | e_ | e_ | e_
    · subst e_
      show G s₁ (mkF m 10 #[.val (.int i1), .val (.int i2), .val (.int i3), .val (.int i4), .val (.int (2 : Int32)), .val (.int (0 : Int32)), .unset, .unset, .unset, .unset] [])
      refine hs.go (fun _ kk_ => XS.iload X0.here hx rfl (hb hby at_10) rfl  kk_) ?_
      show G s₁ (mkF m 12 #[.val (.int i1), .val (.int i2), .val (.int i3), .val (.int i4), .val (.int (2 : Int32)), .val (.int (0 : Int32)), .unset, .unset, .unset, .unset] [(.int (2 : Int32))])
      refine hs.go (fun _ kk_ => XS.iloadN X0.here hx rfl (hb hby at_12) rfl  kk_) ?_
      show G s₁ (mkF m 13 #[.val (.int i1), .val (.int i2), .val (.int i3), .val (.int i4), .val (.int (2 : Int32)), .val (.int (0 : Int32)), .unset, .unset, .unset, .unset] [(.int i2), (.int (2 : Int32))])
      refine rCallS hs X0 hx hZ (as' := [(.int (2 : Int32)), (.int i2)]) Jn.stb (tx_2 l Z a0 hw [] ((Jn Z [])) Jn.stb i2 h0 n0 Z0 O cw S0 hcw) hown (hw _ (List.mem_of_getElem? (i := 0) rfl)) (hw _ (List.mem_of_getElem? (i := 1) rfl)) (hw _ (List.mem_of_getElem? (i := 2) rfl)) (hw _ (List.mem_of_getElem? (i := 3) rfl)) hy_1 rfl (by rw [hml]; rfl) [] (lenOf pd_7 rfl) rfl 0 (by show 2 * 0 + _ ≤ _; exact Nat.le_of_eq rfl) (hb hby at_13) (by decide) (by decide) (by decide) (by decide) (fun r41 T41 h41 vm41 X41 q41 => ?_)
      obtain ⟨a41, d41, kd41, vd41, rfl, Kc41, E_a41, F_value_a41, V_d41, hj41⟩ := q41
      have X41 := X41 _ hj41
      have O := O.keep Kc41 all0
      have Z0 := Nat.le_trans Z0 Kc41.1
      show G T41 (mkF m 16 #[.val (.int i1), .val (.int i2), .val (.int i3), .val (.int i4), .val (.int (2 : Int32)), .val (.int (0 : Int32)), .unset, .unset, .unset, .unset] [(.ref a41)])
      refine hs.go (fun _ kk_ => XS.astore X41.here hx rfl (hb hby at_16) rfl rfl (l' := #[.val (.int i1), .val (.int i2), .val (.int i3), .val (.int i4), .val (.int (2 : Int32)), .val (.int (0 : Int32)), .val (.ref a41), .unset, .unset, .unset]) rfl kk_) ?_
      show G T41 (mkF m 18 #[.val (.int i1), .val (.int i2), .val (.int i3), .val (.int i4), .val (.int (2 : Int32)), .val (.int (0 : Int32)), .val (.ref a41), .unset, .unset, .unset] [])
      refine hs.go (fun _ kk_ => XS.iload X41.here hx rfl (hb hby at_18) rfl  kk_) ?_
      show G T41 (mkF m 20 #[.val (.int i1), .val (.int i2), .val (.int i3), .val (.int i4), .val (.int (2 : Int32)), .val (.int (0 : Int32)), .val (.ref a41), .unset, .unset, .unset] [(.int (0 : Int32))])
      refine hs.go (fun _ kk_ => XS.iloadN X41.here hx rfl (hb hby at_20) rfl  kk_) ?_
      show G T41 (mkF m 21 #[.val (.int i1), .val (.int i2), .val (.int i3), .val (.int i4), .val (.int (2 : Int32)), .val (.int (0 : Int32)), .val (.ref a41), .unset, .unset, .unset] [(.int i4), (.int (0 : Int32))])
      refine rCallS hs X41 hx hZ (as' := [(.int (0 : Int32)), (.int i4)]) Jn.stb (tx_f l Z a0 hw [] i4 h41 n0 Z0 O HC HW) hown (hw _ (List.mem_of_getElem? (i := 0) rfl)) (hw _ (List.mem_of_getElem? (i := 1) rfl)) (hw _ (List.mem_of_getElem? (i := 2) rfl)) (hw _ (List.mem_of_getElem? (i := 3) rfl)) hy_1 rfl (by rw [hml]; rfl) [] (lenOf pd_7 rfl) rfl 0 (by show 2 * 0 + _ ≤ _; exact Nat.le_of_eq rfl) (hb hby at_21) (by decide) (by decide) (by decide) (by decide) (fun r42 T42 h42 vm42 X42 q42 => ?_)
      obtain ⟨a42, aL, bL, kL, rfl, Kc42, E_a42, F_value_a42, E_aL, F_value_aL, F_coder_aL, V_bL, hj42⟩ := q42
      have X42 := X42 _ hj42
      have O := O.keep Kc42 all0
      have E_a41 := E_a41.keep Kc42
      have F_value_a41 := F_value_a41.keep Kc42 nin0
      have V_d41 := V_d41.keep Kc42 nin0
      have Z0 := Nat.le_trans Z0 Kc42.1
      show G T42 (mkF m 24 #[.val (.int i1), .val (.int i2), .val (.int i3), .val (.int i4), .val (.int (2 : Int32)), .val (.int (0 : Int32)), .val (.ref a41), .unset, .unset, .unset] [(.ref a42)])
      refine hs.go (fun _ kk_ => XS.astore X42.here hx rfl (hb hby at_24) rfl rfl (l' := #[.val (.int i1), .val (.int i2), .val (.int i3), .val (.int i4), .val (.int (2 : Int32)), .val (.int (0 : Int32)), .val (.ref a41), .val (.ref a42), .unset, .unset]) rfl kk_) ?_
      show G T42 (mkF m 26 #[.val (.int i1), .val (.int i2), .val (.int i3), .val (.int i4), .val (.int (2 : Int32)), .val (.int (0 : Int32)), .val (.ref a41), .val (.ref a42), .unset, .unset] [])
      as_aux_lemma =>
        refine rNewO hs X42 hx hZ hown (hw _ (List.mem_of_getElem? (i := 37) rfl)) (hw _ (List.mem_of_getElem? (i := 38) rfl)) (hw _ (List.mem_of_getElem? (i := 39) rfl)) rfl (hb hby at_26) (by decide) (by decide) (fun T43 h43 ft g43 X43 E43 E_ft D43 => ?_)
        have g_ft : n0 ≤ ft := by rw [g43]; exact Z0
        have Z0 := Nat.le_trans Z0 E43.1
        have ne_a41_ft : a41 ≠ ft := Nat.ne_of_lt (Nat.lt_of_lt_of_le E_a41.lt (Nat.le_of_eq g43.symm))
        have ne_d41_ft : d41 ≠ ft := Nat.ne_of_lt (Nat.lt_of_lt_of_le V_d41.lt (Nat.le_of_eq g43.symm))
        have ne_a42_ft : a42 ≠ ft := Nat.ne_of_lt (Nat.lt_of_lt_of_le E_a42.lt (Nat.le_of_eq g43.symm))
        have ne_aL_ft : aL ≠ ft := Nat.ne_of_lt (Nat.lt_of_lt_of_le E_aL.lt (Nat.le_of_eq g43.symm))
        have ne_bL_ft : bL ≠ ft := Nat.ne_of_lt (Nat.lt_of_lt_of_le V_bL.lt (Nat.le_of_eq g43.symm))
        have O := O.ext E43
        have E_a41 := E_a41.ext E43
        have F_value_a41 := F_value_a41.ext E43
        have V_d41 := V_d41.ext E43
        have E_a42 := E_a42.ext E43
        have F_value_a42 := F_value_a42.ext E43
        have E_aL := E_aL.ext E43
        have F_value_aL := F_value_aL.ext E43
        have F_coder_aL := F_coder_aL.ext E43
        have V_bL := V_bL.ext E43
        have F_words_ft : Fld Z h43 ft "com/example/farthing/farthing/format/FormText" "words" "Ljava/util/Set;" .null := D43 (Or.inr (hw _ (List.mem_of_getElem? (i := 50) rfl))) (ty := (.object "java/util/Set")) (by decide)
        have F_wordsBeforeCurrency_ft : Fld Z h43 ft "com/example/farthing/farthing/format/FormText" "wordsBeforeCurrency" "Ljava/util/Set;" .null := D43 (Or.inr (hw _ (List.mem_of_getElem? (i := 52) rfl))) (ty := (.object "java/util/Set")) (by decide)
        have F_wordsAfterCurrency_ft : Fld Z h43 ft "com/example/farthing/farthing/format/FormText" "wordsAfterCurrency" "Ljava/util/Set;" .null := D43 (Or.inr (hw _ (List.mem_of_getElem? (i := 54) rfl))) (ty := (.object "java/util/Set")) (by decide)
        have F_signsBefore_ft : Fld Z h43 ft "com/example/farthing/farthing/format/FormText" "signsBefore" "Ljava/lang/String;" .null := D43 (Or.inr (hw _ (List.mem_of_getElem? (i := 56) rfl))) (ty := (.object "java/lang/String")) (by decide)
        have F_signsAfter_ft : Fld Z h43 ft "com/example/farthing/farthing/format/FormText" "signsAfter" "Ljava/lang/String;" .null := D43 (Or.inr (hw _ (List.mem_of_getElem? (i := 58) rfl))) (ty := (.object "java/lang/String")) (by decide)
        show G T43 (mkF m 29 #[.val (.int i1), .val (.int i2), .val (.int i3), .val (.int i4), .val (.int (2 : Int32)), .val (.int (0 : Int32)), .val (.ref a41), .val (.ref a42), .unset, .unset] [(.ref ft)])
        refine hs.go (fun _ kk_ => XS.dup X43.here hx rfl (hb hby at_29) rfl rfl kk_) ?_
        show G T43 (mkF m 30 #[.val (.int i1), .val (.int i2), .val (.int i3), .val (.int i4), .val (.int (2 : Int32)), .val (.int (0 : Int32)), .val (.ref a41), .val (.ref a42), .unset, .unset] [(.ref ft), (.ref ft)])
        refine hs.go (fun _ kk_ => XS.aconstNull X43.here hx rfl (hb hby at_30) kk_) ?_
        show G T43 (mkF m 31 #[.val (.int i1), .val (.int i2), .val (.int i3), .val (.int i4), .val (.int (2 : Int32)), .val (.int (0 : Int32)), .val (.ref a41), .val (.ref a42), .unset, .unset] [.null, (.ref ft), (.ref ft)])
        refine hs.go (fun _ kk_ => XS.aconstNull X43.here hx rfl (hb hby at_31) kk_) ?_
        show G T43 (mkF m 32 #[.val (.int i1), .val (.int i2), .val (.int i3), .val (.int i4), .val (.int (2 : Int32)), .val (.int (0 : Int32)), .val (.ref a41), .val (.ref a42), .unset, .unset] [.null, .null, (.ref ft), (.ref ft)])
        refine hs.go (fun _ kk_ => XS.aconstNull X43.here hx rfl (hb hby at_32) kk_) ?_
        show G T43 (mkF m 33 #[.val (.int i1), .val (.int i2), .val (.int i3), .val (.int i4), .val (.int (2 : Int32)), .val (.int (0 : Int32)), .val (.ref a41), .val (.ref a42), .unset, .unset] [.null, .null, .null, (.ref ft), (.ref ft)])
        refine hs.go (fun _ kk_ => XS.aload X43.here hx rfl (hb hby at_33) rfl rfl kk_) ?_
        show G T43 (mkF m 35 #[.val (.int i1), .val (.int i2), .val (.int i3), .val (.int i4), .val (.int (2 : Int32)), .val (.int (0 : Int32)), .val (.ref a41), .val (.ref a42), .unset, .unset] [(.ref a41), .null, .null, .null, (.ref ft), (.ref ft)])
        refine hs.go (fun _ kk_ => XS.aload X43.here hx rfl (hb hby at_35) rfl rfl kk_) ?_
        show G T43 (mkF m 37 #[.val (.int i1), .val (.int i2), .val (.int i3), .val (.int i4), .val (.int (2 : Int32)), .val (.int (0 : Int32)), .val (.ref a41), .val (.ref a42), .unset, .unset] [(.ref a42), (.ref a41), .null, .null, .null, (.ref ft), (.ref ft)])
        refine rCallI hs X43 hx hZ (as' := [.null, .null, .null, (.ref a41), (.ref a42)]) Jl.stb (rm8 l Z a0 hw [] ((Jl Z "java/lang/String" 7 aL)) Jl.stb ft a41 a42 h43 n0 Z0 E_ft g_ft F_words_ft F_wordsBeforeCurrency_ft F_wordsAfterCurrency_ft F_signsBefore_ft F_signsAfter_ft) rfl hown (hw _ (List.mem_of_getElem? (i := 40) rfl)) (hw _ (List.mem_of_getElem? (i := 41) rfl)) (hw _ (List.mem_of_getElem? (i := 39) rfl)) (hw _ (List.mem_of_getElem? (i := 42) rfl)) hy_8 rfl (by rw [hml]; rfl) [(.ref ft)] (lenOf pd_8 rfl) rfl 1 (by show 2 * 0 + _ ≤ _; exact Nat.le_of_eq rfl) (hb hby at_37) (by decide) (by decide) (by decide) (by decide) (fun r44 T44 h44 vm44 X44 q44 => ?_)
        obtain ⟨rfl, Kc44, E_ft, F_signsBefore_ft, F_signsAfter_ft, hj44⟩ := q44
        have X44 := X44 _ hj44
        have O := O.keep Kc44 (allS g_ft all0)
        have E_a41 := E_a41.keep Kc44
        have F_value_a41 := F_value_a41.keep Kc44 (ninS ne_a41_ft nin0)
        have V_d41 := V_d41.keep Kc44 (ninS ne_d41_ft nin0)
        have E_a42 := E_a42.keep Kc44
        have F_value_a42 := F_value_a42.keep Kc44 (ninS ne_a42_ft nin0)
        have E_aL := E_aL.keep Kc44
        have F_value_aL := F_value_aL.keep Kc44 (ninS ne_aL_ft nin0)
        have F_coder_aL := F_coder_aL.keep Kc44 (ninS ne_aL_ft nin0)
        have V_bL := V_bL.keep Kc44 (ninS ne_bL_ft nin0)
        have Z0 := Nat.le_trans Z0 Kc44.1
        show G T44 (mkF m 40 #[.val (.int i1), .val (.int i2), .val (.int i3), .val (.int i4), .val (.int (2 : Int32)), .val (.int (0 : Int32)), .val (.ref a41), .val (.ref a42), .unset, .unset] [(.ref ft)])
        refine hs.go (fun _ kk_ => XS.astore X44.here hx rfl (hb hby at_40) rfl rfl (l' := #[.val (.int i1), .val (.int i2), .val (.int i3), .val (.int i4), .val (.int (2 : Int32)), .val (.int (0 : Int32)), .val (.ref a41), .val (.ref a42), .val (.ref ft), .unset]) rfl kk_) ?_
        show G T44 (mkF m 42 #[.val (.int i1), .val (.int i2), .val (.int i3), .val (.int i4), .val (.int (2 : Int32)), .val (.int (0 : Int32)), .val (.ref a41), .val (.ref a42), .val (.ref ft), .unset] [])
        refine hs.go (fun _ kk_ => XS.iload X44.here hx rfl (hb hby at_42) rfl  kk_) ?_
        show G T44 (mkF m 44 #[.val (.int i1), .val (.int i2), .val (.int i3), .val (.int i4), .val (.int (2 : Int32)), .val (.int (0 : Int32)), .val (.ref a41), .val (.ref a42), .val (.ref ft), .unset] [(.int (2 : Int32))])
        refine hs.go (fun _ kk_ => XS.ifYes X44.here hx rfl (pc0 := 44) (pc' := 52) rfl (hb hby at_44) rfl ((if0 _ _).trans (feq ((by decide) : ¬ ((2 : Int32) = (0 : Int32)))).2) (by decide) (by decide) kk_) ?_
        show G T44 (mkF m 52 #[.val (.int i1), .val (.int i2), .val (.int i3), .val (.int i4), .val (.int (2 : Int32)), .val (.int (0 : Int32)), .val (.ref a41), .val (.ref a42), .val (.ref ft), .unset] [])
        refine hs.go (fun _ kk_ => XS.iconst X44.here hx rfl (hb hby at_52) kk_) ?_
        show G T44 (mkF m 53 #[.val (.int i1), .val (.int i2), .val (.int i3), .val (.int i4), .val (.int (2 : Int32)), .val (.int (0 : Int32)), .val (.ref a41), .val (.ref a42), .val (.ref ft), .unset] [(.int (1 : Int32))])
        refine hs.go (fun _ kk_ => XS.goto X44.here hx rfl (pc0 := 53) (pc' := 57) rfl (hb hby at_53) (by decide) (by decide) kk_) ?_
        show G T44 (mkF m 57 #[.val (.int i1), .val (.int i2), .val (.int i3), .val (.int i4), .val (.int (2 : Int32)), .val (.int (0 : Int32)), .val (.ref a41), .val (.ref a42), .val (.ref ft), .unset] [(.int (1 : Int32))])
        refine hs.go (fun _ kk_ => XS.istore X44.here hx rfl (hb hby at_57) rfl (l' := #[.val (.int i1), .val (.int i2), .val (.int i3), .val (.int i4), .val (.int (2 : Int32)), .val (.int (0 : Int32)), .val (.ref a41), .val (.ref a42), .val (.ref ft), .val (.int (1 : Int32))]) rfl kk_) ?_
        show G T44 (mkF m 59 #[.val (.int i1), .val (.int i2), .val (.int i3), .val (.int i4), .val (.int (2 : Int32)), .val (.int (0 : Int32)), .val (.ref a41), .val (.ref a42), .val (.ref ft), .val (.int (1 : Int32))] [])
        refine hs.go (fun _ kk_ => XS.aload X44.here hx rfl (hb hby at_59) rfl rfl kk_) ?_
        show G T44 (mkF m 61 #[.val (.int i1), .val (.int i2), .val (.int i3), .val (.int i4), .val (.int (2 : Int32)), .val (.int (0 : Int32)), .val (.ref a41), .val (.ref a42), .val (.ref ft), .val (.int (1 : Int32))] [(.ref ft)])
        refine rCallV hs X44 hx hZ (as' := []) Jl.stb (rm10 l Z a0 hw [] ((Jl Z "java/lang/String" 7 aL)) Jl.stb ft a41 a42 d41 bL kd41 kL (2 : Int32) (0 : Int32) vd41 [] h44 n0 Z0 F_signsBefore_ft F_signsAfter_ft E_a41 F_value_a41 V_d41 E_a42 F_value_a42 V_bL) E_ft hown (hw _ (List.mem_of_getElem? (i := 59) rfl)) (hw _ (List.mem_of_getElem? (i := 60) rfl)) (hw _ (List.mem_of_getElem? (i := 62) rfl)) (hw _ (List.mem_of_getElem? (i := 61) rfl)) (hw _ (List.mem_of_getElem? (i := 39) rfl)) (hw _ (List.mem_of_getElem? (i := 63) rfl)) hy_10 rfl (by rw [hml]; rfl) [] (lenOf pd_6 rfl) rfl 0 (by show 2 * 0 + _ ≤ _; exact Nat.le_of_eq rfl) (hb hby at_61) (by decide) (by decide) (by decide) (by decide) (fun r45 T45 h45 vm45 X45 q45 => ?_)
        obtain ⟨rfl, qh45, hj45⟩ := q45
        have X45 := X45 _ hj45
        rw [qh45] at X45
        show G T45 (mkF m 64 #[.val (.int i1), .val (.int i2), .val (.int i3), .val (.int i4), .val (.int (2 : Int32)), .val (.int (0 : Int32)), .val (.ref a41), .val (.ref a42), .val (.ref ft), .val (.int (1 : Int32))] [(.int (fws (2 : Int32) (0 : Int32)))])
        refine hs.go (fun _ kk_ => XS.iload X45.here hx rfl (hb hby at_64) rfl  kk_) ?_
        show G T45 (mkF m 66 #[.val (.int i1), .val (.int i2), .val (.int i3), .val (.int i4), .val (.int (2 : Int32)), .val (.int (0 : Int32)), .val (.ref a41), .val (.ref a42), .val (.ref ft), .val (.int (1 : Int32))] [(.int (1 : Int32)), (.int (fws (2 : Int32) (0 : Int32)))])
        refine hs.go (fun _ kk_ => XS.icmpNo X45.here hx rfl (hb hby at_66) rfl (teq ((by decide) : (fws (2 : Int32) (0 : Int32)) = (1 : Int32))).2 kk_) ?_
        show G T45 (mkF m 69 #[.val (.int i1), .val (.int i2), .val (.int i3), .val (.int i4), .val (.int (2 : Int32)), .val (.int (0 : Int32)), .val (.ref a41), .val (.ref a42), .val (.ref ft), .val (.int (1 : Int32))] [])
        refine hs.go (fun _ kk_ => XS.iconst X45.here hx rfl (hb hby at_69) kk_) ?_
        show G T45 (mkF m 70 #[.val (.int i1), .val (.int i2), .val (.int i3), .val (.int i4), .val (.int (2 : Int32)), .val (.int (0 : Int32)), .val (.ref a41), .val (.ref a42), .val (.ref ft), .val (.int (1 : Int32))] [(.int (1 : Int32))])
        refine hs.go (fun _ kk_ => XS.goto X45.here hx rfl (pc0 := 70) (pc' := 74) rfl (hb hby at_70) (by decide) (by decide) kk_) ?_
        show G T45 (mkF m 74 #[.val (.int i1), .val (.int i2), .val (.int i3), .val (.int i4), .val (.int (2 : Int32)), .val (.int (0 : Int32)), .val (.ref a41), .val (.ref a42), .val (.ref ft), .val (.int (1 : Int32))] [(.int (1 : Int32))])
        exact rRetN fin Jl.stb X45 hx (by decide) (by decide) hret (by simp) (hb hby at_74) (z' := (1 : Int32)) (by decide) (fun vm' hj => rfl)
    · subst e_
      show G s₁ (mkF m 10 #[.val (.int i1), .val (.int i2), .val (.int i3), .val (.int i4), .val (.int (2 : Int32)), .val (.int (1 : Int32)), .unset, .unset, .unset, .unset] [])
      refine hs.go (fun _ kk_ => XS.iload X0.here hx rfl (hb hby at_10) rfl  kk_) ?_
      show G s₁ (mkF m 12 #[.val (.int i1), .val (.int i2), .val (.int i3), .val (.int i4), .val (.int (2 : Int32)), .val (.int (1 : Int32)), .unset, .unset, .unset, .unset] [(.int (2 : Int32))])
      refine hs.go (fun _ kk_ => XS.iloadN X0.here hx rfl (hb hby at_12) rfl  kk_) ?_
      show G s₁ (mkF m 13 #[.val (.int i1), .val (.int i2), .val (.int i3), .val (.int i4), .val (.int (2 : Int32)), .val (.int (1 : Int32)), .unset, .unset, .unset, .unset] [(.int i2), (.int (2 : Int32))])
      refine rCallS hs X0 hx hZ (as' := [(.int (2 : Int32)), (.int i2)]) Jn.stb (tx_2 l Z a0 hw [] ((Jn Z [])) Jn.stb i2 h0 n0 Z0 O cw S0 hcw) hown (hw _ (List.mem_of_getElem? (i := 0) rfl)) (hw _ (List.mem_of_getElem? (i := 1) rfl)) (hw _ (List.mem_of_getElem? (i := 2) rfl)) (hw _ (List.mem_of_getElem? (i := 3) rfl)) hy_1 rfl (by rw [hml]; rfl) [] (lenOf pd_7 rfl) rfl 0 (by show 2 * 0 + _ ≤ _; exact Nat.le_of_eq rfl) (hb hby at_13) (by decide) (by decide) (by decide) (by decide) (fun r46 T46 h46 vm46 X46 q46 => ?_)
      obtain ⟨a46, d46, kd46, vd46, rfl, Kc46, E_a46, F_value_a46, V_d46, hj46⟩ := q46
      have X46 := X46 _ hj46
      have O := O.keep Kc46 all0
      have Z0 := Nat.le_trans Z0 Kc46.1
      show G T46 (mkF m 16 #[.val (.int i1), .val (.int i2), .val (.int i3), .val (.int i4), .val (.int (2 : Int32)), .val (.int (1 : Int32)), .unset, .unset, .unset, .unset] [(.ref a46)])
      refine hs.go (fun _ kk_ => XS.astore X46.here hx rfl (hb hby at_16) rfl rfl (l' := #[.val (.int i1), .val (.int i2), .val (.int i3), .val (.int i4), .val (.int (2 : Int32)), .val (.int (1 : Int32)), .val (.ref a46), .unset, .unset, .unset]) rfl kk_) ?_
      show G T46 (mkF m 18 #[.val (.int i1), .val (.int i2), .val (.int i3), .val (.int i4), .val (.int (2 : Int32)), .val (.int (1 : Int32)), .val (.ref a46), .unset, .unset, .unset] [])
      refine hs.go (fun _ kk_ => XS.iload X46.here hx rfl (hb hby at_18) rfl  kk_) ?_
      show G T46 (mkF m 20 #[.val (.int i1), .val (.int i2), .val (.int i3), .val (.int i4), .val (.int (2 : Int32)), .val (.int (1 : Int32)), .val (.ref a46), .unset, .unset, .unset] [(.int (1 : Int32))])
      refine hs.go (fun _ kk_ => XS.iloadN X46.here hx rfl (hb hby at_20) rfl  kk_) ?_
      show G T46 (mkF m 21 #[.val (.int i1), .val (.int i2), .val (.int i3), .val (.int i4), .val (.int (2 : Int32)), .val (.int (1 : Int32)), .val (.ref a46), .unset, .unset, .unset] [(.int i4), (.int (1 : Int32))])
      refine rCallS hs X46 hx hZ (as' := [(.int (1 : Int32)), (.int i4)]) Jn.stb (tx_1 l Z a0 hw [] ((Jn Z [])) Jn.stb i4 h46 n0 Z0 O cw S0 hcw) hown (hw _ (List.mem_of_getElem? (i := 0) rfl)) (hw _ (List.mem_of_getElem? (i := 1) rfl)) (hw _ (List.mem_of_getElem? (i := 2) rfl)) (hw _ (List.mem_of_getElem? (i := 3) rfl)) hy_1 rfl (by rw [hml]; rfl) [] (lenOf pd_7 rfl) rfl 0 (by show 2 * 0 + _ ≤ _; exact Nat.le_of_eq rfl) (hb hby at_21) (by decide) (by decide) (by decide) (by decide) (fun r47 T47 h47 vm47 X47 q47 => ?_)
      obtain ⟨a47, d47, kd47, vd47, rfl, Kc47, E_a47, F_value_a47, V_d47, hj47⟩ := q47
      have X47 := X47 _ hj47
      have O := O.keep Kc47 all0
      have E_a46 := E_a46.keep Kc47
      have F_value_a46 := F_value_a46.keep Kc47 nin0
      have V_d46 := V_d46.keep Kc47 nin0
      have Z0 := Nat.le_trans Z0 Kc47.1
      show G T47 (mkF m 24 #[.val (.int i1), .val (.int i2), .val (.int i3), .val (.int i4), .val (.int (2 : Int32)), .val (.int (1 : Int32)), .val (.ref a46), .unset, .unset, .unset] [(.ref a47)])
      refine hs.go (fun _ kk_ => XS.astore X47.here hx rfl (hb hby at_24) rfl rfl (l' := #[.val (.int i1), .val (.int i2), .val (.int i3), .val (.int i4), .val (.int (2 : Int32)), .val (.int (1 : Int32)), .val (.ref a46), .val (.ref a47), .unset, .unset]) rfl kk_) ?_
      show G T47 (mkF m 26 #[.val (.int i1), .val (.int i2), .val (.int i3), .val (.int i4), .val (.int (2 : Int32)), .val (.int (1 : Int32)), .val (.ref a46), .val (.ref a47), .unset, .unset] [])
      as_aux_lemma =>
        refine rNewO hs X47 hx hZ hown (hw _ (List.mem_of_getElem? (i := 37) rfl)) (hw _ (List.mem_of_getElem? (i := 38) rfl)) (hw _ (List.mem_of_getElem? (i := 39) rfl)) rfl (hb hby at_26) (by decide) (by decide) (fun T48 h48 ft g48 X48 E48 E_ft D48 => ?_)
        have g_ft : n0 ≤ ft := by rw [g48]; exact Z0
        have Z0 := Nat.le_trans Z0 E48.1
        have ne_a46_ft : a46 ≠ ft := Nat.ne_of_lt (Nat.lt_of_lt_of_le E_a46.lt (Nat.le_of_eq g48.symm))
        have ne_d46_ft : d46 ≠ ft := Nat.ne_of_lt (Nat.lt_of_lt_of_le V_d46.lt (Nat.le_of_eq g48.symm))
        have ne_a47_ft : a47 ≠ ft := Nat.ne_of_lt (Nat.lt_of_lt_of_le E_a47.lt (Nat.le_of_eq g48.symm))
        have ne_d47_ft : d47 ≠ ft := Nat.ne_of_lt (Nat.lt_of_lt_of_le V_d47.lt (Nat.le_of_eq g48.symm))
        have O := O.ext E48
        have E_a46 := E_a46.ext E48
        have F_value_a46 := F_value_a46.ext E48
        have V_d46 := V_d46.ext E48
        have E_a47 := E_a47.ext E48
        have F_value_a47 := F_value_a47.ext E48
        have V_d47 := V_d47.ext E48
        have F_words_ft : Fld Z h48 ft "com/example/farthing/farthing/format/FormText" "words" "Ljava/util/Set;" .null := D48 (Or.inr (hw _ (List.mem_of_getElem? (i := 50) rfl))) (ty := (.object "java/util/Set")) (by decide)
        have F_wordsBeforeCurrency_ft : Fld Z h48 ft "com/example/farthing/farthing/format/FormText" "wordsBeforeCurrency" "Ljava/util/Set;" .null := D48 (Or.inr (hw _ (List.mem_of_getElem? (i := 52) rfl))) (ty := (.object "java/util/Set")) (by decide)
        have F_wordsAfterCurrency_ft : Fld Z h48 ft "com/example/farthing/farthing/format/FormText" "wordsAfterCurrency" "Ljava/util/Set;" .null := D48 (Or.inr (hw _ (List.mem_of_getElem? (i := 54) rfl))) (ty := (.object "java/util/Set")) (by decide)
        have F_signsBefore_ft : Fld Z h48 ft "com/example/farthing/farthing/format/FormText" "signsBefore" "Ljava/lang/String;" .null := D48 (Or.inr (hw _ (List.mem_of_getElem? (i := 56) rfl))) (ty := (.object "java/lang/String")) (by decide)
        have F_signsAfter_ft : Fld Z h48 ft "com/example/farthing/farthing/format/FormText" "signsAfter" "Ljava/lang/String;" .null := D48 (Or.inr (hw _ (List.mem_of_getElem? (i := 58) rfl))) (ty := (.object "java/lang/String")) (by decide)
        show G T48 (mkF m 29 #[.val (.int i1), .val (.int i2), .val (.int i3), .val (.int i4), .val (.int (2 : Int32)), .val (.int (1 : Int32)), .val (.ref a46), .val (.ref a47), .unset, .unset] [(.ref ft)])
        refine hs.go (fun _ kk_ => XS.dup X48.here hx rfl (hb hby at_29) rfl rfl kk_) ?_
        show G T48 (mkF m 30 #[.val (.int i1), .val (.int i2), .val (.int i3), .val (.int i4), .val (.int (2 : Int32)), .val (.int (1 : Int32)), .val (.ref a46), .val (.ref a47), .unset, .unset] [(.ref ft), (.ref ft)])
        refine hs.go (fun _ kk_ => XS.aconstNull X48.here hx rfl (hb hby at_30) kk_) ?_
        show G T48 (mkF m 31 #[.val (.int i1), .val (.int i2), .val (.int i3), .val (.int i4), .val (.int (2 : Int32)), .val (.int (1 : Int32)), .val (.ref a46), .val (.ref a47), .unset, .unset] [.null, (.ref ft), (.ref ft)])
        refine hs.go (fun _ kk_ => XS.aconstNull X48.here hx rfl (hb hby at_31) kk_) ?_
        show G T48 (mkF m 32 #[.val (.int i1), .val (.int i2), .val (.int i3), .val (.int i4), .val (.int (2 : Int32)), .val (.int (1 : Int32)), .val (.ref a46), .val (.ref a47), .unset, .unset] [.null, .null, (.ref ft), (.ref ft)])
        refine hs.go (fun _ kk_ => XS.aconstNull X48.here hx rfl (hb hby at_32) kk_) ?_
        show G T48 (mkF m 33 #[.val (.int i1), .val (.int i2), .val (.int i3), .val (.int i4), .val (.int (2 : Int32)), .val (.int (1 : Int32)), .val (.ref a46), .val (.ref a47), .unset, .unset] [.null, .null, .null, (.ref ft), (.ref ft)])
        refine hs.go (fun _ kk_ => XS.aload X48.here hx rfl (hb hby at_33) rfl rfl kk_) ?_
        show G T48 (mkF m 35 #[.val (.int i1), .val (.int i2), .val (.int i3), .val (.int i4), .val (.int (2 : Int32)), .val (.int (1 : Int32)), .val (.ref a46), .val (.ref a47), .unset, .unset] [(.ref a46), .null, .null, .null, (.ref ft), (.ref ft)])
        refine hs.go (fun _ kk_ => XS.aload X48.here hx rfl (hb hby at_35) rfl rfl kk_) ?_
        show G T48 (mkF m 37 #[.val (.int i1), .val (.int i2), .val (.int i3), .val (.int i4), .val (.int (2 : Int32)), .val (.int (1 : Int32)), .val (.ref a46), .val (.ref a47), .unset, .unset] [(.ref a47), (.ref a46), .null, .null, .null, (.ref ft), (.ref ft)])
        refine rCallI hs X48 hx hZ (as' := [.null, .null, .null, (.ref a46), (.ref a47)]) Jn.stb (rm8 l Z a0 hw [] ((Jn Z [])) Jn.stb ft a46 a47 h48 n0 Z0 E_ft g_ft F_words_ft F_wordsBeforeCurrency_ft F_wordsAfterCurrency_ft F_signsBefore_ft F_signsAfter_ft) rfl hown (hw _ (List.mem_of_getElem? (i := 40) rfl)) (hw _ (List.mem_of_getElem? (i := 41) rfl)) (hw _ (List.mem_of_getElem? (i := 39) rfl)) (hw _ (List.mem_of_getElem? (i := 42) rfl)) hy_8 rfl (by rw [hml]; rfl) [(.ref ft)] (lenOf pd_8 rfl) rfl 1 (by show 2 * 0 + _ ≤ _; exact Nat.le_of_eq rfl) (hb hby at_37) (by decide) (by decide) (by decide) (by decide) (fun r49 T49 h49 vm49 X49 q49 => ?_)
        obtain ⟨rfl, Kc49, E_ft, F_signsBefore_ft, F_signsAfter_ft, hj49⟩ := q49
        have X49 := X49 _ hj49
        have O := O.keep Kc49 (allS g_ft all0)
        have E_a46 := E_a46.keep Kc49
        have F_value_a46 := F_value_a46.keep Kc49 (ninS ne_a46_ft nin0)
        have V_d46 := V_d46.keep Kc49 (ninS ne_d46_ft nin0)
        have E_a47 := E_a47.keep Kc49
        have F_value_a47 := F_value_a47.keep Kc49 (ninS ne_a47_ft nin0)
        have V_d47 := V_d47.keep Kc49 (ninS ne_d47_ft nin0)
        have Z0 := Nat.le_trans Z0 Kc49.1
        show G T49 (mkF m 40 #[.val (.int i1), .val (.int i2), .val (.int i3), .val (.int i4), .val (.int (2 : Int32)), .val (.int (1 : Int32)), .val (.ref a46), .val (.ref a47), .unset, .unset] [(.ref ft)])
        refine hs.go (fun _ kk_ => XS.astore X49.here hx rfl (hb hby at_40) rfl rfl (l' := #[.val (.int i1), .val (.int i2), .val (.int i3), .val (.int i4), .val (.int (2 : Int32)), .val (.int (1 : Int32)), .val (.ref a46), .val (.ref a47), .val (.ref ft), .unset]) rfl kk_) ?_
        show G T49 (mkF m 42 #[.val (.int i1), .val (.int i2), .val (.int i3), .val (.int i4), .val (.int (2 : Int32)), .val (.int (1 : Int32)), .val (.ref a46), .val (.ref a47), .val (.ref ft), .unset] [])
        refine hs.go (fun _ kk_ => XS.iload X49.here hx rfl (hb hby at_42) rfl  kk_) ?_
        show G T49 (mkF m 44 #[.val (.int i1), .val (.int i2), .val (.int i3), .val (.int i4), .val (.int (2 : Int32)), .val (.int (1 : Int32)), .val (.ref a46), .val (.ref a47), .val (.ref ft), .unset] [(.int (2 : Int32))])
        refine hs.go (fun _ kk_ => XS.ifYes X49.here hx rfl (pc0 := 44) (pc' := 52) rfl (hb hby at_44) rfl ((if0 _ _).trans (feq ((by decide) : ¬ ((2 : Int32) = (0 : Int32)))).2) (by decide) (by decide) kk_) ?_
        show G T49 (mkF m 52 #[.val (.int i1), .val (.int i2), .val (.int i3), .val (.int i4), .val (.int (2 : Int32)), .val (.int (1 : Int32)), .val (.ref a46), .val (.ref a47), .val (.ref ft), .unset] [])
        refine hs.go (fun _ kk_ => XS.iconst X49.here hx rfl (hb hby at_52) kk_) ?_
        show G T49 (mkF m 53 #[.val (.int i1), .val (.int i2), .val (.int i3), .val (.int i4), .val (.int (2 : Int32)), .val (.int (1 : Int32)), .val (.ref a46), .val (.ref a47), .val (.ref ft), .unset] [(.int (1 : Int32))])
        refine hs.go (fun _ kk_ => XS.goto X49.here hx rfl (pc0 := 53) (pc' := 57) rfl (hb hby at_53) (by decide) (by decide) kk_) ?_
        show G T49 (mkF m 57 #[.val (.int i1), .val (.int i2), .val (.int i3), .val (.int i4), .val (.int (2 : Int32)), .val (.int (1 : Int32)), .val (.ref a46), .val (.ref a47), .val (.ref ft), .unset] [(.int (1 : Int32))])
        refine hs.go (fun _ kk_ => XS.istore X49.here hx rfl (hb hby at_57) rfl (l' := #[.val (.int i1), .val (.int i2), .val (.int i3), .val (.int i4), .val (.int (2 : Int32)), .val (.int (1 : Int32)), .val (.ref a46), .val (.ref a47), .val (.ref ft), .val (.int (1 : Int32))]) rfl kk_) ?_
        show G T49 (mkF m 59 #[.val (.int i1), .val (.int i2), .val (.int i3), .val (.int i4), .val (.int (2 : Int32)), .val (.int (1 : Int32)), .val (.ref a46), .val (.ref a47), .val (.ref ft), .val (.int (1 : Int32))] [])
        refine hs.go (fun _ kk_ => XS.aload X49.here hx rfl (hb hby at_59) rfl rfl kk_) ?_
        show G T49 (mkF m 61 #[.val (.int i1), .val (.int i2), .val (.int i3), .val (.int i4), .val (.int (2 : Int32)), .val (.int (1 : Int32)), .val (.ref a46), .val (.ref a47), .val (.ref ft), .val (.int (1 : Int32))] [(.ref ft)])
        refine rCallV hs X49 hx hZ (as' := []) Jn.stb (rm10 l Z a0 hw [] ((Jn Z [])) Jn.stb ft a46 a47 d46 d47 kd46 kd47 (2 : Int32) (1 : Int32) vd46 vd47 h49 n0 Z0 F_signsBefore_ft F_signsAfter_ft E_a46 F_value_a46 V_d46 E_a47 F_value_a47 V_d47) E_ft hown (hw _ (List.mem_of_getElem? (i := 59) rfl)) (hw _ (List.mem_of_getElem? (i := 60) rfl)) (hw _ (List.mem_of_getElem? (i := 62) rfl)) (hw _ (List.mem_of_getElem? (i := 61) rfl)) (hw _ (List.mem_of_getElem? (i := 39) rfl)) (hw _ (List.mem_of_getElem? (i := 63) rfl)) hy_10 rfl (by rw [hml]; rfl) [] (lenOf pd_6 rfl) rfl 0 (by show 2 * 0 + _ ≤ _; exact Nat.le_of_eq rfl) (hb hby at_61) (by decide) (by decide) (by decide) (by decide) (fun r50 T50 h50 vm50 X50 q50 => ?_)
        obtain ⟨rfl, qh50, hj50⟩ := q50
        have X50 := X50 _ hj50
        rw [qh50] at X50
        show G T50 (mkF m 64 #[.val (.int i1), .val (.int i2), .val (.int i3), .val (.int i4), .val (.int (2 : Int32)), .val (.int (1 : Int32)), .val (.ref a46), .val (.ref a47), .val (.ref ft), .val (.int (1 : Int32))] [(.int (fws (2 : Int32) (1 : Int32)))])
        refine hs.go (fun _ kk_ => XS.iload X50.here hx rfl (hb hby at_64) rfl  kk_) ?_
        show G T50 (mkF m 66 #[.val (.int i1), .val (.int i2), .val (.int i3), .val (.int i4), .val (.int (2 : Int32)), .val (.int (1 : Int32)), .val (.ref a46), .val (.ref a47), .val (.ref ft), .val (.int (1 : Int32))] [(.int (1 : Int32)), (.int (fws (2 : Int32) (1 : Int32)))])
        refine hs.go (fun _ kk_ => XS.icmpNo X50.here hx rfl (hb hby at_66) rfl (teq ((by decide) : (fws (2 : Int32) (1 : Int32)) = (1 : Int32))).2 kk_) ?_
        show G T50 (mkF m 69 #[.val (.int i1), .val (.int i2), .val (.int i3), .val (.int i4), .val (.int (2 : Int32)), .val (.int (1 : Int32)), .val (.ref a46), .val (.ref a47), .val (.ref ft), .val (.int (1 : Int32))] [])
        refine hs.go (fun _ kk_ => XS.iconst X50.here hx rfl (hb hby at_69) kk_) ?_
        show G T50 (mkF m 70 #[.val (.int i1), .val (.int i2), .val (.int i3), .val (.int i4), .val (.int (2 : Int32)), .val (.int (1 : Int32)), .val (.ref a46), .val (.ref a47), .val (.ref ft), .val (.int (1 : Int32))] [(.int (1 : Int32))])
        refine hs.go (fun _ kk_ => XS.goto X50.here hx rfl (pc0 := 70) (pc' := 74) rfl (hb hby at_70) (by decide) (by decide) kk_) ?_
        show G T50 (mkF m 74 #[.val (.int i1), .val (.int i2), .val (.int i3), .val (.int i4), .val (.int (2 : Int32)), .val (.int (1 : Int32)), .val (.ref a46), .val (.ref a47), .val (.ref ft), .val (.int (1 : Int32))] [(.int (1 : Int32))])
        exact rRetN fin Jn.stb X50 hx (by decide) (by decide) hret (by simp) (hb hby at_74) (z' := (1 : Int32)) (by decide) (fun vm' hj => rfl)
    · subst e_
      show G s₁ (mkF m 10 #[.val (.int i1), .val (.int i2), .val (.int i3), .val (.int i4), .val (.int (2 : Int32)), .val (.int (2 : Int32)), .unset, .unset, .unset, .unset] [])
      refine hs.go (fun _ kk_ => XS.iload X0.here hx rfl (hb hby at_10) rfl  kk_) ?_
      show G s₁ (mkF m 12 #[.val (.int i1), .val (.int i2), .val (.int i3), .val (.int i4), .val (.int (2 : Int32)), .val (.int (2 : Int32)), .unset, .unset, .unset, .unset] [(.int (2 : Int32))])
      refine hs.go (fun _ kk_ => XS.iloadN X0.here hx rfl (hb hby at_12) rfl  kk_) ?_
      show G s₁ (mkF m 13 #[.val (.int i1), .val (.int i2), .val (.int i3), .val (.int i4), .val (.int (2 : Int32)), .val (.int (2 : Int32)), .unset, .unset, .unset, .unset] [(.int i2), (.int (2 : Int32))])
      refine rCallS hs X0 hx hZ (as' := [(.int (2 : Int32)), (.int i2)]) Jn.stb (tx_2 l Z a0 hw [] ((Jn Z [])) Jn.stb i2 h0 n0 Z0 O cw S0 hcw) hown (hw _ (List.mem_of_getElem? (i := 0) rfl)) (hw _ (List.mem_of_getElem? (i := 1) rfl)) (hw _ (List.mem_of_getElem? (i := 2) rfl)) (hw _ (List.mem_of_getElem? (i := 3) rfl)) hy_1 rfl (by rw [hml]; rfl) [] (lenOf pd_7 rfl) rfl 0 (by show 2 * 0 + _ ≤ _; exact Nat.le_of_eq rfl) (hb hby at_13) (by decide) (by decide) (by decide) (by decide) (fun r51 T51 h51 vm51 X51 q51 => ?_)
      obtain ⟨a51, d51, kd51, vd51, rfl, Kc51, E_a51, F_value_a51, V_d51, hj51⟩ := q51
      have X51 := X51 _ hj51
      have O := O.keep Kc51 all0
      have Z0 := Nat.le_trans Z0 Kc51.1
      show G T51 (mkF m 16 #[.val (.int i1), .val (.int i2), .val (.int i3), .val (.int i4), .val (.int (2 : Int32)), .val (.int (2 : Int32)), .unset, .unset, .unset, .unset] [(.ref a51)])
      refine hs.go (fun _ kk_ => XS.astore X51.here hx rfl (hb hby at_16) rfl rfl (l' := #[.val (.int i1), .val (.int i2), .val (.int i3), .val (.int i4), .val (.int (2 : Int32)), .val (.int (2 : Int32)), .val (.ref a51), .unset, .unset, .unset]) rfl kk_) ?_
      show G T51 (mkF m 18 #[.val (.int i1), .val (.int i2), .val (.int i3), .val (.int i4), .val (.int (2 : Int32)), .val (.int (2 : Int32)), .val (.ref a51), .unset, .unset, .unset] [])
      refine hs.go (fun _ kk_ => XS.iload X51.here hx rfl (hb hby at_18) rfl  kk_) ?_
      show G T51 (mkF m 20 #[.val (.int i1), .val (.int i2), .val (.int i3), .val (.int i4), .val (.int (2 : Int32)), .val (.int (2 : Int32)), .val (.ref a51), .unset, .unset, .unset] [(.int (2 : Int32))])
      refine hs.go (fun _ kk_ => XS.iloadN X51.here hx rfl (hb hby at_20) rfl  kk_) ?_
      show G T51 (mkF m 21 #[.val (.int i1), .val (.int i2), .val (.int i3), .val (.int i4), .val (.int (2 : Int32)), .val (.int (2 : Int32)), .val (.ref a51), .unset, .unset, .unset] [(.int i4), (.int (2 : Int32))])
      refine rCallS hs X51 hx hZ (as' := [(.int (2 : Int32)), (.int i4)]) Jn.stb (tx_2 l Z a0 hw [] ((Jn Z [])) Jn.stb i4 h51 n0 Z0 O cw S0 hcw) hown (hw _ (List.mem_of_getElem? (i := 0) rfl)) (hw _ (List.mem_of_getElem? (i := 1) rfl)) (hw _ (List.mem_of_getElem? (i := 2) rfl)) (hw _ (List.mem_of_getElem? (i := 3) rfl)) hy_1 rfl (by rw [hml]; rfl) [] (lenOf pd_7 rfl) rfl 0 (by show 2 * 0 + _ ≤ _; exact Nat.le_of_eq rfl) (hb hby at_21) (by decide) (by decide) (by decide) (by decide) (fun r52 T52 h52 vm52 X52 q52 => ?_)
      obtain ⟨a52, d52, kd52, vd52, rfl, Kc52, E_a52, F_value_a52, V_d52, hj52⟩ := q52
      have X52 := X52 _ hj52
      have O := O.keep Kc52 all0
      have E_a51 := E_a51.keep Kc52
      have F_value_a51 := F_value_a51.keep Kc52 nin0
      have V_d51 := V_d51.keep Kc52 nin0
      have Z0 := Nat.le_trans Z0 Kc52.1
      show G T52 (mkF m 24 #[.val (.int i1), .val (.int i2), .val (.int i3), .val (.int i4), .val (.int (2 : Int32)), .val (.int (2 : Int32)), .val (.ref a51), .unset, .unset, .unset] [(.ref a52)])
      refine hs.go (fun _ kk_ => XS.astore X52.here hx rfl (hb hby at_24) rfl rfl (l' := #[.val (.int i1), .val (.int i2), .val (.int i3), .val (.int i4), .val (.int (2 : Int32)), .val (.int (2 : Int32)), .val (.ref a51), .val (.ref a52), .unset, .unset]) rfl kk_) ?_
      show G T52 (mkF m 26 #[.val (.int i1), .val (.int i2), .val (.int i3), .val (.int i4), .val (.int (2 : Int32)), .val (.int (2 : Int32)), .val (.ref a51), .val (.ref a52), .unset, .unset] [])
      as_aux_lemma =>
        refine rNewO hs X52 hx hZ hown (hw _ (List.mem_of_getElem? (i := 37) rfl)) (hw _ (List.mem_of_getElem? (i := 38) rfl)) (hw _ (List.mem_of_getElem? (i := 39) rfl)) rfl (hb hby at_26) (by decide) (by decide) (fun T53 h53 ft g53 X53 E53 E_ft D53 => ?_)
        have g_ft : n0 ≤ ft := by rw [g53]; exact Z0
        have Z0 := Nat.le_trans Z0 E53.1
        have ne_a51_ft : a51 ≠ ft := Nat.ne_of_lt (Nat.lt_of_lt_of_le E_a51.lt (Nat.le_of_eq g53.symm))
        have ne_d51_ft : d51 ≠ ft := Nat.ne_of_lt (Nat.lt_of_lt_of_le V_d51.lt (Nat.le_of_eq g53.symm))
        have ne_a52_ft : a52 ≠ ft := Nat.ne_of_lt (Nat.lt_of_lt_of_le E_a52.lt (Nat.le_of_eq g53.symm))
        have ne_d52_ft : d52 ≠ ft := Nat.ne_of_lt (Nat.lt_of_lt_of_le V_d52.lt (Nat.le_of_eq g53.symm))
        have O := O.ext E53
        have E_a51 := E_a51.ext E53
        have F_value_a51 := F_value_a51.ext E53
        have V_d51 := V_d51.ext E53
        have E_a52 := E_a52.ext E53
        have F_value_a52 := F_value_a52.ext E53
        have V_d52 := V_d52.ext E53
        have F_words_ft : Fld Z h53 ft "com/example/farthing/farthing/format/FormText" "words" "Ljava/util/Set;" .null := D53 (Or.inr (hw _ (List.mem_of_getElem? (i := 50) rfl))) (ty := (.object "java/util/Set")) (by decide)
        have F_wordsBeforeCurrency_ft : Fld Z h53 ft "com/example/farthing/farthing/format/FormText" "wordsBeforeCurrency" "Ljava/util/Set;" .null := D53 (Or.inr (hw _ (List.mem_of_getElem? (i := 52) rfl))) (ty := (.object "java/util/Set")) (by decide)
        have F_wordsAfterCurrency_ft : Fld Z h53 ft "com/example/farthing/farthing/format/FormText" "wordsAfterCurrency" "Ljava/util/Set;" .null := D53 (Or.inr (hw _ (List.mem_of_getElem? (i := 54) rfl))) (ty := (.object "java/util/Set")) (by decide)
        have F_signsBefore_ft : Fld Z h53 ft "com/example/farthing/farthing/format/FormText" "signsBefore" "Ljava/lang/String;" .null := D53 (Or.inr (hw _ (List.mem_of_getElem? (i := 56) rfl))) (ty := (.object "java/lang/String")) (by decide)
        have F_signsAfter_ft : Fld Z h53 ft "com/example/farthing/farthing/format/FormText" "signsAfter" "Ljava/lang/String;" .null := D53 (Or.inr (hw _ (List.mem_of_getElem? (i := 58) rfl))) (ty := (.object "java/lang/String")) (by decide)
        show G T53 (mkF m 29 #[.val (.int i1), .val (.int i2), .val (.int i3), .val (.int i4), .val (.int (2 : Int32)), .val (.int (2 : Int32)), .val (.ref a51), .val (.ref a52), .unset, .unset] [(.ref ft)])
        refine hs.go (fun _ kk_ => XS.dup X53.here hx rfl (hb hby at_29) rfl rfl kk_) ?_
        show G T53 (mkF m 30 #[.val (.int i1), .val (.int i2), .val (.int i3), .val (.int i4), .val (.int (2 : Int32)), .val (.int (2 : Int32)), .val (.ref a51), .val (.ref a52), .unset, .unset] [(.ref ft), (.ref ft)])
        refine hs.go (fun _ kk_ => XS.aconstNull X53.here hx rfl (hb hby at_30) kk_) ?_
        show G T53 (mkF m 31 #[.val (.int i1), .val (.int i2), .val (.int i3), .val (.int i4), .val (.int (2 : Int32)), .val (.int (2 : Int32)), .val (.ref a51), .val (.ref a52), .unset, .unset] [.null, (.ref ft), (.ref ft)])
        refine hs.go (fun _ kk_ => XS.aconstNull X53.here hx rfl (hb hby at_31) kk_) ?_
        show G T53 (mkF m 32 #[.val (.int i1), .val (.int i2), .val (.int i3), .val (.int i4), .val (.int (2 : Int32)), .val (.int (2 : Int32)), .val (.ref a51), .val (.ref a52), .unset, .unset] [.null, .null, (.ref ft), (.ref ft)])
        refine hs.go (fun _ kk_ => XS.aconstNull X53.here hx rfl (hb hby at_32) kk_) ?_
        show G T53 (mkF m 33 #[.val (.int i1), .val (.int i2), .val (.int i3), .val (.int i4), .val (.int (2 : Int32)), .val (.int (2 : Int32)), .val (.ref a51), .val (.ref a52), .unset, .unset] [.null, .null, .null, (.ref ft), (.ref ft)])
        refine hs.go (fun _ kk_ => XS.aload X53.here hx rfl (hb hby at_33) rfl rfl kk_) ?_
        show G T53 (mkF m 35 #[.val (.int i1), .val (.int i2), .val (.int i3), .val (.int i4), .val (.int (2 : Int32)), .val (.int (2 : Int32)), .val (.ref a51), .val (.ref a52), .unset, .unset] [(.ref a51), .null, .null, .null, (.ref ft), (.ref ft)])
        refine hs.go (fun _ kk_ => XS.aload X53.here hx rfl (hb hby at_35) rfl rfl kk_) ?_
        show G T53 (mkF m 37 #[.val (.int i1), .val (.int i2), .val (.int i3), .val (.int i4), .val (.int (2 : Int32)), .val (.int (2 : Int32)), .val (.ref a51), .val (.ref a52), .unset, .unset] [(.ref a52), (.ref a51), .null, .null, .null, (.ref ft), (.ref ft)])
        refine rCallI hs X53 hx hZ (as' := [.null, .null, .null, (.ref a51), (.ref a52)]) Jn.stb (rm8 l Z a0 hw [] ((Jn Z [])) Jn.stb ft a51 a52 h53 n0 Z0 E_ft g_ft F_words_ft F_wordsBeforeCurrency_ft F_wordsAfterCurrency_ft F_signsBefore_ft F_signsAfter_ft) rfl hown (hw _ (List.mem_of_getElem? (i := 40) rfl)) (hw _ (List.mem_of_getElem? (i := 41) rfl)) (hw _ (List.mem_of_getElem? (i := 39) rfl)) (hw _ (List.mem_of_getElem? (i := 42) rfl)) hy_8 rfl (by rw [hml]; rfl) [(.ref ft)] (lenOf pd_8 rfl) rfl 1 (by show 2 * 0 + _ ≤ _; exact Nat.le_of_eq rfl) (hb hby at_37) (by decide) (by decide) (by decide) (by decide) (fun r54 T54 h54 vm54 X54 q54 => ?_)
        obtain ⟨rfl, Kc54, E_ft, F_signsBefore_ft, F_signsAfter_ft, hj54⟩ := q54
        have X54 := X54 _ hj54
        have O := O.keep Kc54 (allS g_ft all0)
        have E_a51 := E_a51.keep Kc54
        have F_value_a51 := F_value_a51.keep Kc54 (ninS ne_a51_ft nin0)
        have V_d51 := V_d51.keep Kc54 (ninS ne_d51_ft nin0)
        have E_a52 := E_a52.keep Kc54
        have F_value_a52 := F_value_a52.keep Kc54 (ninS ne_a52_ft nin0)
        have V_d52 := V_d52.keep Kc54 (ninS ne_d52_ft nin0)
        have Z0 := Nat.le_trans Z0 Kc54.1
        show G T54 (mkF m 40 #[.val (.int i1), .val (.int i2), .val (.int i3), .val (.int i4), .val (.int (2 : Int32)), .val (.int (2 : Int32)), .val (.ref a51), .val (.ref a52), .unset, .unset] [(.ref ft)])
        refine hs.go (fun _ kk_ => XS.astore X54.here hx rfl (hb hby at_40) rfl rfl (l' := #[.val (.int i1), .val (.int i2), .val (.int i3), .val (.int i4), .val (.int (2 : Int32)), .val (.int (2 : Int32)), .val (.ref a51), .val (.ref a52), .val (.ref ft), .unset]) rfl kk_) ?_
        show G T54 (mkF m 42 #[.val (.int i1), .val (.int i2), .val (.int i3), .val (.int i4), .val (.int (2 : Int32)), .val (.int (2 : Int32)), .val (.ref a51), .val (.ref a52), .val (.ref ft), .unset] [])
        refine hs.go (fun _ kk_ => XS.iload X54.here hx rfl (hb hby at_42) rfl  kk_) ?_
        show G T54 (mkF m 44 #[.val (.int i1), .val (.int i2), .val (.int i3), .val (.int i4), .val (.int (2 : Int32)), .val (.int (2 : Int32)), .val (.ref a51), .val (.ref a52), .val (.ref ft), .unset] [(.int (2 : Int32))])
        refine hs.go (fun _ kk_ => XS.ifYes X54.here hx rfl (pc0 := 44) (pc' := 52) rfl (hb hby at_44) rfl ((if0 _ _).trans (feq ((by decide) : ¬ ((2 : Int32) = (0 : Int32)))).2) (by decide) (by decide) kk_) ?_
        show G T54 (mkF m 52 #[.val (.int i1), .val (.int i2), .val (.int i3), .val (.int i4), .val (.int (2 : Int32)), .val (.int (2 : Int32)), .val (.ref a51), .val (.ref a52), .val (.ref ft), .unset] [])
        refine hs.go (fun _ kk_ => XS.iconst X54.here hx rfl (hb hby at_52) kk_) ?_
        show G T54 (mkF m 53 #[.val (.int i1), .val (.int i2), .val (.int i3), .val (.int i4), .val (.int (2 : Int32)), .val (.int (2 : Int32)), .val (.ref a51), .val (.ref a52), .val (.ref ft), .unset] [(.int (1 : Int32))])
        refine hs.go (fun _ kk_ => XS.goto X54.here hx rfl (pc0 := 53) (pc' := 57) rfl (hb hby at_53) (by decide) (by decide) kk_) ?_
        show G T54 (mkF m 57 #[.val (.int i1), .val (.int i2), .val (.int i3), .val (.int i4), .val (.int (2 : Int32)), .val (.int (2 : Int32)), .val (.ref a51), .val (.ref a52), .val (.ref ft), .unset] [(.int (1 : Int32))])
        refine hs.go (fun _ kk_ => XS.istore X54.here hx rfl (hb hby at_57) rfl (l' := #[.val (.int i1), .val (.int i2), .val (.int i3), .val (.int i4), .val (.int (2 : Int32)), .val (.int (2 : Int32)), .val (.ref a51), .val (.ref a52), .val (.ref ft), .val (.int (1 : Int32))]) rfl kk_) ?_
        show G T54 (mkF m 59 #[.val (.int i1), .val (.int i2), .val (.int i3), .val (.int i4), .val (.int (2 : Int32)), .val (.int (2 : Int32)), .val (.ref a51), .val (.ref a52), .val (.ref ft), .val (.int (1 : Int32))] [])
        refine hs.go (fun _ kk_ => XS.aload X54.here hx rfl (hb hby at_59) rfl rfl kk_) ?_
        show G T54 (mkF m 61 #[.val (.int i1), .val (.int i2), .val (.int i3), .val (.int i4), .val (.int (2 : Int32)), .val (.int (2 : Int32)), .val (.ref a51), .val (.ref a52), .val (.ref ft), .val (.int (1 : Int32))] [(.ref ft)])
        refine rCallV hs X54 hx hZ (as' := []) Jn.stb (rm10 l Z a0 hw [] ((Jn Z [])) Jn.stb ft a51 a52 d51 d52 kd51 kd52 (2 : Int32) (2 : Int32) vd51 vd52 h54 n0 Z0 F_signsBefore_ft F_signsAfter_ft E_a51 F_value_a51 V_d51 E_a52 F_value_a52 V_d52) E_ft hown (hw _ (List.mem_of_getElem? (i := 59) rfl)) (hw _ (List.mem_of_getElem? (i := 60) rfl)) (hw _ (List.mem_of_getElem? (i := 62) rfl)) (hw _ (List.mem_of_getElem? (i := 61) rfl)) (hw _ (List.mem_of_getElem? (i := 39) rfl)) (hw _ (List.mem_of_getElem? (i := 63) rfl)) hy_10 rfl (by rw [hml]; rfl) [] (lenOf pd_6 rfl) rfl 0 (by show 2 * 0 + _ ≤ _; exact Nat.le_of_eq rfl) (hb hby at_61) (by decide) (by decide) (by decide) (by decide) (fun r55 T55 h55 vm55 X55 q55 => ?_)
        obtain ⟨rfl, qh55, hj55⟩ := q55
        have X55 := X55 _ hj55
        rw [qh55] at X55
        show G T55 (mkF m 64 #[.val (.int i1), .val (.int i2), .val (.int i3), .val (.int i4), .val (.int (2 : Int32)), .val (.int (2 : Int32)), .val (.ref a51), .val (.ref a52), .val (.ref ft), .val (.int (1 : Int32))] [(.int (fws (2 : Int32) (2 : Int32)))])
        refine hs.go (fun _ kk_ => XS.iload X55.here hx rfl (hb hby at_64) rfl  kk_) ?_
        show G T55 (mkF m 66 #[.val (.int i1), .val (.int i2), .val (.int i3), .val (.int i4), .val (.int (2 : Int32)), .val (.int (2 : Int32)), .val (.ref a51), .val (.ref a52), .val (.ref ft), .val (.int (1 : Int32))] [(.int (1 : Int32)), (.int (fws (2 : Int32) (2 : Int32)))])
        refine hs.go (fun _ kk_ => XS.icmpNo X55.here hx rfl (hb hby at_66) rfl (teq ((by decide) : (fws (2 : Int32) (2 : Int32)) = (1 : Int32))).2 kk_) ?_
        show G T55 (mkF m 69 #[.val (.int i1), .val (.int i2), .val (.int i3), .val (.int i4), .val (.int (2 : Int32)), .val (.int (2 : Int32)), .val (.ref a51), .val (.ref a52), .val (.ref ft), .val (.int (1 : Int32))] [])
        refine hs.go (fun _ kk_ => XS.iconst X55.here hx rfl (hb hby at_69) kk_) ?_
        show G T55 (mkF m 70 #[.val (.int i1), .val (.int i2), .val (.int i3), .val (.int i4), .val (.int (2 : Int32)), .val (.int (2 : Int32)), .val (.ref a51), .val (.ref a52), .val (.ref ft), .val (.int (1 : Int32))] [(.int (1 : Int32))])
        refine hs.go (fun _ kk_ => XS.goto X55.here hx rfl (pc0 := 70) (pc' := 74) rfl (hb hby at_70) (by decide) (by decide) kk_) ?_
        show G T55 (mkF m 74 #[.val (.int i1), .val (.int i2), .val (.int i3), .val (.int i4), .val (.int (2 : Int32)), .val (.int (2 : Int32)), .val (.ref a51), .val (.ref a52), .val (.ref ft), .val (.int (1 : Int32))] [(.int (1 : Int32))])
        exact rRetN fin Jn.stb X55 hx (by decide) (by decide) hret (by simp) (hb hby at_74) (z' := (1 : Int32)) (by decide) (fun vm' hj => rfl)
    · subst e_
      show G s₁ (mkF m 10 #[.val (.int i1), .val (.int i2), .val (.int i3), .val (.int i4), .val (.int (2 : Int32)), .val (.int (3 : Int32)), .unset, .unset, .unset, .unset] [])
      refine hs.go (fun _ kk_ => XS.iload X0.here hx rfl (hb hby at_10) rfl  kk_) ?_
      show G s₁ (mkF m 12 #[.val (.int i1), .val (.int i2), .val (.int i3), .val (.int i4), .val (.int (2 : Int32)), .val (.int (3 : Int32)), .unset, .unset, .unset, .unset] [(.int (2 : Int32))])
      refine hs.go (fun _ kk_ => XS.iloadN X0.here hx rfl (hb hby at_12) rfl  kk_) ?_
      show G s₁ (mkF m 13 #[.val (.int i1), .val (.int i2), .val (.int i3), .val (.int i4), .val (.int (2 : Int32)), .val (.int (3 : Int32)), .unset, .unset, .unset, .unset] [(.int i2), (.int (2 : Int32))])
      refine rCallS hs X0 hx hZ (as' := [(.int (2 : Int32)), (.int i2)]) Jn.stb (tx_2 l Z a0 hw [] ((Jn Z [])) Jn.stb i2 h0 n0 Z0 O cw S0 hcw) hown (hw _ (List.mem_of_getElem? (i := 0) rfl)) (hw _ (List.mem_of_getElem? (i := 1) rfl)) (hw _ (List.mem_of_getElem? (i := 2) rfl)) (hw _ (List.mem_of_getElem? (i := 3) rfl)) hy_1 rfl (by rw [hml]; rfl) [] (lenOf pd_7 rfl) rfl 0 (by show 2 * 0 + _ ≤ _; exact Nat.le_of_eq rfl) (hb hby at_13) (by decide) (by decide) (by decide) (by decide) (fun r56 T56 h56 vm56 X56 q56 => ?_)
      obtain ⟨a56, d56, kd56, vd56, rfl, Kc56, E_a56, F_value_a56, V_d56, hj56⟩ := q56
      have X56 := X56 _ hj56
      have O := O.keep Kc56 all0
      have Z0 := Nat.le_trans Z0 Kc56.1
      show G T56 (mkF m 16 #[.val (.int i1), .val (.int i2), .val (.int i3), .val (.int i4), .val (.int (2 : Int32)), .val (.int (3 : Int32)), .unset, .unset, .unset, .unset] [(.ref a56)])
      refine hs.go (fun _ kk_ => XS.astore X56.here hx rfl (hb hby at_16) rfl rfl (l' := #[.val (.int i1), .val (.int i2), .val (.int i3), .val (.int i4), .val (.int (2 : Int32)), .val (.int (3 : Int32)), .val (.ref a56), .unset, .unset, .unset]) rfl kk_) ?_
      show G T56 (mkF m 18 #[.val (.int i1), .val (.int i2), .val (.int i3), .val (.int i4), .val (.int (2 : Int32)), .val (.int (3 : Int32)), .val (.ref a56), .unset, .unset, .unset] [])
      refine hs.go (fun _ kk_ => XS.iload X56.here hx rfl (hb hby at_18) rfl  kk_) ?_
      show G T56 (mkF m 20 #[.val (.int i1), .val (.int i2), .val (.int i3), .val (.int i4), .val (.int (2 : Int32)), .val (.int (3 : Int32)), .val (.ref a56), .unset, .unset, .unset] [(.int (3 : Int32))])
      refine hs.go (fun _ kk_ => XS.iloadN X56.here hx rfl (hb hby at_20) rfl  kk_) ?_
      show G T56 (mkF m 21 #[.val (.int i1), .val (.int i2), .val (.int i3), .val (.int i4), .val (.int (2 : Int32)), .val (.int (3 : Int32)), .val (.ref a56), .unset, .unset, .unset] [(.int i4), (.int (3 : Int32))])
      refine rCallS hs X56 hx hZ (as' := [(.int (3 : Int32)), (.int i4)]) Jn.stb (tx_3 l Z a0 hw [] ((Jn Z [])) Jn.stb i4 h56 n0 Z0 O cw S0 hcw) hown (hw _ (List.mem_of_getElem? (i := 0) rfl)) (hw _ (List.mem_of_getElem? (i := 1) rfl)) (hw _ (List.mem_of_getElem? (i := 2) rfl)) (hw _ (List.mem_of_getElem? (i := 3) rfl)) hy_1 rfl (by rw [hml]; rfl) [] (lenOf pd_7 rfl) rfl 0 (by show 2 * 0 + _ ≤ _; exact Nat.le_of_eq rfl) (hb hby at_21) (by decide) (by decide) (by decide) (by decide) (fun r57 T57 h57 vm57 X57 q57 => ?_)
      obtain ⟨a57, d57, kd57, vd57, rfl, Kc57, E_a57, F_value_a57, V_d57, hj57⟩ := q57
      have X57 := X57 _ hj57
      have O := O.keep Kc57 all0
      have E_a56 := E_a56.keep Kc57
      have F_value_a56 := F_value_a56.keep Kc57 nin0
      have V_d56 := V_d56.keep Kc57 nin0
      have Z0 := Nat.le_trans Z0 Kc57.1
      show G T57 (mkF m 24 #[.val (.int i1), .val (.int i2), .val (.int i3), .val (.int i4), .val (.int (2 : Int32)), .val (.int (3 : Int32)), .val (.ref a56), .unset, .unset, .unset] [(.ref a57)])
      refine hs.go (fun _ kk_ => XS.astore X57.here hx rfl (hb hby at_24) rfl rfl (l' := #[.val (.int i1), .val (.int i2), .val (.int i3), .val (.int i4), .val (.int (2 : Int32)), .val (.int (3 : Int32)), .val (.ref a56), .val (.ref a57), .unset, .unset]) rfl kk_) ?_
      show G T57 (mkF m 26 #[.val (.int i1), .val (.int i2), .val (.int i3), .val (.int i4), .val (.int (2 : Int32)), .val (.int (3 : Int32)), .val (.ref a56), .val (.ref a57), .unset, .unset] [])
      as_aux_lemma =>
        refine rNewO hs X57 hx hZ hown (hw _ (List.mem_of_getElem? (i := 37) rfl)) (hw _ (List.mem_of_getElem? (i := 38) rfl)) (hw _ (List.mem_of_getElem? (i := 39) rfl)) rfl (hb hby at_26) (by decide) (by decide) (fun T58 h58 ft g58 X58 E58 E_ft D58 => ?_)
        have g_ft : n0 ≤ ft := by rw [g58]; exact Z0
        have Z0 := Nat.le_trans Z0 E58.1
        have ne_a56_ft : a56 ≠ ft := Nat.ne_of_lt (Nat.lt_of_lt_of_le E_a56.lt (Nat.le_of_eq g58.symm))
        have ne_d56_ft : d56 ≠ ft := Nat.ne_of_lt (Nat.lt_of_lt_of_le V_d56.lt (Nat.le_of_eq g58.symm))
        have ne_a57_ft : a57 ≠ ft := Nat.ne_of_lt (Nat.lt_of_lt_of_le E_a57.lt (Nat.le_of_eq g58.symm))
        have ne_d57_ft : d57 ≠ ft := Nat.ne_of_lt (Nat.lt_of_lt_of_le V_d57.lt (Nat.le_of_eq g58.symm))
        have O := O.ext E58
        have E_a56 := E_a56.ext E58
        have F_value_a56 := F_value_a56.ext E58
        have V_d56 := V_d56.ext E58
        have E_a57 := E_a57.ext E58
        have F_value_a57 := F_value_a57.ext E58
        have V_d57 := V_d57.ext E58
        have F_words_ft : Fld Z h58 ft "com/example/farthing/farthing/format/FormText" "words" "Ljava/util/Set;" .null := D58 (Or.inr (hw _ (List.mem_of_getElem? (i := 50) rfl))) (ty := (.object "java/util/Set")) (by decide)
        have F_wordsBeforeCurrency_ft : Fld Z h58 ft "com/example/farthing/farthing/format/FormText" "wordsBeforeCurrency" "Ljava/util/Set;" .null := D58 (Or.inr (hw _ (List.mem_of_getElem? (i := 52) rfl))) (ty := (.object "java/util/Set")) (by decide)
        have F_wordsAfterCurrency_ft : Fld Z h58 ft "com/example/farthing/farthing/format/FormText" "wordsAfterCurrency" "Ljava/util/Set;" .null := D58 (Or.inr (hw _ (List.mem_of_getElem? (i := 54) rfl))) (ty := (.object "java/util/Set")) (by decide)
        have F_signsBefore_ft : Fld Z h58 ft "com/example/farthing/farthing/format/FormText" "signsBefore" "Ljava/lang/String;" .null := D58 (Or.inr (hw _ (List.mem_of_getElem? (i := 56) rfl))) (ty := (.object "java/lang/String")) (by decide)
        have F_signsAfter_ft : Fld Z h58 ft "com/example/farthing/farthing/format/FormText" "signsAfter" "Ljava/lang/String;" .null := D58 (Or.inr (hw _ (List.mem_of_getElem? (i := 58) rfl))) (ty := (.object "java/lang/String")) (by decide)
        show G T58 (mkF m 29 #[.val (.int i1), .val (.int i2), .val (.int i3), .val (.int i4), .val (.int (2 : Int32)), .val (.int (3 : Int32)), .val (.ref a56), .val (.ref a57), .unset, .unset] [(.ref ft)])
        refine hs.go (fun _ kk_ => XS.dup X58.here hx rfl (hb hby at_29) rfl rfl kk_) ?_
        show G T58 (mkF m 30 #[.val (.int i1), .val (.int i2), .val (.int i3), .val (.int i4), .val (.int (2 : Int32)), .val (.int (3 : Int32)), .val (.ref a56), .val (.ref a57), .unset, .unset] [(.ref ft), (.ref ft)])
        refine hs.go (fun _ kk_ => XS.aconstNull X58.here hx rfl (hb hby at_30) kk_) ?_
        show G T58 (mkF m 31 #[.val (.int i1), .val (.int i2), .val (.int i3), .val (.int i4), .val (.int (2 : Int32)), .val (.int (3 : Int32)), .val (.ref a56), .val (.ref a57), .unset, .unset] [.null, (.ref ft), (.ref ft)])
        refine hs.go (fun _ kk_ => XS.aconstNull X58.here hx rfl (hb hby at_31) kk_) ?_
        show G T58 (mkF m 32 #[.val (.int i1), .val (.int i2), .val (.int i3), .val (.int i4), .val (.int (2 : Int32)), .val (.int (3 : Int32)), .val (.ref a56), .val (.ref a57), .unset, .unset] [.null, .null, (.ref ft), (.ref ft)])
        refine hs.go (fun _ kk_ => XS.aconstNull X58.here hx rfl (hb hby at_32) kk_) ?_
        show G T58 (mkF m 33 #[.val (.int i1), .val (.int i2), .val (.int i3), .val (.int i4), .val (.int (2 : Int32)), .val (.int (3 : Int32)), .val (.ref a56), .val (.ref a57), .unset, .unset] [.null, .null, .null, (.ref ft), (.ref ft)])
        refine hs.go (fun _ kk_ => XS.aload X58.here hx rfl (hb hby at_33) rfl rfl kk_) ?_
        show G T58 (mkF m 35 #[.val (.int i1), .val (.int i2), .val (.int i3), .val (.int i4), .val (.int (2 : Int32)), .val (.int (3 : Int32)), .val (.ref a56), .val (.ref a57), .unset, .unset] [(.ref a56), .null, .null, .null, (.ref ft), (.ref ft)])
        refine hs.go (fun _ kk_ => XS.aload X58.here hx rfl (hb hby at_35) rfl rfl kk_) ?_
        show G T58 (mkF m 37 #[.val (.int i1), .val (.int i2), .val (.int i3), .val (.int i4), .val (.int (2 : Int32)), .val (.int (3 : Int32)), .val (.ref a56), .val (.ref a57), .unset, .unset] [(.ref a57), (.ref a56), .null, .null, .null, (.ref ft), (.ref ft)])
        refine rCallI hs X58 hx hZ (as' := [.null, .null, .null, (.ref a56), (.ref a57)]) Jn.stb (rm8 l Z a0 hw [] ((Jn Z [])) Jn.stb ft a56 a57 h58 n0 Z0 E_ft g_ft F_words_ft F_wordsBeforeCurrency_ft F_wordsAfterCurrency_ft F_signsBefore_ft F_signsAfter_ft) rfl hown (hw _ (List.mem_of_getElem? (i := 40) rfl)) (hw _ (List.mem_of_getElem? (i := 41) rfl)) (hw _ (List.mem_of_getElem? (i := 39) rfl)) (hw _ (List.mem_of_getElem? (i := 42) rfl)) hy_8 rfl (by rw [hml]; rfl) [(.ref ft)] (lenOf pd_8 rfl) rfl 1 (by show 2 * 0 + _ ≤ _; exact Nat.le_of_eq rfl) (hb hby at_37) (by decide) (by decide) (by decide) (by decide) (fun r59 T59 h59 vm59 X59 q59 => ?_)
        obtain ⟨rfl, Kc59, E_ft, F_signsBefore_ft, F_signsAfter_ft, hj59⟩ := q59
        have X59 := X59 _ hj59
        have O := O.keep Kc59 (allS g_ft all0)
        have E_a56 := E_a56.keep Kc59
        have F_value_a56 := F_value_a56.keep Kc59 (ninS ne_a56_ft nin0)
        have V_d56 := V_d56.keep Kc59 (ninS ne_d56_ft nin0)
        have E_a57 := E_a57.keep Kc59
        have F_value_a57 := F_value_a57.keep Kc59 (ninS ne_a57_ft nin0)
        have V_d57 := V_d57.keep Kc59 (ninS ne_d57_ft nin0)
        have Z0 := Nat.le_trans Z0 Kc59.1
        show G T59 (mkF m 40 #[.val (.int i1), .val (.int i2), .val (.int i3), .val (.int i4), .val (.int (2 : Int32)), .val (.int (3 : Int32)), .val (.ref a56), .val (.ref a57), .unset, .unset] [(.ref ft)])
        refine hs.go (fun _ kk_ => XS.astore X59.here hx rfl (hb hby at_40) rfl rfl (l' := #[.val (.int i1), .val (.int i2), .val (.int i3), .val (.int i4), .val (.int (2 : Int32)), .val (.int (3 : Int32)), .val (.ref a56), .val (.ref a57), .val (.ref ft), .unset]) rfl kk_) ?_
        show G T59 (mkF m 42 #[.val (.int i1), .val (.int i2), .val (.int i3), .val (.int i4), .val (.int (2 : Int32)), .val (.int (3 : Int32)), .val (.ref a56), .val (.ref a57), .val (.ref ft), .unset] [])
        refine hs.go (fun _ kk_ => XS.iload X59.here hx rfl (hb hby at_42) rfl  kk_) ?_
        show G T59 (mkF m 44 #[.val (.int i1), .val (.int i2), .val (.int i3), .val (.int i4), .val (.int (2 : Int32)), .val (.int (3 : Int32)), .val (.ref a56), .val (.ref a57), .val (.ref ft), .unset] [(.int (2 : Int32))])
        refine hs.go (fun _ kk_ => XS.ifYes X59.here hx rfl (pc0 := 44) (pc' := 52) rfl (hb hby at_44) rfl ((if0 _ _).trans (feq ((by decide) : ¬ ((2 : Int32) = (0 : Int32)))).2) (by decide) (by decide) kk_) ?_
        show G T59 (mkF m 52 #[.val (.int i1), .val (.int i2), .val (.int i3), .val (.int i4), .val (.int (2 : Int32)), .val (.int (3 : Int32)), .val (.ref a56), .val (.ref a57), .val (.ref ft), .unset] [])
        refine hs.go (fun _ kk_ => XS.iconst X59.here hx rfl (hb hby at_52) kk_) ?_
        show G T59 (mkF m 53 #[.val (.int i1), .val (.int i2), .val (.int i3), .val (.int i4), .val (.int (2 : Int32)), .val (.int (3 : Int32)), .val (.ref a56), .val (.ref a57), .val (.ref ft), .unset] [(.int (1 : Int32))])
        refine hs.go (fun _ kk_ => XS.goto X59.here hx rfl (pc0 := 53) (pc' := 57) rfl (hb hby at_53) (by decide) (by decide) kk_) ?_
        show G T59 (mkF m 57 #[.val (.int i1), .val (.int i2), .val (.int i3), .val (.int i4), .val (.int (2 : Int32)), .val (.int (3 : Int32)), .val (.ref a56), .val (.ref a57), .val (.ref ft), .unset] [(.int (1 : Int32))])
        refine hs.go (fun _ kk_ => XS.istore X59.here hx rfl (hb hby at_57) rfl (l' := #[.val (.int i1), .val (.int i2), .val (.int i3), .val (.int i4), .val (.int (2 : Int32)), .val (.int (3 : Int32)), .val (.ref a56), .val (.ref a57), .val (.ref ft), .val (.int (1 : Int32))]) rfl kk_) ?_
        show G T59 (mkF m 59 #[.val (.int i1), .val (.int i2), .val (.int i3), .val (.int i4), .val (.int (2 : Int32)), .val (.int (3 : Int32)), .val (.ref a56), .val (.ref a57), .val (.ref ft), .val (.int (1 : Int32))] [])
        refine hs.go (fun _ kk_ => XS.aload X59.here hx rfl (hb hby at_59) rfl rfl kk_) ?_
        show G T59 (mkF m 61 #[.val (.int i1), .val (.int i2), .val (.int i3), .val (.int i4), .val (.int (2 : Int32)), .val (.int (3 : Int32)), .val (.ref a56), .val (.ref a57), .val (.ref ft), .val (.int (1 : Int32))] [(.ref ft)])
        refine rCallV hs X59 hx hZ (as' := []) Jn.stb (rm10 l Z a0 hw [] ((Jn Z [])) Jn.stb ft a56 a57 d56 d57 kd56 kd57 (2 : Int32) (3 : Int32) vd56 vd57 h59 n0 Z0 F_signsBefore_ft F_signsAfter_ft E_a56 F_value_a56 V_d56 E_a57 F_value_a57 V_d57) E_ft hown (hw _ (List.mem_of_getElem? (i := 59) rfl)) (hw _ (List.mem_of_getElem? (i := 60) rfl)) (hw _ (List.mem_of_getElem? (i := 62) rfl)) (hw _ (List.mem_of_getElem? (i := 61) rfl)) (hw _ (List.mem_of_getElem? (i := 39) rfl)) (hw _ (List.mem_of_getElem? (i := 63) rfl)) hy_10 rfl (by rw [hml]; rfl) [] (lenOf pd_6 rfl) rfl 0 (by show 2 * 0 + _ ≤ _; exact Nat.le_of_eq rfl) (hb hby at_61) (by decide) (by decide) (by decide) (by decide) (fun r60 T60 h60 vm60 X60 q60 => ?_)
        obtain ⟨rfl, qh60, hj60⟩ := q60
        have X60 := X60 _ hj60
        rw [qh60] at X60
        show G T60 (mkF m 64 #[.val (.int i1), .val (.int i2), .val (.int i3), .val (.int i4), .val (.int (2 : Int32)), .val (.int (3 : Int32)), .val (.ref a56), .val (.ref a57), .val (.ref ft), .val (.int (1 : Int32))] [(.int (fws (2 : Int32) (3 : Int32)))])
        refine hs.go (fun _ kk_ => XS.iload X60.here hx rfl (hb hby at_64) rfl  kk_) ?_
        show G T60 (mkF m 66 #[.val (.int i1), .val (.int i2), .val (.int i3), .val (.int i4), .val (.int (2 : Int32)), .val (.int (3 : Int32)), .val (.ref a56), .val (.ref a57), .val (.ref ft), .val (.int (1 : Int32))] [(.int (1 : Int32)), (.int (fws (2 : Int32) (3 : Int32)))])
        refine hs.go (fun _ kk_ => XS.icmpNo X60.here hx rfl (hb hby at_66) rfl (teq ((by decide) : (fws (2 : Int32) (3 : Int32)) = (1 : Int32))).2 kk_) ?_
        show G T60 (mkF m 69 #[.val (.int i1), .val (.int i2), .val (.int i3), .val (.int i4), .val (.int (2 : Int32)), .val (.int (3 : Int32)), .val (.ref a56), .val (.ref a57), .val (.ref ft), .val (.int (1 : Int32))] [])
        refine hs.go (fun _ kk_ => XS.iconst X60.here hx rfl (hb hby at_69) kk_) ?_
        show G T60 (mkF m 70 #[.val (.int i1), .val (.int i2), .val (.int i3), .val (.int i4), .val (.int (2 : Int32)), .val (.int (3 : Int32)), .val (.ref a56), .val (.ref a57), .val (.ref ft), .val (.int (1 : Int32))] [(.int (1 : Int32))])
        refine hs.go (fun _ kk_ => XS.goto X60.here hx rfl (pc0 := 70) (pc' := 74) rfl (hb hby at_70) (by decide) (by decide) kk_) ?_
        show G T60 (mkF m 74 #[.val (.int i1), .val (.int i2), .val (.int i3), .val (.int i4), .val (.int (2 : Int32)), .val (.int (3 : Int32)), .val (.ref a56), .val (.ref a57), .val (.ref ft), .val (.int (1 : Int32))] [(.int (1 : Int32))])
        exact rRetN fin Jn.stb X60 hx (by decide) (by decide) hret (by simp) (hb hby at_74) (z' := (1 : Int32)) (by decide) (fun vm' hj => rfl)
  · subst e_
    show G s₁ (mkF m 5 #[.val (.int i1), .val (.int i2), .val (.int i3), .val (.int i4), .val (.int (3 : Int32)), .unset, .unset, .unset, .unset, .unset] [])
    refine hs.go (fun _ kk_ => XS.iloadN X0.here hx rfl (hb hby at_5) rfl  kk_) ?_
    show G s₁ (mkF m 6 #[.val (.int i1), .val (.int i2), .val (.int i3), .val (.int i4), .val (.int (3 : Int32)), .unset, .unset, .unset, .unset, .unset] [(.int i3)])
    refine hs.go (fun _ kk_ => XS.iconst X0.here hx rfl (hb hby at_6) kk_) ?_
    show G s₁ (mkF m 7 #[.val (.int i1), .val (.int i2), .val (.int i3), .val (.int i4), .val (.int (3 : Int32)), .unset, .unset, .unset, .unset, .unset] [(.int (3 : Int32)), (.int i3)])
    refine hs.go (fun _ kk_ => XS.iand X0.here hx rfl (hb hby at_7) rfl kk_) ?_
    show G s₁ (mkF m 8 #[.val (.int i1), .val (.int i2), .val (.int i3), .val (.int i4), .val (.int (3 : Int32)), .unset, .unset, .unset, .unset, .unset] [(.int (i3 &&& (3 : Int32)))])
    refine nameIt (P := fun zz_ : Int32 => G s₁ (mkF m 8 #[.val (.int i1), .val (.int i2), .val (.int i3), .val (.int i4), .val (.int (3 : Int32)), .unset, .unset, .unset, .unset, .unset] [(.int zz_)])) (i3 &&& (3 : Int32)) (fun na hna => ?_)
    show G s₁ (mkF m 8 #[.val (.int i1), .val (.int i2), .val (.int i3), .val (.int i4), .val (.int (3 : Int32)), .unset, .unset, .unset, .unset, .unset] [(.int na)])
    refine hs.go (fun _ kk_ => XS.istore X0.here hx rfl (hb hby at_8) rfl (l' := #[.val (.int i1), .val (.int i2), .val (.int i3), .val (.int i4), .val (.int (3 : Int32)), .val (.int na), .unset, .unset, .unset, .unset]) rfl kk_) ?_
    show G s₁ (mkF m 10 #[.val (.int i1), .val (.int i2), .val (.int i3), .val (.int i4), .val (.int (3 : Int32)), .val (.int na), .unset, .unset, .unset, .unset] [])
    rcases own_m3 hna with e_ | e_ | e_ | e_
    · subst e_
      show G s₁ (mkF m 10 #[.val (.int i1), .val (.int i2), .val (.int i3), .val (.int i4), .val (.int (3 : Int32)), .val (.int (0 : Int32)), .unset, .unset, .unset, .unset] [])
      refine hs.go (fun _ kk_ => XS.iload X0.here hx rfl (hb hby at_10) rfl  kk_) ?_
      show G s₁ (mkF m 12 #[.val (.int i1), .val (.int i2), .val (.int i3), .val (.int i4), .val (.int (3 : Int32)), .val (.int (0 : Int32)), .unset, .unset, .unset, .unset] [(.int (3 : Int32))])
      refine hs.go (fun _ kk_ => XS.iloadN X0.here hx rfl (hb hby at_12) rfl  kk_) ?_
      show G s₁ (mkF m 13 #[.val (.int i1), .val (.int i2), .val (.int i3), .val (.int i4), .val (.int (3 : Int32)), .val (.int (0 : Int32)), .unset, .unset, .unset, .unset] [(.int i2), (.int (3 : Int32))])
      refine rCallS hs X0 hx hZ (as' := [(.int (3 : Int32)), (.int i2)]) Jn.stb (tx_3 l Z a0 hw [] ((Jn Z [])) Jn.stb i2 h0 n0 Z0 O cw S0 hcw) hown (hw _ (List.mem_of_getElem? (i := 0) rfl)) (hw _ (List.mem_of_getElem? (i := 1) rfl)) (hw _ (List.mem_of_getElem? (i := 2) rfl)) (hw _ (List.mem_of_getElem? (i := 3) rfl)) hy_1 rfl (by rw [hml]; rfl) [] (lenOf pd_7 rfl) rfl 0 (by show 2 * 0 + _ ≤ _; exact Nat.le_of_eq rfl) (hb hby at_13) (by decide) (by decide) (by decide) (by decide) (fun r61 T61 h61 vm61 X61 q61 => ?_)
      obtain ⟨a61, d61, kd61, vd61, rfl, Kc61, E_a61, F_value_a61, V_d61, hj61⟩ := q61
      have X61 := X61 _ hj61
      have O := O.keep Kc61 all0
      have Z0 := Nat.le_trans Z0 Kc61.1
      show G T61 (mkF m 16 #[.val (.int i1), .val (.int i2), .val (.int i3), .val (.int i4), .val (.int (3 : Int32)), .val (.int (0 : Int32)), .unset, .unset, .unset, .unset] [(.ref a61)])
      refine hs.go (fun _ kk_ => XS.astore X61.here hx rfl (hb hby at_16) rfl rfl (l' := #[.val (.int i1), .val (.int i2), .val (.int i3), .val (.int i4), .val (.int (3 : Int32)), .val (.int (0 : Int32)), .val (.ref a61), .unset, .unset, .unset]) rfl kk_) ?_
      show G T61 (mkF m 18 #[.val (.int i1), .val (.int i2), .val (.int i3), .val (.int i4), .val (.int (3 : Int32)), .val (.int (0 : Int32)), .val (.ref a61), .unset, .unset, .unset] [])
      refine hs.go (fun _ kk_ => XS.iload X61.here hx rfl (hb hby at_18) rfl  kk_) ?_
      show G T61 (mkF m 20 #[.val (.int i1), .val (.int i2), .val (.int i3), .val (.int i4), .val (.int (3 : Int32)), .val (.int (0 : Int32)), .val (.ref a61), .unset, .unset, .unset] [(.int (0 : Int32))])
      refine hs.go (fun _ kk_ => XS.iloadN X61.here hx rfl (hb hby at_20) rfl  kk_) ?_
      show G T61 (mkF m 21 #[.val (.int i1), .val (.int i2), .val (.int i3), .val (.int i4), .val (.int (3 : Int32)), .val (.int (0 : Int32)), .val (.ref a61), .unset, .unset, .unset] [(.int i4), (.int (0 : Int32))])
      refine rCallS hs X61 hx hZ (as' := [(.int (0 : Int32)), (.int i4)]) Jn.stb (tx_f l Z a0 hw [] i4 h61 n0 Z0 O HC HW) hown (hw _ (List.mem_of_getElem? (i := 0) rfl)) (hw _ (List.mem_of_getElem? (i := 1) rfl)) (hw _ (List.mem_of_getElem? (i := 2) rfl)) (hw _ (List.mem_of_getElem? (i := 3) rfl)) hy_1 rfl (by rw [hml]; rfl) [] (lenOf pd_7 rfl) rfl 0 (by show 2 * 0 + _ ≤ _; exact Nat.le_of_eq rfl) (hb hby at_21) (by decide) (by decide) (by decide) (by decide) (fun r62 T62 h62 vm62 X62 q62 => ?_)
      obtain ⟨a62, aL, bL, kL, rfl, Kc62, E_a62, F_value_a62, E_aL, F_value_aL, F_coder_aL, V_bL, hj62⟩ := q62
      have X62 := X62 _ hj62
      have O := O.keep Kc62 all0
      have E_a61 := E_a61.keep Kc62
      have F_value_a61 := F_value_a61.keep Kc62 nin0
      have V_d61 := V_d61.keep Kc62 nin0
      have Z0 := Nat.le_trans Z0 Kc62.1
      show G T62 (mkF m 24 #[.val (.int i1), .val (.int i2), .val (.int i3), .val (.int i4), .val (.int (3 : Int32)), .val (.int (0 : Int32)), .val (.ref a61), .unset, .unset, .unset] [(.ref a62)])
      refine hs.go (fun _ kk_ => XS.astore X62.here hx rfl (hb hby at_24) rfl rfl (l' := #[.val (.int i1), .val (.int i2), .val (.int i3), .val (.int i4), .val (.int (3 : Int32)), .val (.int (0 : Int32)), .val (.ref a61), .val (.ref a62), .unset, .unset]) rfl kk_) ?_
      show G T62 (mkF m 26 #[.val (.int i1), .val (.int i2), .val (.int i3), .val (.int i4), .val (.int (3 : Int32)), .val (.int (0 : Int32)), .val (.ref a61), .val (.ref a62), .unset, .unset] [])
      as_aux_lemma =>
        refine rNewO hs X62 hx hZ hown (hw _ (List.mem_of_getElem? (i := 37) rfl)) (hw _ (List.mem_of_getElem? (i := 38) rfl)) (hw _ (List.mem_of_getElem? (i := 39) rfl)) rfl (hb hby at_26) (by decide) (by decide) (fun T63 h63 ft g63 X63 E63 E_ft D63 => ?_)
        have g_ft : n0 ≤ ft := by rw [g63]; exact Z0
        have Z0 := Nat.le_trans Z0 E63.1
        have ne_a61_ft : a61 ≠ ft := Nat.ne_of_lt (Nat.lt_of_lt_of_le E_a61.lt (Nat.le_of_eq g63.symm))
        have ne_d61_ft : d61 ≠ ft := Nat.ne_of_lt (Nat.lt_of_lt_of_le V_d61.lt (Nat.le_of_eq g63.symm))
        have ne_a62_ft : a62 ≠ ft := Nat.ne_of_lt (Nat.lt_of_lt_of_le E_a62.lt (Nat.le_of_eq g63.symm))
        have ne_aL_ft : aL ≠ ft := Nat.ne_of_lt (Nat.lt_of_lt_of_le E_aL.lt (Nat.le_of_eq g63.symm))
        have ne_bL_ft : bL ≠ ft := Nat.ne_of_lt (Nat.lt_of_lt_of_le V_bL.lt (Nat.le_of_eq g63.symm))
        have O := O.ext E63
        have E_a61 := E_a61.ext E63
        have F_value_a61 := F_value_a61.ext E63
        have V_d61 := V_d61.ext E63
        have E_a62 := E_a62.ext E63
        have F_value_a62 := F_value_a62.ext E63
        have E_aL := E_aL.ext E63
        have F_value_aL := F_value_aL.ext E63
        have F_coder_aL := F_coder_aL.ext E63
        have V_bL := V_bL.ext E63
        have F_words_ft : Fld Z h63 ft "com/example/farthing/farthing/format/FormText" "words" "Ljava/util/Set;" .null := D63 (Or.inr (hw _ (List.mem_of_getElem? (i := 50) rfl))) (ty := (.object "java/util/Set")) (by decide)
        have F_wordsBeforeCurrency_ft : Fld Z h63 ft "com/example/farthing/farthing/format/FormText" "wordsBeforeCurrency" "Ljava/util/Set;" .null := D63 (Or.inr (hw _ (List.mem_of_getElem? (i := 52) rfl))) (ty := (.object "java/util/Set")) (by decide)
        have F_wordsAfterCurrency_ft : Fld Z h63 ft "com/example/farthing/farthing/format/FormText" "wordsAfterCurrency" "Ljava/util/Set;" .null := D63 (Or.inr (hw _ (List.mem_of_getElem? (i := 54) rfl))) (ty := (.object "java/util/Set")) (by decide)
        have F_signsBefore_ft : Fld Z h63 ft "com/example/farthing/farthing/format/FormText" "signsBefore" "Ljava/lang/String;" .null := D63 (Or.inr (hw _ (List.mem_of_getElem? (i := 56) rfl))) (ty := (.object "java/lang/String")) (by decide)
        have F_signsAfter_ft : Fld Z h63 ft "com/example/farthing/farthing/format/FormText" "signsAfter" "Ljava/lang/String;" .null := D63 (Or.inr (hw _ (List.mem_of_getElem? (i := 58) rfl))) (ty := (.object "java/lang/String")) (by decide)
        show G T63 (mkF m 29 #[.val (.int i1), .val (.int i2), .val (.int i3), .val (.int i4), .val (.int (3 : Int32)), .val (.int (0 : Int32)), .val (.ref a61), .val (.ref a62), .unset, .unset] [(.ref ft)])
        refine hs.go (fun _ kk_ => XS.dup X63.here hx rfl (hb hby at_29) rfl rfl kk_) ?_
        show G T63 (mkF m 30 #[.val (.int i1), .val (.int i2), .val (.int i3), .val (.int i4), .val (.int (3 : Int32)), .val (.int (0 : Int32)), .val (.ref a61), .val (.ref a62), .unset, .unset] [(.ref ft), (.ref ft)])
        refine hs.go (fun _ kk_ => XS.aconstNull X63.here hx rfl (hb hby at_30) kk_) ?_
        show G T63 (mkF m 31 #[.val (.int i1), .val (.int i2), .val (.int i3), .val (.int i4), .val (.int (3 : Int32)), .val (.int (0 : Int32)), .val (.ref a61), .val (.ref a62), .unset, .unset] [.null, (.ref ft), (.ref ft)])
        refine hs.go (fun _ kk_ => XS.aconstNull X63.here hx rfl (hb hby at_31) kk_) ?_
        show G T63 (mkF m 32 #[.val (.int i1), .val (.int i2), .val (.int i3), .val (.int i4), .val (.int (3 : Int32)), .val (.int (0 : Int32)), .val (.ref a61), .val (.ref a62), .unset, .unset] [.null, .null, (.ref ft), (.ref ft)])
        refine hs.go (fun _ kk_ => XS.aconstNull X63.here hx rfl (hb hby at_32) kk_) ?_
        show G T63 (mkF m 33 #[.val (.int i1), .val (.int i2), .val (.int i3), .val (.int i4), .val (.int (3 : Int32)), .val (.int (0 : Int32)), .val (.ref a61), .val (.ref a62), .unset, .unset] [.null, .null, .null, (.ref ft), (.ref ft)])
        refine hs.go (fun _ kk_ => XS.aload X63.here hx rfl (hb hby at_33) rfl rfl kk_) ?_
        show G T63 (mkF m 35 #[.val (.int i1), .val (.int i2), .val (.int i3), .val (.int i4), .val (.int (3 : Int32)), .val (.int (0 : Int32)), .val (.ref a61), .val (.ref a62), .unset, .unset] [(.ref a61), .null, .null, .null, (.ref ft), (.ref ft)])
        refine hs.go (fun _ kk_ => XS.aload X63.here hx rfl (hb hby at_35) rfl rfl kk_) ?_
        show G T63 (mkF m 37 #[.val (.int i1), .val (.int i2), .val (.int i3), .val (.int i4), .val (.int (3 : Int32)), .val (.int (0 : Int32)), .val (.ref a61), .val (.ref a62), .unset, .unset] [(.ref a62), (.ref a61), .null, .null, .null, (.ref ft), (.ref ft)])
        refine rCallI hs X63 hx hZ (as' := [.null, .null, .null, (.ref a61), (.ref a62)]) Jl.stb (rm8 l Z a0 hw [] ((Jl Z "java/lang/String" 7 aL)) Jl.stb ft a61 a62 h63 n0 Z0 E_ft g_ft F_words_ft F_wordsBeforeCurrency_ft F_wordsAfterCurrency_ft F_signsBefore_ft F_signsAfter_ft) rfl hown (hw _ (List.mem_of_getElem? (i := 40) rfl)) (hw _ (List.mem_of_getElem? (i := 41) rfl)) (hw _ (List.mem_of_getElem? (i := 39) rfl)) (hw _ (List.mem_of_getElem? (i := 42) rfl)) hy_8 rfl (by rw [hml]; rfl) [(.ref ft)] (lenOf pd_8 rfl) rfl 1 (by show 2 * 0 + _ ≤ _; exact Nat.le_of_eq rfl) (hb hby at_37) (by decide) (by decide) (by decide) (by decide) (fun r64 T64 h64 vm64 X64 q64 => ?_)
        obtain ⟨rfl, Kc64, E_ft, F_signsBefore_ft, F_signsAfter_ft, hj64⟩ := q64
        have X64 := X64 _ hj64
        have O := O.keep Kc64 (allS g_ft all0)
        have E_a61 := E_a61.keep Kc64
        have F_value_a61 := F_value_a61.keep Kc64 (ninS ne_a61_ft nin0)
        have V_d61 := V_d61.keep Kc64 (ninS ne_d61_ft nin0)
        have E_a62 := E_a62.keep Kc64
        have F_value_a62 := F_value_a62.keep Kc64 (ninS ne_a62_ft nin0)
        have E_aL := E_aL.keep Kc64
        have F_value_aL := F_value_aL.keep Kc64 (ninS ne_aL_ft nin0)
        have F_coder_aL := F_coder_aL.keep Kc64 (ninS ne_aL_ft nin0)
        have V_bL := V_bL.keep Kc64 (ninS ne_bL_ft nin0)
        have Z0 := Nat.le_trans Z0 Kc64.1
        show G T64 (mkF m 40 #[.val (.int i1), .val (.int i2), .val (.int i3), .val (.int i4), .val (.int (3 : Int32)), .val (.int (0 : Int32)), .val (.ref a61), .val (.ref a62), .unset, .unset] [(.ref ft)])
        refine hs.go (fun _ kk_ => XS.astore X64.here hx rfl (hb hby at_40) rfl rfl (l' := #[.val (.int i1), .val (.int i2), .val (.int i3), .val (.int i4), .val (.int (3 : Int32)), .val (.int (0 : Int32)), .val (.ref a61), .val (.ref a62), .val (.ref ft), .unset]) rfl kk_) ?_
        show G T64 (mkF m 42 #[.val (.int i1), .val (.int i2), .val (.int i3), .val (.int i4), .val (.int (3 : Int32)), .val (.int (0 : Int32)), .val (.ref a61), .val (.ref a62), .val (.ref ft), .unset] [])
        refine hs.go (fun _ kk_ => XS.iload X64.here hx rfl (hb hby at_42) rfl  kk_) ?_
        show G T64 (mkF m 44 #[.val (.int i1), .val (.int i2), .val (.int i3), .val (.int i4), .val (.int (3 : Int32)), .val (.int (0 : Int32)), .val (.ref a61), .val (.ref a62), .val (.ref ft), .unset] [(.int (3 : Int32))])
        refine hs.go (fun _ kk_ => XS.ifYes X64.here hx rfl (pc0 := 44) (pc' := 52) rfl (hb hby at_44) rfl ((if0 _ _).trans (feq ((by decide) : ¬ ((3 : Int32) = (0 : Int32)))).2) (by decide) (by decide) kk_) ?_
        show G T64 (mkF m 52 #[.val (.int i1), .val (.int i2), .val (.int i3), .val (.int i4), .val (.int (3 : Int32)), .val (.int (0 : Int32)), .val (.ref a61), .val (.ref a62), .val (.ref ft), .unset] [])
        refine hs.go (fun _ kk_ => XS.iconst X64.here hx rfl (hb hby at_52) kk_) ?_
        show G T64 (mkF m 53 #[.val (.int i1), .val (.int i2), .val (.int i3), .val (.int i4), .val (.int (3 : Int32)), .val (.int (0 : Int32)), .val (.ref a61), .val (.ref a62), .val (.ref ft), .unset] [(.int (1 : Int32))])
        refine hs.go (fun _ kk_ => XS.goto X64.here hx rfl (pc0 := 53) (pc' := 57) rfl (hb hby at_53) (by decide) (by decide) kk_) ?_
        show G T64 (mkF m 57 #[.val (.int i1), .val (.int i2), .val (.int i3), .val (.int i4), .val (.int (3 : Int32)), .val (.int (0 : Int32)), .val (.ref a61), .val (.ref a62), .val (.ref ft), .unset] [(.int (1 : Int32))])
        refine hs.go (fun _ kk_ => XS.istore X64.here hx rfl (hb hby at_57) rfl (l' := #[.val (.int i1), .val (.int i2), .val (.int i3), .val (.int i4), .val (.int (3 : Int32)), .val (.int (0 : Int32)), .val (.ref a61), .val (.ref a62), .val (.ref ft), .val (.int (1 : Int32))]) rfl kk_) ?_
        show G T64 (mkF m 59 #[.val (.int i1), .val (.int i2), .val (.int i3), .val (.int i4), .val (.int (3 : Int32)), .val (.int (0 : Int32)), .val (.ref a61), .val (.ref a62), .val (.ref ft), .val (.int (1 : Int32))] [])
        refine hs.go (fun _ kk_ => XS.aload X64.here hx rfl (hb hby at_59) rfl rfl kk_) ?_
        show G T64 (mkF m 61 #[.val (.int i1), .val (.int i2), .val (.int i3), .val (.int i4), .val (.int (3 : Int32)), .val (.int (0 : Int32)), .val (.ref a61), .val (.ref a62), .val (.ref ft), .val (.int (1 : Int32))] [(.ref ft)])
        refine rCallV hs X64 hx hZ (as' := []) Jl.stb (rm10 l Z a0 hw [] ((Jl Z "java/lang/String" 7 aL)) Jl.stb ft a61 a62 d61 bL kd61 kL (3 : Int32) (0 : Int32) vd61 [] h64 n0 Z0 F_signsBefore_ft F_signsAfter_ft E_a61 F_value_a61 V_d61 E_a62 F_value_a62 V_bL) E_ft hown (hw _ (List.mem_of_getElem? (i := 59) rfl)) (hw _ (List.mem_of_getElem? (i := 60) rfl)) (hw _ (List.mem_of_getElem? (i := 62) rfl)) (hw _ (List.mem_of_getElem? (i := 61) rfl)) (hw _ (List.mem_of_getElem? (i := 39) rfl)) (hw _ (List.mem_of_getElem? (i := 63) rfl)) hy_10 rfl (by rw [hml]; rfl) [] (lenOf pd_6 rfl) rfl 0 (by show 2 * 0 + _ ≤ _; exact Nat.le_of_eq rfl) (hb hby at_61) (by decide) (by decide) (by decide) (by decide) (fun r65 T65 h65 vm65 X65 q65 => ?_)
        obtain ⟨rfl, qh65, hj65⟩ := q65
        have X65 := X65 _ hj65
        rw [qh65] at X65
        show G T65 (mkF m 64 #[.val (.int i1), .val (.int i2), .val (.int i3), .val (.int i4), .val (.int (3 : Int32)), .val (.int (0 : Int32)), .val (.ref a61), .val (.ref a62), .val (.ref ft), .val (.int (1 : Int32))] [(.int (fws (3 : Int32) (0 : Int32)))])
        refine hs.go (fun _ kk_ => XS.iload X65.here hx rfl (hb hby at_64) rfl  kk_) ?_
        show G T65 (mkF m 66 #[.val (.int i1), .val (.int i2), .val (.int i3), .val (.int i4), .val (.int (3 : Int32)), .val (.int (0 : Int32)), .val (.ref a61), .val (.ref a62), .val (.ref ft), .val (.int (1 : Int32))] [(.int (1 : Int32)), (.int (fws (3 : Int32) (0 : Int32)))])
        refine hs.go (fun _ kk_ => XS.icmpNo X65.here hx rfl (hb hby at_66) rfl (teq ((by decide) : (fws (3 : Int32) (0 : Int32)) = (1 : Int32))).2 kk_) ?_
        show G T65 (mkF m 69 #[.val (.int i1), .val (.int i2), .val (.int i3), .val (.int i4), .val (.int (3 : Int32)), .val (.int (0 : Int32)), .val (.ref a61), .val (.ref a62), .val (.ref ft), .val (.int (1 : Int32))] [])
        refine hs.go (fun _ kk_ => XS.iconst X65.here hx rfl (hb hby at_69) kk_) ?_
        show G T65 (mkF m 70 #[.val (.int i1), .val (.int i2), .val (.int i3), .val (.int i4), .val (.int (3 : Int32)), .val (.int (0 : Int32)), .val (.ref a61), .val (.ref a62), .val (.ref ft), .val (.int (1 : Int32))] [(.int (1 : Int32))])
        refine hs.go (fun _ kk_ => XS.goto X65.here hx rfl (pc0 := 70) (pc' := 74) rfl (hb hby at_70) (by decide) (by decide) kk_) ?_
        show G T65 (mkF m 74 #[.val (.int i1), .val (.int i2), .val (.int i3), .val (.int i4), .val (.int (3 : Int32)), .val (.int (0 : Int32)), .val (.ref a61), .val (.ref a62), .val (.ref ft), .val (.int (1 : Int32))] [(.int (1 : Int32))])
        exact rRetN fin Jl.stb X65 hx (by decide) (by decide) hret (by simp) (hb hby at_74) (z' := (1 : Int32)) (by decide) (fun vm' hj => rfl)
    · subst e_
      show G s₁ (mkF m 10 #[.val (.int i1), .val (.int i2), .val (.int i3), .val (.int i4), .val (.int (3 : Int32)), .val (.int (1 : Int32)), .unset, .unset, .unset, .unset] [])
      refine hs.go (fun _ kk_ => XS.iload X0.here hx rfl (hb hby at_10) rfl  kk_) ?_
      show G s₁ (mkF m 12 #[.val (.int i1), .val (.int i2), .val (.int i3), .val (.int i4), .val (.int (3 : Int32)), .val (.int (1 : Int32)), .unset, .unset, .unset, .unset] [(.int (3 : Int32))])
      refine hs.go (fun _ kk_ => XS.iloadN X0.here hx rfl (hb hby at_12) rfl  kk_) ?_
      show G s₁ (mkF m 13 #[.val (.int i1), .val (.int i2), .val (.int i3), .val (.int i4), .val (.int (3 : Int32)), .val (.int (1 : Int32)), .unset, .unset, .unset, .unset] [(.int i2), (.int (3 : Int32))])
      refine rCallS hs X0 hx hZ (as' := [(.int (3 : Int32)), (.int i2)]) Jn.stb (tx_3 l Z a0 hw [] ((Jn Z [])) Jn.stb i2 h0 n0 Z0 O cw S0 hcw) hown (hw _ (List.mem_of_getElem? (i := 0) rfl)) (hw _ (List.mem_of_getElem? (i := 1) rfl)) (hw _ (List.mem_of_getElem? (i := 2) rfl)) (hw _ (List.mem_of_getElem? (i := 3) rfl)) hy_1 rfl (by rw [hml]; rfl) [] (lenOf pd_7 rfl) rfl 0 (by show 2 * 0 + _ ≤ _; exact Nat.le_of_eq rfl) (hb hby at_13) (by decide) (by decide) (by decide) (by decide) (fun r66 T66 h66 vm66 X66 q66 => ?_)
      obtain ⟨a66, d66, kd66, vd66, rfl, Kc66, E_a66, F_value_a66, V_d66, hj66⟩ := q66
      have X66 := X66 _ hj66
      have O := O.keep Kc66 all0
      have Z0 := Nat.le_trans Z0 Kc66.1
      show G T66 (mkF m 16 #[.val (.int i1), .val (.int i2), .val (.int i3), .val (.int i4), .val (.int (3 : Int32)), .val (.int (1 : Int32)), .unset, .unset, .unset, .unset] [(.ref a66)])
      refine hs.go (fun _ kk_ => XS.astore X66.here hx rfl (hb hby at_16) rfl rfl (l' := #[.val (.int i1), .val (.int i2), .val (.int i3), .val (.int i4), .val (.int (3 : Int32)), .val (.int (1 : Int32)), .val (.ref a66), .unset, .unset, .unset]) rfl kk_) ?_
      show G T66 (mkF m 18 #[.val (.int i1), .val (.int i2), .val (.int i3), .val (.int i4), .val (.int (3 : Int32)), .val (.int (1 : Int32)), .val (.ref a66), .unset, .unset, .unset] [])
      refine hs.go (fun _ kk_ => XS.iload X66.here hx rfl (hb hby at_18) rfl  kk_) ?_
      show G T66 (mkF m 20 #[.val (.int i1), .val (.int i2), .val (.int i3), .val (.int i4), .val (.int (3 : Int32)), .val (.int (1 : Int32)), .val (.ref a66), .unset, .unset, .unset] [(.int (1 : Int32))])
      refine hs.go (fun _ kk_ => XS.iloadN X66.here hx rfl (hb hby at_20) rfl  kk_) ?_
      show G T66 (mkF m 21 #[.val (.int i1), .val (.int i2), .val (.int i3), .val (.int i4), .val (.int (3 : Int32)), .val (.int (1 : Int32)), .val (.ref a66), .unset, .unset, .unset] [(.int i4), (.int (1 : Int32))])
      refine rCallS hs X66 hx hZ (as' := [(.int (1 : Int32)), (.int i4)]) Jn.stb (tx_1 l Z a0 hw [] ((Jn Z [])) Jn.stb i4 h66 n0 Z0 O cw S0 hcw) hown (hw _ (List.mem_of_getElem? (i := 0) rfl)) (hw _ (List.mem_of_getElem? (i := 1) rfl)) (hw _ (List.mem_of_getElem? (i := 2) rfl)) (hw _ (List.mem_of_getElem? (i := 3) rfl)) hy_1 rfl (by rw [hml]; rfl) [] (lenOf pd_7 rfl) rfl 0 (by show 2 * 0 + _ ≤ _; exact Nat.le_of_eq rfl) (hb hby at_21) (by decide) (by decide) (by decide) (by decide) (fun r67 T67 h67 vm67 X67 q67 => ?_)
      obtain ⟨a67, d67, kd67, vd67, rfl, Kc67, E_a67, F_value_a67, V_d67, hj67⟩ := q67
      have X67 := X67 _ hj67
      have O := O.keep Kc67 all0
      have E_a66 := E_a66.keep Kc67
      have F_value_a66 := F_value_a66.keep Kc67 nin0
      have V_d66 := V_d66.keep Kc67 nin0
      have Z0 := Nat.le_trans Z0 Kc67.1
      show G T67 (mkF m 24 #[.val (.int i1), .val (.int i2), .val (.int i3), .val (.int i4), .val (.int (3 : Int32)), .val (.int (1 : Int32)), .val (.ref a66), .unset, .unset, .unset] [(.ref a67)])
      refine hs.go (fun _ kk_ => XS.astore X67.here hx rfl (hb hby at_24) rfl rfl (l' := #[.val (.int i1), .val (.int i2), .val (.int i3), .val (.int i4), .val (.int (3 : Int32)), .val (.int (1 : Int32)), .val (.ref a66), .val (.ref a67), .unset, .unset]) rfl kk_) ?_
      show G T67 (mkF m 26 #[.val (.int i1), .val (.int i2), .val (.int i3), .val (.int i4), .val (.int (3 : Int32)), .val (.int (1 : Int32)), .val (.ref a66), .val (.ref a67), .unset, .unset] [])
      as_aux_lemma =>
        refine rNewO hs X67 hx hZ hown (hw _ (List.mem_of_getElem? (i := 37) rfl)) (hw _ (List.mem_of_getElem? (i := 38) rfl)) (hw _ (List.mem_of_getElem? (i := 39) rfl)) rfl (hb hby at_26) (by decide) (by decide) (fun T68 h68 ft g68 X68 E68 E_ft D68 => ?_)
        have g_ft : n0 ≤ ft := by rw [g68]; exact Z0
        have Z0 := Nat.le_trans Z0 E68.1
        have ne_a66_ft : a66 ≠ ft := Nat.ne_of_lt (Nat.lt_of_lt_of_le E_a66.lt (Nat.le_of_eq g68.symm))
        have ne_d66_ft : d66 ≠ ft := Nat.ne_of_lt (Nat.lt_of_lt_of_le V_d66.lt (Nat.le_of_eq g68.symm))
        have ne_a67_ft : a67 ≠ ft := Nat.ne_of_lt (Nat.lt_of_lt_of_le E_a67.lt (Nat.le_of_eq g68.symm))
        have ne_d67_ft : d67 ≠ ft := Nat.ne_of_lt (Nat.lt_of_lt_of_le V_d67.lt (Nat.le_of_eq g68.symm))
        have O := O.ext E68
        have E_a66 := E_a66.ext E68
        have F_value_a66 := F_value_a66.ext E68
        have V_d66 := V_d66.ext E68
        have E_a67 := E_a67.ext E68
        have F_value_a67 := F_value_a67.ext E68
        have V_d67 := V_d67.ext E68
        have F_words_ft : Fld Z h68 ft "com/example/farthing/farthing/format/FormText" "words" "Ljava/util/Set;" .null := D68 (Or.inr (hw _ (List.mem_of_getElem? (i := 50) rfl))) (ty := (.object "java/util/Set")) (by decide)
        have F_wordsBeforeCurrency_ft : Fld Z h68 ft "com/example/farthing/farthing/format/FormText" "wordsBeforeCurrency" "Ljava/util/Set;" .null := D68 (Or.inr (hw _ (List.mem_of_getElem? (i := 52) rfl))) (ty := (.object "java/util/Set")) (by decide)
        have F_wordsAfterCurrency_ft : Fld Z h68 ft "com/example/farthing/farthing/format/FormText" "wordsAfterCurrency" "Ljava/util/Set;" .null := D68 (Or.inr (hw _ (List.mem_of_getElem? (i := 54) rfl))) (ty := (.object "java/util/Set")) (by decide)
        have F_signsBefore_ft : Fld Z h68 ft "com/example/farthing/farthing/format/FormText" "signsBefore" "Ljava/lang/String;" .null := D68 (Or.inr (hw _ (List.mem_of_getElem? (i := 56) rfl))) (ty := (.object "java/lang/String")) (by decide)
        have F_signsAfter_ft : Fld Z h68 ft "com/example/farthing/farthing/format/FormText" "signsAfter" "Ljava/lang/String;" .null := D68 (Or.inr (hw _ (List.mem_of_getElem? (i := 58) rfl))) (ty := (.object "java/lang/String")) (by decide)
        show G T68 (mkF m 29 #[.val (.int i1), .val (.int i2), .val (.int i3), .val (.int i4), .val (.int (3 : Int32)), .val (.int (1 : Int32)), .val (.ref a66), .val (.ref a67), .unset, .unset] [(.ref ft)])
        refine hs.go (fun _ kk_ => XS.dup X68.here hx rfl (hb hby at_29) rfl rfl kk_) ?_
        show G T68 (mkF m 30 #[.val (.int i1), .val (.int i2), .val (.int i3), .val (.int i4), .val (.int (3 : Int32)), .val (.int (1 : Int32)), .val (.ref a66), .val (.ref a67), .unset, .unset] [(.ref ft), (.ref ft)])
        refine hs.go (fun _ kk_ => XS.aconstNull X68.here hx rfl (hb hby at_30) kk_) ?_
        show G T68 (mkF m 31 #[.val (.int i1), .val (.int i2), .val (.int i3), .val (.int i4), .val (.int (3 : Int32)), .val (.int (1 : Int32)), .val (.ref a66), .val (.ref a67), .unset, .unset] [.null, (.ref ft), (.ref ft)])
        refine hs.go (fun _ kk_ => XS.aconstNull X68.here hx rfl (hb hby at_31) kk_) ?_
        show G T68 (mkF m 32 #[.val (.int i1), .val (.int i2), .val (.int i3), .val (.int i4), .val (.int (3 : Int32)), .val (.int (1 : Int32)), .val (.ref a66), .val (.ref a67), .unset, .unset] [.null, .null, (.ref ft), (.ref ft)])
        refine hs.go (fun _ kk_ => XS.aconstNull X68.here hx rfl (hb hby at_32) kk_) ?_
        show G T68 (mkF m 33 #[.val (.int i1), .val (.int i2), .val (.int i3), .val (.int i4), .val (.int (3 : Int32)), .val (.int (1 : Int32)), .val (.ref a66), .val (.ref a67), .unset, .unset] [.null, .null, .null, (.ref ft), (.ref ft)])
        refine hs.go (fun _ kk_ => XS.aload X68.here hx rfl (hb hby at_33) rfl rfl kk_) ?_
        show G T68 (mkF m 35 #[.val (.int i1), .val (.int i2), .val (.int i3), .val (.int i4), .val (.int (3 : Int32)), .val (.int (1 : Int32)), .val (.ref a66), .val (.ref a67), .unset, .unset] [(.ref a66), .null, .null, .null, (.ref ft), (.ref ft)])
        refine hs.go (fun _ kk_ => XS.aload X68.here hx rfl (hb hby at_35) rfl rfl kk_) ?_
        show G T68 (mkF m 37 #[.val (.int i1), .val (.int i2), .val (.int i3), .val (.int i4), .val (.int (3 : Int32)), .val (.int (1 : Int32)), .val (.ref a66), .val (.ref a67), .unset, .unset] [(.ref a67), (.ref a66), .null, .null, .null, (.ref ft), (.ref ft)])
        refine rCallI hs X68 hx hZ (as' := [.null, .null, .null, (.ref a66), (.ref a67)]) Jn.stb (rm8 l Z a0 hw [] ((Jn Z [])) Jn.stb ft a66 a67 h68 n0 Z0 E_ft g_ft F_words_ft F_wordsBeforeCurrency_ft F_wordsAfterCurrency_ft F_signsBefore_ft F_signsAfter_ft) rfl hown (hw _ (List.mem_of_getElem? (i := 40) rfl)) (hw _ (List.mem_of_getElem? (i := 41) rfl)) (hw _ (List.mem_of_getElem? (i := 39) rfl)) (hw _ (List.mem_of_getElem? (i := 42) rfl)) hy_8 rfl (by rw [hml]; rfl) [(.ref ft)] (lenOf pd_8 rfl) rfl 1 (by show 2 * 0 + _ ≤ _; exact Nat.le_of_eq rfl) (hb hby at_37) (by decide) (by decide) (by decide) (by decide) (fun r69 T69 h69 vm69 X69 q69 => ?_)
        obtain ⟨rfl, Kc69, E_ft, F_signsBefore_ft, F_signsAfter_ft, hj69⟩ := q69
        have X69 := X69 _ hj69
        have O := O.keep Kc69 (allS g_ft all0)
        have E_a66 := E_a66.keep Kc69
        have F_value_a66 := F_value_a66.keep Kc69 (ninS ne_a66_ft nin0)
        have V_d66 := V_d66.keep Kc69 (ninS ne_d66_ft nin0)
        have E_a67 := E_a67.keep Kc69
        have F_value_a67 := F_value_a67.keep Kc69 (ninS ne_a67_ft nin0)
        have V_d67 := V_d67.keep Kc69 (ninS ne_d67_ft nin0)
        have Z0 := Nat.le_trans Z0 Kc69.1
        show G T69 (mkF m 40 #[.val (.int i1), .val (.int i2), .val (.int i3), .val (.int i4), .val (.int (3 : Int32)), .val (.int (1 : Int32)), .val (.ref a66), .val (.ref a67), .unset, .unset] [(.ref ft)])
        refine hs.go (fun _ kk_ => XS.astore X69.here hx rfl (hb hby at_40) rfl rfl (l' := #[.val (.int i1), .val (.int i2), .val (.int i3), .val (.int i4), .val (.int (3 : Int32)), .val (.int (1 : Int32)), .val (.ref a66), .val (.ref a67), .val (.ref ft), .unset]) rfl kk_) ?_
        show G T69 (mkF m 42 #[.val (.int i1), .val (.int i2), .val (.int i3), .val (.int i4), .val (.int (3 : Int32)), .val (.int (1 : Int32)), .val (.ref a66), .val (.ref a67), .val (.ref ft), .unset] [])
        refine hs.go (fun _ kk_ => XS.iload X69.here hx rfl (hb hby at_42) rfl  kk_) ?_
        show G T69 (mkF m 44 #[.val (.int i1), .val (.int i2), .val (.int i3), .val (.int i4), .val (.int (3 : Int32)), .val (.int (1 : Int32)), .val (.ref a66), .val (.ref a67), .val (.ref ft), .unset] [(.int (3 : Int32))])
        refine hs.go (fun _ kk_ => XS.ifYes X69.here hx rfl (pc0 := 44) (pc' := 52) rfl (hb hby at_44) rfl ((if0 _ _).trans (feq ((by decide) : ¬ ((3 : Int32) = (0 : Int32)))).2) (by decide) (by decide) kk_) ?_
        show G T69 (mkF m 52 #[.val (.int i1), .val (.int i2), .val (.int i3), .val (.int i4), .val (.int (3 : Int32)), .val (.int (1 : Int32)), .val (.ref a66), .val (.ref a67), .val (.ref ft), .unset] [])
        refine hs.go (fun _ kk_ => XS.iconst X69.here hx rfl (hb hby at_52) kk_) ?_
        show G T69 (mkF m 53 #[.val (.int i1), .val (.int i2), .val (.int i3), .val (.int i4), .val (.int (3 : Int32)), .val (.int (1 : Int32)), .val (.ref a66), .val (.ref a67), .val (.ref ft), .unset] [(.int (1 : Int32))])
        refine hs.go (fun _ kk_ => XS.goto X69.here hx rfl (pc0 := 53) (pc' := 57) rfl (hb hby at_53) (by decide) (by decide) kk_) ?_
        show G T69 (mkF m 57 #[.val (.int i1), .val (.int i2), .val (.int i3), .val (.int i4), .val (.int (3 : Int32)), .val (.int (1 : Int32)), .val (.ref a66), .val (.ref a67), .val (.ref ft), .unset] [(.int (1 : Int32))])
        refine hs.go (fun _ kk_ => XS.istore X69.here hx rfl (hb hby at_57) rfl (l' := #[.val (.int i1), .val (.int i2), .val (.int i3), .val (.int i4), .val (.int (3 : Int32)), .val (.int (1 : Int32)), .val (.ref a66), .val (.ref a67), .val (.ref ft), .val (.int (1 : Int32))]) rfl kk_) ?_
        show G T69 (mkF m 59 #[.val (.int i1), .val (.int i2), .val (.int i3), .val (.int i4), .val (.int (3 : Int32)), .val (.int (1 : Int32)), .val (.ref a66), .val (.ref a67), .val (.ref ft), .val (.int (1 : Int32))] [])
        refine hs.go (fun _ kk_ => XS.aload X69.here hx rfl (hb hby at_59) rfl rfl kk_) ?_
        show G T69 (mkF m 61 #[.val (.int i1), .val (.int i2), .val (.int i3), .val (.int i4), .val (.int (3 : Int32)), .val (.int (1 : Int32)), .val (.ref a66), .val (.ref a67), .val (.ref ft), .val (.int (1 : Int32))] [(.ref ft)])
        refine rCallV hs X69 hx hZ (as' := []) Jn.stb (rm10 l Z a0 hw [] ((Jn Z [])) Jn.stb ft a66 a67 d66 d67 kd66 kd67 (3 : Int32) (1 : Int32) vd66 vd67 h69 n0 Z0 F_signsBefore_ft F_signsAfter_ft E_a66 F_value_a66 V_d66 E_a67 F_value_a67 V_d67) E_ft hown (hw _ (List.mem_of_getElem? (i := 59) rfl)) (hw _ (List.mem_of_getElem? (i := 60) rfl)) (hw _ (List.mem_of_getElem? (i := 62) rfl)) (hw _ (List.mem_of_getElem? (i := 61) rfl)) (hw _ (List.mem_of_getElem? (i := 39) rfl)) (hw _ (List.mem_of_getElem? (i := 63) rfl)) hy_10 rfl (by rw [hml]; rfl) [] (lenOf pd_6 rfl) rfl 0 (by show 2 * 0 + _ ≤ _; exact Nat.le_of_eq rfl) (hb hby at_61) (by decide) (by decide) (by decide) (by decide) (fun r70 T70 h70 vm70 X70 q70 => ?_)
        obtain ⟨rfl, qh70, hj70⟩ := q70
        have X70 := X70 _ hj70
        rw [qh70] at X70
        show G T70 (mkF m 64 #[.val (.int i1), .val (.int i2), .val (.int i3), .val (.int i4), .val (.int (3 : Int32)), .val (.int (1 : Int32)), .val (.ref a66), .val (.ref a67), .val (.ref ft), .val (.int (1 : Int32))] [(.int (fws (3 : Int32) (1 : Int32)))])
        refine hs.go (fun _ kk_ => XS.iload X70.here hx rfl (hb hby at_64) rfl  kk_) ?_
        show G T70 (mkF m 66 #[.val (.int i1), .val (.int i2), .val (.int i3), .val (.int i4), .val (.int (3 : Int32)), .val (.int (1 : Int32)), .val (.ref a66), .val (.ref a67), .val (.ref ft), .val (.int (1 : Int32))] [(.int (1 : Int32)), (.int (fws (3 : Int32) (1 : Int32)))])
        refine hs.go (fun _ kk_ => XS.icmpNo X70.here hx rfl (hb hby at_66) rfl (teq ((by decide) : (fws (3 : Int32) (1 : Int32)) = (1 : Int32))).2 kk_) ?_
        show G T70 (mkF m 69 #[.val (.int i1), .val (.int i2), .val (.int i3), .val (.int i4), .val (.int (3 : Int32)), .val (.int (1 : Int32)), .val (.ref a66), .val (.ref a67), .val (.ref ft), .val (.int (1 : Int32))] [])
        refine hs.go (fun _ kk_ => XS.iconst X70.here hx rfl (hb hby at_69) kk_) ?_
        show G T70 (mkF m 70 #[.val (.int i1), .val (.int i2), .val (.int i3), .val (.int i4), .val (.int (3 : Int32)), .val (.int (1 : Int32)), .val (.ref a66), .val (.ref a67), .val (.ref ft), .val (.int (1 : Int32))] [(.int (1 : Int32))])
        refine hs.go (fun _ kk_ => XS.goto X70.here hx rfl (pc0 := 70) (pc' := 74) rfl (hb hby at_70) (by decide) (by decide) kk_) ?_
        show G T70 (mkF m 74 #[.val (.int i1), .val (.int i2), .val (.int i3), .val (.int i4), .val (.int (3 : Int32)), .val (.int (1 : Int32)), .val (.ref a66), .val (.ref a67), .val (.ref ft), .val (.int (1 : Int32))] [(.int (1 : Int32))])
        exact rRetN fin Jn.stb X70 hx (by decide) (by decide) hret (by simp) (hb hby at_74) (z' := (1 : Int32)) (by decide) (fun vm' hj => rfl)
    · subst e_
      show G s₁ (mkF m 10 #[.val (.int i1), .val (.int i2), .val (.int i3), .val (.int i4), .val (.int (3 : Int32)), .val (.int (2 : Int32)), .unset, .unset, .unset, .unset] [])
      refine hs.go (fun _ kk_ => XS.iload X0.here hx rfl (hb hby at_10) rfl  kk_) ?_
      show G s₁ (mkF m 12 #[.val (.int i1), .val (.int i2), .val (.int i3), .val (.int i4), .val (.int (3 : Int32)), .val (.int (2 : Int32)), .unset, .unset, .unset, .unset] [(.int (3 : Int32))])
      refine hs.go (fun _ kk_ => XS.iloadN X0.here hx rfl (hb hby at_12) rfl  kk_) ?_
      show G s₁ (mkF m 13 #[.val (.int i1), .val (.int i2), .val (.int i3), .val (.int i4), .val (.int (3 : Int32)), .val (.int (2 : Int32)), .unset, .unset, .unset, .unset] [(.int i2), (.int (3 : Int32))])
      refine rCallS hs X0 hx hZ (as' := [(.int (3 : Int32)), (.int i2)]) Jn.stb (tx_3 l Z a0 hw [] ((Jn Z [])) Jn.stb i2 h0 n0 Z0 O cw S0 hcw) hown (hw _ (List.mem_of_getElem? (i := 0) rfl)) (hw _ (List.mem_of_getElem? (i := 1) rfl)) (hw _ (List.mem_of_getElem? (i := 2) rfl)) (hw _ (List.mem_of_getElem? (i := 3) rfl)) hy_1 rfl (by rw [hml]; rfl) [] (lenOf pd_7 rfl) rfl 0 (by show 2 * 0 + _ ≤ _; exact Nat.le_of_eq rfl) (hb hby at_13) (by decide) (by decide) (by decide) (by decide) (fun r71 T71 h71 vm71 X71 q71 => ?_)
      obtain ⟨a71, d71, kd71, vd71, rfl, Kc71, E_a71, F_value_a71, V_d71, hj71⟩ := q71
      have X71 := X71 _ hj71
      have O := O.keep Kc71 all0
      have Z0 := Nat.le_trans Z0 Kc71.1
      show G T71 (mkF m 16 #[.val (.int i1), .val (.int i2), .val (.int i3), .val (.int i4), .val (.int (3 : Int32)), .val (.int (2 : Int32)), .unset, .unset, .unset, .unset] [(.ref a71)])
      refine hs.go (fun _ kk_ => XS.astore X71.here hx rfl (hb hby at_16) rfl rfl (l' := #[.val (.int i1), .val (.int i2), .val (.int i3), .val (.int i4), .val (.int (3 : Int32)), .val (.int (2 : Int32)), .val (.ref a71), .unset, .unset, .unset]) rfl kk_) ?_
      show G T71 (mkF m 18 #[.val (.int i1), .val (.int i2), .val (.int i3), .val (.int i4), .val (.int (3 : Int32)), .val (.int (2 : Int32)), .val (.ref a71), .unset, .unset, .unset] [])
      refine hs.go (fun _ kk_ => XS.iload X71.here hx rfl (hb hby at_18) rfl  kk_) ?_
      show G T71 (mkF m 20 #[.val (.int i1), .val (.int i2), .val (.int i3), .val (.int i4), .val (.int (3 : Int32)), .val (.int (2 : Int32)), .val (.ref a71), .unset, .unset, .unset] [(.int (2 : Int32))])
      refine hs.go (fun _ kk_ => XS.iloadN X71.here hx rfl (hb hby at_20) rfl  kk_) ?_
      show G T71 (mkF m 21 #[.val (.int i1), .val (.int i2), .val (.int i3), .val (.int i4), .val (.int (3 : Int32)), .val (.int (2 : Int32)), .val (.ref a71), .unset, .unset, .unset] [(.int i4), (.int (2 : Int32))])
      refine rCallS hs X71 hx hZ (as' := [(.int (2 : Int32)), (.int i4)]) Jn.stb (tx_2 l Z a0 hw [] ((Jn Z [])) Jn.stb i4 h71 n0 Z0 O cw S0 hcw) hown (hw _ (List.mem_of_getElem? (i := 0) rfl)) (hw _ (List.mem_of_getElem? (i := 1) rfl)) (hw _ (List.mem_of_getElem? (i := 2) rfl)) (hw _ (List.mem_of_getElem? (i := 3) rfl)) hy_1 rfl (by rw [hml]; rfl) [] (lenOf pd_7 rfl) rfl 0 (by show 2 * 0 + _ ≤ _; exact Nat.le_of_eq rfl) (hb hby at_21) (by decide) (by decide) (by decide) (by decide) (fun r72 T72 h72 vm72 X72 q72 => ?_)
      obtain ⟨a72, d72, kd72, vd72, rfl, Kc72, E_a72, F_value_a72, V_d72, hj72⟩ := q72
      have X72 := X72 _ hj72
      have O := O.keep Kc72 all0
      have E_a71 := E_a71.keep Kc72
      have F_value_a71 := F_value_a71.keep Kc72 nin0
      have V_d71 := V_d71.keep Kc72 nin0
      have Z0 := Nat.le_trans Z0 Kc72.1
      show G T72 (mkF m 24 #[.val (.int i1), .val (.int i2), .val (.int i3), .val (.int i4), .val (.int (3 : Int32)), .val (.int (2 : Int32)), .val (.ref a71), .unset, .unset, .unset] [(.ref a72)])
      refine hs.go (fun _ kk_ => XS.astore X72.here hx rfl (hb hby at_24) rfl rfl (l' := #[.val (.int i1), .val (.int i2), .val (.int i3), .val (.int i4), .val (.int (3 : Int32)), .val (.int (2 : Int32)), .val (.ref a71), .val (.ref a72), .unset, .unset]) rfl kk_) ?_
      show G T72 (mkF m 26 #[.val (.int i1), .val (.int i2), .val (.int i3), .val (.int i4), .val (.int (3 : Int32)), .val (.int (2 : Int32)), .val (.ref a71), .val (.ref a72), .unset, .unset] [])
      as_aux_lemma =>
        refine rNewO hs X72 hx hZ hown (hw _ (List.mem_of_getElem? (i := 37) rfl)) (hw _ (List.mem_of_getElem? (i := 38) rfl)) (hw _ (List.mem_of_getElem? (i := 39) rfl)) rfl (hb hby at_26) (by decide) (by decide) (fun T73 h73 ft g73 X73 E73 E_ft D73 => ?_)
        have g_ft : n0 ≤ ft := by rw [g73]; exact Z0
        have Z0 := Nat.le_trans Z0 E73.1
        have ne_a71_ft : a71 ≠ ft := Nat.ne_of_lt (Nat.lt_of_lt_of_le E_a71.lt (Nat.le_of_eq g73.symm))
        have ne_d71_ft : d71 ≠ ft := Nat.ne_of_lt (Nat.lt_of_lt_of_le V_d71.lt (Nat.le_of_eq g73.symm))
        have ne_a72_ft : a72 ≠ ft := Nat.ne_of_lt (Nat.lt_of_lt_of_le E_a72.lt (Nat.le_of_eq g73.symm))
        have ne_d72_ft : d72 ≠ ft := Nat.ne_of_lt (Nat.lt_of_lt_of_le V_d72.lt (Nat.le_of_eq g73.symm))
        have O := O.ext E73
        have E_a71 := E_a71.ext E73
        have F_value_a71 := F_value_a71.ext E73
        have V_d71 := V_d71.ext E73
        have E_a72 := E_a72.ext E73
        have F_value_a72 := F_value_a72.ext E73
        have V_d72 := V_d72.ext E73
        have F_words_ft : Fld Z h73 ft "com/example/farthing/farthing/format/FormText" "words" "Ljava/util/Set;" .null := D73 (Or.inr (hw _ (List.mem_of_getElem? (i := 50) rfl))) (ty := (.object "java/util/Set")) (by decide)
        have F_wordsBeforeCurrency_ft : Fld Z h73 ft "com/example/farthing/farthing/format/FormText" "wordsBeforeCurrency" "Ljava/util/Set;" .null := D73 (Or.inr (hw _ (List.mem_of_getElem? (i := 52) rfl))) (ty := (.object "java/util/Set")) (by decide)
        have F_wordsAfterCurrency_ft : Fld Z h73 ft "com/example/farthing/farthing/format/FormText" "wordsAfterCurrency" "Ljava/util/Set;" .null := D73 (Or.inr (hw _ (List.mem_of_getElem? (i := 54) rfl))) (ty := (.object "java/util/Set")) (by decide)
        have F_signsBefore_ft : Fld Z h73 ft "com/example/farthing/farthing/format/FormText" "signsBefore" "Ljava/lang/String;" .null := D73 (Or.inr (hw _ (List.mem_of_getElem? (i := 56) rfl))) (ty := (.object "java/lang/String")) (by decide)
        have F_signsAfter_ft : Fld Z h73 ft "com/example/farthing/farthing/format/FormText" "signsAfter" "Ljava/lang/String;" .null := D73 (Or.inr (hw _ (List.mem_of_getElem? (i := 58) rfl))) (ty := (.object "java/lang/String")) (by decide)
        show G T73 (mkF m 29 #[.val (.int i1), .val (.int i2), .val (.int i3), .val (.int i4), .val (.int (3 : Int32)), .val (.int (2 : Int32)), .val (.ref a71), .val (.ref a72), .unset, .unset] [(.ref ft)])
        refine hs.go (fun _ kk_ => XS.dup X73.here hx rfl (hb hby at_29) rfl rfl kk_) ?_
        show G T73 (mkF m 30 #[.val (.int i1), .val (.int i2), .val (.int i3), .val (.int i4), .val (.int (3 : Int32)), .val (.int (2 : Int32)), .val (.ref a71), .val (.ref a72), .unset, .unset] [(.ref ft), (.ref ft)])
        refine hs.go (fun _ kk_ => XS.aconstNull X73.here hx rfl (hb hby at_30) kk_) ?_
        show G T73 (mkF m 31 #[.val (.int i1), .val (.int i2), .val (.int i3), .val (.int i4), .val (.int (3 : Int32)), .val (.int (2 : Int32)), .val (.ref a71), .val (.ref a72), .unset, .unset] [.null, (.ref ft), (.ref ft)])
        refine hs.go (fun _ kk_ => XS.aconstNull X73.here hx rfl (hb hby at_31) kk_) ?_
        show G T73 (mkF m 32 #[.val (.int i1), .val (.int i2), .val (.int i3), .val (.int i4), .val (.int (3 : Int32)), .val (.int (2 : Int32)), .val (.ref a71), .val (.ref a72), .unset, .unset] [.null, .null, (.ref ft), (.ref ft)])
        refine hs.go (fun _ kk_ => XS.aconstNull X73.here hx rfl (hb hby at_32) kk_) ?_
        show G T73 (mkF m 33 #[.val (.int i1), .val (.int i2), .val (.int i3), .val (.int i4), .val (.int (3 : Int32)), .val (.int (2 : Int32)), .val (.ref a71), .val (.ref a72), .unset, .unset] [.null, .null, .null, (.ref ft), (.ref ft)])
        refine hs.go (fun _ kk_ => XS.aload X73.here hx rfl (hb hby at_33) rfl rfl kk_) ?_
        show G T73 (mkF m 35 #[.val (.int i1), .val (.int i2), .val (.int i3), .val (.int i4), .val (.int (3 : Int32)), .val (.int (2 : Int32)), .val (.ref a71), .val (.ref a72), .unset, .unset] [(.ref a71), .null, .null, .null, (.ref ft), (.ref ft)])
        refine hs.go (fun _ kk_ => XS.aload X73.here hx rfl (hb hby at_35) rfl rfl kk_) ?_
        show G T73 (mkF m 37 #[.val (.int i1), .val (.int i2), .val (.int i3), .val (.int i4), .val (.int (3 : Int32)), .val (.int (2 : Int32)), .val (.ref a71), .val (.ref a72), .unset, .unset] [(.ref a72), (.ref a71), .null, .null, .null, (.ref ft), (.ref ft)])
        refine rCallI hs X73 hx hZ (as' := [.null, .null, .null, (.ref a71), (.ref a72)]) Jn.stb (rm8 l Z a0 hw [] ((Jn Z [])) Jn.stb ft a71 a72 h73 n0 Z0 E_ft g_ft F_words_ft F_wordsBeforeCurrency_ft F_wordsAfterCurrency_ft F_signsBefore_ft F_signsAfter_ft) rfl hown (hw _ (List.mem_of_getElem? (i := 40) rfl)) (hw _ (List.mem_of_getElem? (i := 41) rfl)) (hw _ (List.mem_of_getElem? (i := 39) rfl)) (hw _ (List.mem_of_getElem? (i := 42) rfl)) hy_8 rfl (by rw [hml]; rfl) [(.ref ft)] (lenOf pd_8 rfl) rfl 1 (by show 2 * 0 + _ ≤ _; exact Nat.le_of_eq rfl) (hb hby at_37) (by decide) (by decide) (by decide) (by decide) (fun r74 T74 h74 vm74 X74 q74 => ?_)
        obtain ⟨rfl, Kc74, E_ft, F_signsBefore_ft, F_signsAfter_ft, hj74⟩ := q74
        have X74 := X74 _ hj74
        have O := O.keep Kc74 (allS g_ft all0)
        have E_a71 := E_a71.keep Kc74
        have F_value_a71 := F_value_a71.keep Kc74 (ninS ne_a71_ft nin0)
        have V_d71 := V_d71.keep Kc74 (ninS ne_d71_ft nin0)
        have E_a72 := E_a72.keep Kc74
        have F_value_a72 := F_value_a72.keep Kc74 (ninS ne_a72_ft nin0)
        have V_d72 := V_d72.keep Kc74 (ninS ne_d72_ft nin0)
        have Z0 := Nat.le_trans Z0 Kc74.1
        show G T74 (mkF m 40 #[.val (.int i1), .val (.int i2), .val (.int i3), .val (.int i4), .val (.int (3 : Int32)), .val (.int (2 : Int32)), .val (.ref a71), .val (.ref a72), .unset, .unset] [(.ref ft)])
        refine hs.go (fun _ kk_ => XS.astore X74.here hx rfl (hb hby at_40) rfl rfl (l' := #[.val (.int i1), .val (.int i2), .val (.int i3), .val (.int i4), .val (.int (3 : Int32)), .val (.int (2 : Int32)), .val (.ref a71), .val (.ref a72), .val (.ref ft), .unset]) rfl kk_) ?_
        show G T74 (mkF m 42 #[.val (.int i1), .val (.int i2), .val (.int i3), .val (.int i4), .val (.int (3 : Int32)), .val (.int (2 : Int32)), .val (.ref a71), .val (.ref a72), .val (.ref ft), .unset] [])
        refine hs.go (fun _ kk_ => XS.iload X74.here hx rfl (hb hby at_42) rfl  kk_) ?_
        show G T74 (mkF m 44 #[.val (.int i1), .val (.int i2), .val (.int i3), .val (.int i4), .val (.int (3 : Int32)), .val (.int (2 : Int32)), .val (.ref a71), .val (.ref a72), .val (.ref ft), .unset] [(.int (3 : Int32))])
        refine hs.go (fun _ kk_ => XS.ifYes X74.here hx rfl (pc0 := 44) (pc' := 52) rfl (hb hby at_44) rfl ((if0 _ _).trans (feq ((by decide) : ¬ ((3 : Int32) = (0 : Int32)))).2) (by decide) (by decide) kk_) ?_
        show G T74 (mkF m 52 #[.val (.int i1), .val (.int i2), .val (.int i3), .val (.int i4), .val (.int (3 : Int32)), .val (.int (2 : Int32)), .val (.ref a71), .val (.ref a72), .val (.ref ft), .unset] [])
        refine hs.go (fun _ kk_ => XS.iconst X74.here hx rfl (hb hby at_52) kk_) ?_
        show G T74 (mkF m 53 #[.val (.int i1), .val (.int i2), .val (.int i3), .val (.int i4), .val (.int (3 : Int32)), .val (.int (2 : Int32)), .val (.ref a71), .val (.ref a72), .val (.ref ft), .unset] [(.int (1 : Int32))])
        refine hs.go (fun _ kk_ => XS.goto X74.here hx rfl (pc0 := 53) (pc' := 57) rfl (hb hby at_53) (by decide) (by decide) kk_) ?_
        show G T74 (mkF m 57 #[.val (.int i1), .val (.int i2), .val (.int i3), .val (.int i4), .val (.int (3 : Int32)), .val (.int (2 : Int32)), .val (.ref a71), .val (.ref a72), .val (.ref ft), .unset] [(.int (1 : Int32))])
        refine hs.go (fun _ kk_ => XS.istore X74.here hx rfl (hb hby at_57) rfl (l' := #[.val (.int i1), .val (.int i2), .val (.int i3), .val (.int i4), .val (.int (3 : Int32)), .val (.int (2 : Int32)), .val (.ref a71), .val (.ref a72), .val (.ref ft), .val (.int (1 : Int32))]) rfl kk_) ?_
        show G T74 (mkF m 59 #[.val (.int i1), .val (.int i2), .val (.int i3), .val (.int i4), .val (.int (3 : Int32)), .val (.int (2 : Int32)), .val (.ref a71), .val (.ref a72), .val (.ref ft), .val (.int (1 : Int32))] [])
        refine hs.go (fun _ kk_ => XS.aload X74.here hx rfl (hb hby at_59) rfl rfl kk_) ?_
        show G T74 (mkF m 61 #[.val (.int i1), .val (.int i2), .val (.int i3), .val (.int i4), .val (.int (3 : Int32)), .val (.int (2 : Int32)), .val (.ref a71), .val (.ref a72), .val (.ref ft), .val (.int (1 : Int32))] [(.ref ft)])
        refine rCallV hs X74 hx hZ (as' := []) Jn.stb (rm10 l Z a0 hw [] ((Jn Z [])) Jn.stb ft a71 a72 d71 d72 kd71 kd72 (3 : Int32) (2 : Int32) vd71 vd72 h74 n0 Z0 F_signsBefore_ft F_signsAfter_ft E_a71 F_value_a71 V_d71 E_a72 F_value_a72 V_d72) E_ft hown (hw _ (List.mem_of_getElem? (i := 59) rfl)) (hw _ (List.mem_of_getElem? (i := 60) rfl)) (hw _ (List.mem_of_getElem? (i := 62) rfl)) (hw _ (List.mem_of_getElem? (i := 61) rfl)) (hw _ (List.mem_of_getElem? (i := 39) rfl)) (hw _ (List.mem_of_getElem? (i := 63) rfl)) hy_10 rfl (by rw [hml]; rfl) [] (lenOf pd_6 rfl) rfl 0 (by show 2 * 0 + _ ≤ _; exact Nat.le_of_eq rfl) (hb hby at_61) (by decide) (by decide) (by decide) (by decide) (fun r75 T75 h75 vm75 X75 q75 => ?_)
        obtain ⟨rfl, qh75, hj75⟩ := q75
        have X75 := X75 _ hj75
        rw [qh75] at X75
        show G T75 (mkF m 64 #[.val (.int i1), .val (.int i2), .val (.int i3), .val (.int i4), .val (.int (3 : Int32)), .val (.int (2 : Int32)), .val (.ref a71), .val (.ref a72), .val (.ref ft), .val (.int (1 : Int32))] [(.int (fws (3 : Int32) (2 : Int32)))])
        refine hs.go (fun _ kk_ => XS.iload X75.here hx rfl (hb hby at_64) rfl  kk_) ?_
        show G T75 (mkF m 66 #[.val (.int i1), .val (.int i2), .val (.int i3), .val (.int i4), .val (.int (3 : Int32)), .val (.int (2 : Int32)), .val (.ref a71), .val (.ref a72), .val (.ref ft), .val (.int (1 : Int32))] [(.int (1 : Int32)), (.int (fws (3 : Int32) (2 : Int32)))])
        refine hs.go (fun _ kk_ => XS.icmpNo X75.here hx rfl (hb hby at_66) rfl (teq ((by decide) : (fws (3 : Int32) (2 : Int32)) = (1 : Int32))).2 kk_) ?_
        show G T75 (mkF m 69 #[.val (.int i1), .val (.int i2), .val (.int i3), .val (.int i4), .val (.int (3 : Int32)), .val (.int (2 : Int32)), .val (.ref a71), .val (.ref a72), .val (.ref ft), .val (.int (1 : Int32))] [])
        refine hs.go (fun _ kk_ => XS.iconst X75.here hx rfl (hb hby at_69) kk_) ?_
        show G T75 (mkF m 70 #[.val (.int i1), .val (.int i2), .val (.int i3), .val (.int i4), .val (.int (3 : Int32)), .val (.int (2 : Int32)), .val (.ref a71), .val (.ref a72), .val (.ref ft), .val (.int (1 : Int32))] [(.int (1 : Int32))])
        refine hs.go (fun _ kk_ => XS.goto X75.here hx rfl (pc0 := 70) (pc' := 74) rfl (hb hby at_70) (by decide) (by decide) kk_) ?_
        show G T75 (mkF m 74 #[.val (.int i1), .val (.int i2), .val (.int i3), .val (.int i4), .val (.int (3 : Int32)), .val (.int (2 : Int32)), .val (.ref a71), .val (.ref a72), .val (.ref ft), .val (.int (1 : Int32))] [(.int (1 : Int32))])
        exact rRetN fin Jn.stb X75 hx (by decide) (by decide) hret (by simp) (hb hby at_74) (z' := (1 : Int32)) (by decide) (fun vm' hj => rfl)
    · subst e_
      show G s₁ (mkF m 10 #[.val (.int i1), .val (.int i2), .val (.int i3), .val (.int i4), .val (.int (3 : Int32)), .val (.int (3 : Int32)), .unset, .unset, .unset, .unset] [])
      refine hs.go (fun _ kk_ => XS.iload X0.here hx rfl (hb hby at_10) rfl  kk_) ?_
      show G s₁ (mkF m 12 #[.val (.int i1), .val (.int i2), .val (.int i3), .val (.int i4), .val (.int (3 : Int32)), .val (.int (3 : Int32)), .unset, .unset, .unset, .unset] [(.int (3 : Int32))])
      refine hs.go (fun _ kk_ => XS.iloadN X0.here hx rfl (hb hby at_12) rfl  kk_) ?_
      show G s₁ (mkF m 13 #[.val (.int i1), .val (.int i2), .val (.int i3), .val (.int i4), .val (.int (3 : Int32)), .val (.int (3 : Int32)), .unset, .unset, .unset, .unset] [(.int i2), (.int (3 : Int32))])
      refine rCallS hs X0 hx hZ (as' := [(.int (3 : Int32)), (.int i2)]) Jn.stb (tx_3 l Z a0 hw [] ((Jn Z [])) Jn.stb i2 h0 n0 Z0 O cw S0 hcw) hown (hw _ (List.mem_of_getElem? (i := 0) rfl)) (hw _ (List.mem_of_getElem? (i := 1) rfl)) (hw _ (List.mem_of_getElem? (i := 2) rfl)) (hw _ (List.mem_of_getElem? (i := 3) rfl)) hy_1 rfl (by rw [hml]; rfl) [] (lenOf pd_7 rfl) rfl 0 (by show 2 * 0 + _ ≤ _; exact Nat.le_of_eq rfl) (hb hby at_13) (by decide) (by decide) (by decide) (by decide) (fun r76 T76 h76 vm76 X76 q76 => ?_)
      obtain ⟨a76, d76, kd76, vd76, rfl, Kc76, E_a76, F_value_a76, V_d76, hj76⟩ := q76
      have X76 := X76 _ hj76
      have O := O.keep Kc76 all0
      have Z0 := Nat.le_trans Z0 Kc76.1
      show G T76 (mkF m 16 #[.val (.int i1), .val (.int i2), .val (.int i3), .val (.int i4), .val (.int (3 : Int32)), .val (.int (3 : Int32)), .unset, .unset, .unset, .unset] [(.ref a76)])
      refine hs.go (fun _ kk_ => XS.astore X76.here hx rfl (hb hby at_16) rfl rfl (l' := #[.val (.int i1), .val (.int i2), .val (.int i3), .val (.int i4), .val (.int (3 : Int32)), .val (.int (3 : Int32)), .val (.ref a76), .unset, .unset, .unset]) rfl kk_) ?_
      show G T76 (mkF m 18 #[.val (.int i1), .val (.int i2), .val (.int i3), .val (.int i4), .val (.int (3 : Int32)), .val (.int (3 : Int32)), .val (.ref a76), .unset, .unset, .unset] [])
      refine hs.go (fun _ kk_ => XS.iload X76.here hx rfl (hb hby at_18) rfl  kk_) ?_
      show G T76 (mkF m 20 #[.val (.int i1), .val (.int i2), .val (.int i3), .val (.int i4), .val (.int (3 : Int32)), .val (.int (3 : Int32)), .val (.ref a76), .unset, .unset, .unset] [(.int (3 : Int32))])
      refine hs.go (fun _ kk_ => XS.iloadN X76.here hx rfl (hb hby at_20) rfl  kk_) ?_
      show G T76 (mkF m 21 #[.val (.int i1), .val (.int i2), .val (.int i3), .val (.int i4), .val (.int (3 : Int32)), .val (.int (3 : Int32)), .val (.ref a76), .unset, .unset, .unset] [(.int i4), (.int (3 : Int32))])
      refine rCallS hs X76 hx hZ (as' := [(.int (3 : Int32)), (.int i4)]) Jn.stb (tx_3 l Z a0 hw [] ((Jn Z [])) Jn.stb i4 h76 n0 Z0 O cw S0 hcw) hown (hw _ (List.mem_of_getElem? (i := 0) rfl)) (hw _ (List.mem_of_getElem? (i := 1) rfl)) (hw _ (List.mem_of_getElem? (i := 2) rfl)) (hw _ (List.mem_of_getElem? (i := 3) rfl)) hy_1 rfl (by rw [hml]; rfl) [] (lenOf pd_7 rfl) rfl 0 (by show 2 * 0 + _ ≤ _; exact Nat.le_of_eq rfl) (hb hby at_21) (by decide) (by decide) (by decide) (by decide) (fun r77 T77 h77 vm77 X77 q77 => ?_)
      obtain ⟨a77, d77, kd77, vd77, rfl, Kc77, E_a77, F_value_a77, V_d77, hj77⟩ := q77
      have X77 := X77 _ hj77
      have O := O.keep Kc77 all0
      have E_a76 := E_a76.keep Kc77
      have F_value_a76 := F_value_a76.keep Kc77 nin0
      have V_d76 := V_d76.keep Kc77 nin0
      have Z0 := Nat.le_trans Z0 Kc77.1
      show G T77 (mkF m 24 #[.val (.int i1), .val (.int i2), .val (.int i3), .val (.int i4), .val (.int (3 : Int32)), .val (.int (3 : Int32)), .val (.ref a76), .unset, .unset, .unset] [(.ref a77)])
      refine hs.go (fun _ kk_ => XS.astore X77.here hx rfl (hb hby at_24) rfl rfl (l' := #[.val (.int i1), .val (.int i2), .val (.int i3), .val (.int i4), .val (.int (3 : Int32)), .val (.int (3 : Int32)), .val (.ref a76), .val (.ref a77), .unset, .unset]) rfl kk_) ?_
      show G T77 (mkF m 26 #[.val (.int i1), .val (.int i2), .val (.int i3), .val (.int i4), .val (.int (3 : Int32)), .val (.int (3 : Int32)), .val (.ref a76), .val (.ref a77), .unset, .unset] [])
      as_aux_lemma =>
        refine rNewO hs X77 hx hZ hown (hw _ (List.mem_of_getElem? (i := 37) rfl)) (hw _ (List.mem_of_getElem? (i := 38) rfl)) (hw _ (List.mem_of_getElem? (i := 39) rfl)) rfl (hb hby at_26) (by decide) (by decide) (fun T78 h78 ft g78 X78 E78 E_ft D78 => ?_)
        have g_ft : n0 ≤ ft := by rw [g78]; exact Z0
        have Z0 := Nat.le_trans Z0 E78.1
        have ne_a76_ft : a76 ≠ ft := Nat.ne_of_lt (Nat.lt_of_lt_of_le E_a76.lt (Nat.le_of_eq g78.symm))
        have ne_d76_ft : d76 ≠ ft := Nat.ne_of_lt (Nat.lt_of_lt_of_le V_d76.lt (Nat.le_of_eq g78.symm))
        have ne_a77_ft : a77 ≠ ft := Nat.ne_of_lt (Nat.lt_of_lt_of_le E_a77.lt (Nat.le_of_eq g78.symm))
        have ne_d77_ft : d77 ≠ ft := Nat.ne_of_lt (Nat.lt_of_lt_of_le V_d77.lt (Nat.le_of_eq g78.symm))
        have O := O.ext E78
        have E_a76 := E_a76.ext E78
        have F_value_a76 := F_value_a76.ext E78
        have V_d76 := V_d76.ext E78
        have E_a77 := E_a77.ext E78
        have F_value_a77 := F_value_a77.ext E78
        have V_d77 := V_d77.ext E78
        have F_words_ft : Fld Z h78 ft "com/example/farthing/farthing/format/FormText" "words" "Ljava/util/Set;" .null := D78 (Or.inr (hw _ (List.mem_of_getElem? (i := 50) rfl))) (ty := (.object "java/util/Set")) (by decide)
        have F_wordsBeforeCurrency_ft : Fld Z h78 ft "com/example/farthing/farthing/format/FormText" "wordsBeforeCurrency" "Ljava/util/Set;" .null := D78 (Or.inr (hw _ (List.mem_of_getElem? (i := 52) rfl))) (ty := (.object "java/util/Set")) (by decide)
        have F_wordsAfterCurrency_ft : Fld Z h78 ft "com/example/farthing/farthing/format/FormText" "wordsAfterCurrency" "Ljava/util/Set;" .null := D78 (Or.inr (hw _ (List.mem_of_getElem? (i := 54) rfl))) (ty := (.object "java/util/Set")) (by decide)
        have F_signsBefore_ft : Fld Z h78 ft "com/example/farthing/farthing/format/FormText" "signsBefore" "Ljava/lang/String;" .null := D78 (Or.inr (hw _ (List.mem_of_getElem? (i := 56) rfl))) (ty := (.object "java/lang/String")) (by decide)
        have F_signsAfter_ft : Fld Z h78 ft "com/example/farthing/farthing/format/FormText" "signsAfter" "Ljava/lang/String;" .null := D78 (Or.inr (hw _ (List.mem_of_getElem? (i := 58) rfl))) (ty := (.object "java/lang/String")) (by decide)
        show G T78 (mkF m 29 #[.val (.int i1), .val (.int i2), .val (.int i3), .val (.int i4), .val (.int (3 : Int32)), .val (.int (3 : Int32)), .val (.ref a76), .val (.ref a77), .unset, .unset] [(.ref ft)])
        refine hs.go (fun _ kk_ => XS.dup X78.here hx rfl (hb hby at_29) rfl rfl kk_) ?_
        show G T78 (mkF m 30 #[.val (.int i1), .val (.int i2), .val (.int i3), .val (.int i4), .val (.int (3 : Int32)), .val (.int (3 : Int32)), .val (.ref a76), .val (.ref a77), .unset, .unset] [(.ref ft), (.ref ft)])
        refine hs.go (fun _ kk_ => XS.aconstNull X78.here hx rfl (hb hby at_30) kk_) ?_
        show G T78 (mkF m 31 #[.val (.int i1), .val (.int i2), .val (.int i3), .val (.int i4), .val (.int (3 : Int32)), .val (.int (3 : Int32)), .val (.ref a76), .val (.ref a77), .unset, .unset] [.null, (.ref ft), (.ref ft)])
        refine hs.go (fun _ kk_ => XS.aconstNull X78.here hx rfl (hb hby at_31) kk_) ?_
        show G T78 (mkF m 32 #[.val (.int i1), .val (.int i2), .val (.int i3), .val (.int i4), .val (.int (3 : Int32)), .val (.int (3 : Int32)), .val (.ref a76), .val (.ref a77), .unset, .unset] [.null, .null, (.ref ft), (.ref ft)])
        refine hs.go (fun _ kk_ => XS.aconstNull X78.here hx rfl (hb hby at_32) kk_) ?_
        show G T78 (mkF m 33 #[.val (.int i1), .val (.int i2), .val (.int i3), .val (.int i4), .val (.int (3 : Int32)), .val (.int (3 : Int32)), .val (.ref a76), .val (.ref a77), .unset, .unset] [.null, .null, .null, (.ref ft), (.ref ft)])
        refine hs.go (fun _ kk_ => XS.aload X78.here hx rfl (hb hby at_33) rfl rfl kk_) ?_
        show G T78 (mkF m 35 #[.val (.int i1), .val (.int i2), .val (.int i3), .val (.int i4), .val (.int (3 : Int32)), .val (.int (3 : Int32)), .val (.ref a76), .val (.ref a77), .unset, .unset] [(.ref a76), .null, .null, .null, (.ref ft), (.ref ft)])
        refine hs.go (fun _ kk_ => XS.aload X78.here hx rfl (hb hby at_35) rfl rfl kk_) ?_
        show G T78 (mkF m 37 #[.val (.int i1), .val (.int i2), .val (.int i3), .val (.int i4), .val (.int (3 : Int32)), .val (.int (3 : Int32)), .val (.ref a76), .val (.ref a77), .unset, .unset] [(.ref a77), (.ref a76), .null, .null, .null, (.ref ft), (.ref ft)])
        refine rCallI hs X78 hx hZ (as' := [.null, .null, .null, (.ref a76), (.ref a77)]) Jn.stb (rm8 l Z a0 hw [] ((Jn Z [])) Jn.stb ft a76 a77 h78 n0 Z0 E_ft g_ft F_words_ft F_wordsBeforeCurrency_ft F_wordsAfterCurrency_ft F_signsBefore_ft F_signsAfter_ft) rfl hown (hw _ (List.mem_of_getElem? (i := 40) rfl)) (hw _ (List.mem_of_getElem? (i := 41) rfl)) (hw _ (List.mem_of_getElem? (i := 39) rfl)) (hw _ (List.mem_of_getElem? (i := 42) rfl)) hy_8 rfl (by rw [hml]; rfl) [(.ref ft)] (lenOf pd_8 rfl) rfl 1 (by show 2 * 0 + _ ≤ _; exact Nat.le_of_eq rfl) (hb hby at_37) (by decide) (by decide) (by decide) (by decide) (fun r79 T79 h79 vm79 X79 q79 => ?_)
        obtain ⟨rfl, Kc79, E_ft, F_signsBefore_ft, F_signsAfter_ft, hj79⟩ := q79
        have X79 := X79 _ hj79
        have O := O.keep Kc79 (allS g_ft all0)
        have E_a76 := E_a76.keep Kc79
        have F_value_a76 := F_value_a76.keep Kc79 (ninS ne_a76_ft nin0)
        have V_d76 := V_d76.keep Kc79 (ninS ne_d76_ft nin0)
        have E_a77 := E_a77.keep Kc79
        have F_value_a77 := F_value_a77.keep Kc79 (ninS ne_a77_ft nin0)
        have V_d77 := V_d77.keep Kc79 (ninS ne_d77_ft nin0)
        have Z0 := Nat.le_trans Z0 Kc79.1
        show G T79 (mkF m 40 #[.val (.int i1), .val (.int i2), .val (.int i3), .val (.int i4), .val (.int (3 : Int32)), .val (.int (3 : Int32)), .val (.ref a76), .val (.ref a77), .unset, .unset] [(.ref ft)])
        refine hs.go (fun _ kk_ => XS.astore X79.here hx rfl (hb hby at_40) rfl rfl (l' := #[.val (.int i1), .val (.int i2), .val (.int i3), .val (.int i4), .val (.int (3 : Int32)), .val (.int (3 : Int32)), .val (.ref a76), .val (.ref a77), .val (.ref ft), .unset]) rfl kk_) ?_
        show G T79 (mkF m 42 #[.val (.int i1), .val (.int i2), .val (.int i3), .val (.int i4), .val (.int (3 : Int32)), .val (.int (3 : Int32)), .val (.ref a76), .val (.ref a77), .val (.ref ft), .unset] [])
        refine hs.go (fun _ kk_ => XS.iload X79.here hx rfl (hb hby at_42) rfl  kk_) ?_
        show G T79 (mkF m 44 #[.val (.int i1), .val (.int i2), .val (.int i3), .val (.int i4), .val (.int (3 : Int32)), .val (.int (3 : Int32)), .val (.ref a76), .val (.ref a77), .val (.ref ft), .unset] [(.int (3 : Int32))])
        refine hs.go (fun _ kk_ => XS.ifYes X79.here hx rfl (pc0 := 44) (pc' := 52) rfl (hb hby at_44) rfl ((if0 _ _).trans (feq ((by decide) : ¬ ((3 : Int32) = (0 : Int32)))).2) (by decide) (by decide) kk_) ?_
        show G T79 (mkF m 52 #[.val (.int i1), .val (.int i2), .val (.int i3), .val (.int i4), .val (.int (3 : Int32)), .val (.int (3 : Int32)), .val (.ref a76), .val (.ref a77), .val (.ref ft), .unset] [])
        refine hs.go (fun _ kk_ => XS.iconst X79.here hx rfl (hb hby at_52) kk_) ?_
        show G T79 (mkF m 53 #[.val (.int i1), .val (.int i2), .val (.int i3), .val (.int i4), .val (.int (3 : Int32)), .val (.int (3 : Int32)), .val (.ref a76), .val (.ref a77), .val (.ref ft), .unset] [(.int (1 : Int32))])
        refine hs.go (fun _ kk_ => XS.goto X79.here hx rfl (pc0 := 53) (pc' := 57) rfl (hb hby at_53) (by decide) (by decide) kk_) ?_
        show G T79 (mkF m 57 #[.val (.int i1), .val (.int i2), .val (.int i3), .val (.int i4), .val (.int (3 : Int32)), .val (.int (3 : Int32)), .val (.ref a76), .val (.ref a77), .val (.ref ft), .unset] [(.int (1 : Int32))])
        refine hs.go (fun _ kk_ => XS.istore X79.here hx rfl (hb hby at_57) rfl (l' := #[.val (.int i1), .val (.int i2), .val (.int i3), .val (.int i4), .val (.int (3 : Int32)), .val (.int (3 : Int32)), .val (.ref a76), .val (.ref a77), .val (.ref ft), .val (.int (1 : Int32))]) rfl kk_) ?_
        show G T79 (mkF m 59 #[.val (.int i1), .val (.int i2), .val (.int i3), .val (.int i4), .val (.int (3 : Int32)), .val (.int (3 : Int32)), .val (.ref a76), .val (.ref a77), .val (.ref ft), .val (.int (1 : Int32))] [])
        refine hs.go (fun _ kk_ => XS.aload X79.here hx rfl (hb hby at_59) rfl rfl kk_) ?_
        show G T79 (mkF m 61 #[.val (.int i1), .val (.int i2), .val (.int i3), .val (.int i4), .val (.int (3 : Int32)), .val (.int (3 : Int32)), .val (.ref a76), .val (.ref a77), .val (.ref ft), .val (.int (1 : Int32))] [(.ref ft)])
        refine rCallV hs X79 hx hZ (as' := []) Jn.stb (rm10 l Z a0 hw [] ((Jn Z [])) Jn.stb ft a76 a77 d76 d77 kd76 kd77 (3 : Int32) (3 : Int32) vd76 vd77 h79 n0 Z0 F_signsBefore_ft F_signsAfter_ft E_a76 F_value_a76 V_d76 E_a77 F_value_a77 V_d77) E_ft hown (hw _ (List.mem_of_getElem? (i := 59) rfl)) (hw _ (List.mem_of_getElem? (i := 60) rfl)) (hw _ (List.mem_of_getElem? (i := 62) rfl)) (hw _ (List.mem_of_getElem? (i := 61) rfl)) (hw _ (List.mem_of_getElem? (i := 39) rfl)) (hw _ (List.mem_of_getElem? (i := 63) rfl)) hy_10 rfl (by rw [hml]; rfl) [] (lenOf pd_6 rfl) rfl 0 (by show 2 * 0 + _ ≤ _; exact Nat.le_of_eq rfl) (hb hby at_61) (by decide) (by decide) (by decide) (by decide) (fun r80 T80 h80 vm80 X80 q80 => ?_)
        obtain ⟨rfl, qh80, hj80⟩ := q80
        have X80 := X80 _ hj80
        rw [qh80] at X80
        show G T80 (mkF m 64 #[.val (.int i1), .val (.int i2), .val (.int i3), .val (.int i4), .val (.int (3 : Int32)), .val (.int (3 : Int32)), .val (.ref a76), .val (.ref a77), .val (.ref ft), .val (.int (1 : Int32))] [(.int (fws (3 : Int32) (3 : Int32)))])
        refine hs.go (fun _ kk_ => XS.iload X80.here hx rfl (hb hby at_64) rfl  kk_) ?_
        show G T80 (mkF m 66 #[.val (.int i1), .val (.int i2), .val (.int i3), .val (.int i4), .val (.int (3 : Int32)), .val (.int (3 : Int32)), .val (.ref a76), .val (.ref a77), .val (.ref ft), .val (.int (1 : Int32))] [(.int (1 : Int32)), (.int (fws (3 : Int32) (3 : Int32)))])
        refine hs.go (fun _ kk_ => XS.icmpNo X80.here hx rfl (hb hby at_66) rfl (teq ((by decide) : (fws (3 : Int32) (3 : Int32)) = (1 : Int32))).2 kk_) ?_
        show G T80 (mkF m 69 #[.val (.int i1), .val (.int i2), .val (.int i3), .val (.int i4), .val (.int (3 : Int32)), .val (.int (3 : Int32)), .val (.ref a76), .val (.ref a77), .val (.ref ft), .val (.int (1 : Int32))] [])
        refine hs.go (fun _ kk_ => XS.iconst X80.here hx rfl (hb hby at_69) kk_) ?_
        show G T80 (mkF m 70 #[.val (.int i1), .val (.int i2), .val (.int i3), .val (.int i4), .val (.int (3 : Int32)), .val (.int (3 : Int32)), .val (.ref a76), .val (.ref a77), .val (.ref ft), .val (.int (1 : Int32))] [(.int (1 : Int32))])
        refine hs.go (fun _ kk_ => XS.goto X80.here hx rfl (pc0 := 70) (pc' := 74) rfl (hb hby at_70) (by decide) (by decide) kk_) ?_
        show G T80 (mkF m 74 #[.val (.int i1), .val (.int i2), .val (.int i3), .val (.int i4), .val (.int (3 : Int32)), .val (.int (3 : Int32)), .val (.ref a76), .val (.ref a77), .val (.ref ft), .val (.int (1 : Int32))] [(.int (1 : Int32))])
        exact rRetN fin Jn.stb X80 hx (by decide) (by decide) hret (by simp) (hb hby at_74) (z' := (1 : Int32)) (by decide) (fun vm' hj => rfl)
set_option maxRecDepth 65536 in
set_option maxHeartbeats 40000000 in
theorem comes_1 {Post : Tables → Env → Array Value → State → Outcome → State → Prop} (hpost : ∀ tb e args s v u, (limb_1_1.after args s (.returned v) u = true ∧ limb_1_2.after args s (.returned v) u = true ∧ True) → ReturnedEndW s (.returned v) u (Jvm.fieldLocs frame_1_writes args s ++ Jvm.arrayLocs frame_1_arrays args s ++ Jvm.staticLocs frame_1_statics s) 24 1152 → Post tb e args s (.returned v) u) :
    ArmFor flags0 classFile x code maxLocals ret World_1 tables_1 room_1 Calls_1 rest_1 Pre_1 Post := by
  intro l hfl _ _ p e ha hc hk s m args below hf hA hF happ hP
  obtain ⟨hcalls, hrest, hpre⟩ := hP
  obtain ⟨-, -, -, hnamed, -, -, -, hat⟩ := (Spec.applies_iff hf).mp happ
  obtain ⟨hg, hn⟩ := and_e (Cond.before_iff.mp (show (Jvm.Cond.and given_1 narrow_1).before args s = true from hpre))
  obtain ⟨hcnt, hg0⟩ := and_e hg
  obtain ⟨t0, hg1⟩ := and_e hg0
  obtain ⟨t1, hg2⟩ := and_e hg1
  obtain ⟨t2, hg3⟩ := and_e hg2
  have t3 := hg3
  obtain ⟨w0, w1, w2, w3, rfl⟩ : ∃ w0 w1 w2 w3 : Value, args = #[w0, w1, w2, w3] := by
    have hs : args.size = 4 := by simpa [Cond.value, given_1] using hcnt
    obtain ⟨L⟩ := args
    match L, hs with
    | [w0, w1, w2, w3], _ => exact ⟨w0, w1, w2, w3, rfl⟩
  have hw := fun d (hd : d ∈ tables_1) => atoms_spec (ws := Jvm.Cond.code x code maxLocals ret :: tables_1) hat d (List.mem_cons_of_mem _ hd)
  have hfit : Fit s := fun {y c} hc i hi => by
    obtain ⟨ha, rfl⟩ := Array.getElem?_eq_some_iff.mp hc
    have q := List.all_eq_true.mp ((Array.all_eq_true_iff_forall_mem.mp hF) _ (Array.getElem_mem ha)) i (List.mem_range.mpr hi)
    simpa [Array.getElem?_eq_getElem hi] using q
  obtain ⟨i0, ei0⟩ := is_v t0
  obtain rfl : w0 = (.int i0) := Option.some.inj ei0
  obtain ⟨i1, ei1⟩ := is_v t1
  obtain rfl : w1 = (.int i1) := Option.some.inj ei1
  obtain ⟨i2, ei2⟩ := is_v t2
  obtain rfl : w2 = (.int i2) := Option.some.inj ei2
  obtain ⟨i3, ei3⟩ := is_v t3
  obtain rfl : w3 = (.int i3) := Option.some.inj ei3
  obtain ⟨hsets, -⟩ := atoms_of _ (rest_1_c_eq ▸ (show rest_1_c.before _ s = true from hrest))
  have HW : Jvm.Lit.compactW.before _ s = true := hsets _ (List.mem_of_getElem? (i := 2) rfl)
  obtain ⟨cw, ecw⟩ := is_v (Cond.before_iff.mp (hsets _ (List.mem_of_getElem? (i := 1) rfl)))
  have S0 : Sta s s.heap "java/lang/String" "COMPACT_STRINGS" "Z" (.int cw) := Sta.start ecw (Or.inl (hsets _ (List.mem_of_getElem? (i := 0) rfl)))
  have hcw : ¬ (cw = (0 : Int32)) := gotF (Cond.eq_ints ecw (Term.int_eval (0))) (not_v (Cond.before_iff.mp (hsets _ (List.mem_of_getElem? (i := 2) rfl))))
  obtain ⟨n, o, h1, h2, h3, _, L, rfl, ⟨rfl, N⟩, hq⟩ := rm0 l s _ hw tables_1 i0 i1 i2 i3  s.heap s.heap.size (Nat.le_refl _) (Old.start s) cw S0 hcw (hcalls.1 _ (List.mem_of_getElem? (i := 0) rfl)) HW p e ha hc hk s m _ below hf ((Spec.applies_iff_loose hf).mp happ).1 ⟨rfl, State.Warmed39.refl s, rfl, IB.start⟩ trivial
  refine ⟨n, _, h1, h2, h3, hpost _ _ _ _ _ _ ⟨Cond.after_iff.mpr rfl, Cond.after_iff.mpr (eq_i res_at (Term.int_eval (1)) rfl), trivial⟩ ⟨hq.1, hq.2.1, hq.2.2.1, (hq.2.2.2.sift fun y hy => Or.inr (N y hy)).mono (by decide) (by decide)⟩⟩
theorem main_1_1 : Claimed_1_1 := comes_1 fun _ _ _ _ _ _ h hF => ⟨h.1, hF⟩
theorem main_1_2 : Claimed_1_2 := comes_1 fun _ _ _ _ _ _ h hF => ⟨h.2.1, hF⟩
end Jvm.Pilot.@@N@@
namespace Jvm.Pilot.@@N@@
open Jvm Jvm.ClassFile Sem Op Lib Jvm.Free Jvm.Stand Jvm.Pilot.@@N@@.Jvm.D
/-! MADE BY PROGRAM (witnessworld.py) out of the Statement's table words and the real class files: 21 classes; the members and pool entries that the words name. The judged class is class 1, her method 1. -/
namespace start1
open Jvm.ClassFile
def u (s : String) : CpInfo := .utf8 (stringToUtf16 s)
/-- a pool by its gaps: so many unusable entries, then the entry; so many at the end -/
def gap : Nat → List CpInfo → List CpInfo
  | 0, r => r
  | n + 1, r => .unusable :: gap n r
def poolList (es : List (Nat × CpInfo)) (last : Nat) : List CpInfo := es.foldr (fun e r => gap e.1 (e.2 :: r)) (gap last [])
def pool (es : List (Nat × CpInfo)) (last : Nat) : Array CpInfo := ⟨poolList es last⟩
def fileOf (pool : Array CpInfo) (this : Nat) (attrs : Array Attribute := #[]) (ms : Array MethodInfo := #[]) (fl : Nat := 33) (sup : Nat := 0) (ifs : Array Nat := #[]) (fds : Array FieldInfo := #[]) : ClassFile where
  minorVersion := 0
  majorVersion := 65
  constantPool := pool
  accessFlags := fl
  thisClass := this
  superClass := sup
  interfaces := ifs
  fields := fds
  methods := ms
  attributes := attrs
def plain (name : String) (sup : Option ClassId) : Class where
  name := name
  kind := .ordinary
  loader := none
  accessFlags := 33
  super := sup
  interfaces := #[]
  cf := none
  fields := #[]
  methods := #[]
  instanceTypes := #[]
  staticTypes := #[]
  resolved := #[]
  callSites := []
  init := .initialized
  statics := none
  mirror := none

def pool0 : Array CpInfo := pool [(5, u "<init>"), (0, u "()V"), (1, .class_ 10), (1, u "java/lang/Object")] 113

def k0c0 : Code := { maxStack := 0, maxLocals := 1, code := object_method_1_code, exceptionTable := #[], attributes := #[] }
def k0m0 : Method := { name := "<init>", desc := "()V", sig := { parameters := [], returnType := none }, accessFlags := 1, code := some k0c0 }
/-- java/lang/Object -/
def k0 : Class := { plain "java/lang/Object" none with
  accessFlags := 33
  interfaces := #[]
  cf := some (fileOf pool0 8 #[] #[{ accessFlags := 1, nameIndex := 5, descriptorIndex := 6, attributes := #[] }] 33 0 #[] #[])
  fields := #[]
  methods := #[k0m0]
  instanceTypes := #[]
  staticTypes := #[]
  resolved := Array.replicate 124 none
  statics := none }

def pool1 : Array CpInfo := pool [(2, .class_ 4), (1, u "java/lang/Object"), (0, u "<init>"), (0, u "()V"), (0, .methodref 8 9), (0, .class_ 10), (0, .nameAndType 11 12), (0, u "com/example/farthing/farthing/format/FormTextWritesSignsPinLaw"), (0, u "text"), (0, u "(II)Ljava/lang/String;"), (0, .class_ 14), (0, u "com/example/farthing/farthing/format/FormText"), (0, .methodref 13 16), (0, .nameAndType 5 17), (0, u "(Ljava/util/Set;Ljava/util/Set;Ljava/util/Set;Ljava/lang/String;Ljava/lang/String;)V"), (0, .methodref 13 19), (0, .nameAndType 20 21), (0, u "writesSigns"), (0, u "()Z"), (0, .class_ 23), (0, u "java/lang/String"), (0, .methodref 22 25), (0, .nameAndType 5 26), (0, u "([C)V"), (2, u "law"), (0, u "(IIII)Z")] 3

def k1m0 : Method := { name := "<init>", desc := "()V", sig := { parameters := [], returnType := none }, accessFlags := 1, code := none }
def k1c1 : Code := { maxStack := 7, maxLocals := 10, code := code, exceptionTable := #[], attributes := #[] }
def k1m1 : Method := { name := "law", desc := "(IIII)Z", sig := { parameters := [.int, .int, .int, .int], returnType := some .boolean }, accessFlags := 9, code := some k1c1 }
def k1c2 : Code := { maxStack := 6, maxLocals := 5, code := method_3_code, exceptionTable := #[], attributes := #[] }
def k1m2 : Method := { name := "text", desc := "(II)Ljava/lang/String;", sig := { parameters := [.int, .int], returnType := some (.object "java/lang/String") }, accessFlags := 10, code := some k1c2 }
/-- com/example/farthing/farthing/format/FormTextWritesSignsPinLaw -/
def k1 : Class := { plain "com/example/farthing/farthing/format/FormTextWritesSignsPinLaw" (some 0) with
  accessFlags := 49
  interfaces := #[]
  cf := some (fileOf pool1 8 #[] #[{ accessFlags := 1, nameIndex := 5, descriptorIndex := 6, attributes := #[] }, { accessFlags := 9, nameIndex := 29, descriptorIndex := 30, attributes := #[] }, { accessFlags := 10, nameIndex := 11, descriptorIndex := 12, attributes := #[] }] 49 2 #[] #[])
  fields := #[]
  methods := #[k1m0, k1m1, k1m2]
  instanceTypes := #[]
  staticTypes := #[]
  resolved := Array.replicate 34 none
  statics := none }

def pool2 : Array CpInfo := pool [(1, .class_ 2), (0, u "java/io/Serializable"), (0, .class_ 4), (0, u "java/lang/Object")] 2

/-- java/io/Serializable -/
def k2 : Class := { plain "java/io/Serializable" (some 0) with
  accessFlags := 1537
  interfaces := #[]
  cf := some (fileOf pool2 1 #[] #[] 1537 3 #[] #[])
  fields := #[]
  methods := #[]
  instanceTypes := #[]
  staticTypes := #[]
  resolved := Array.replicate 7 none
  statics := none }

def pool3 : Array CpInfo := pool [(1, .class_ 2), (0, u "java/lang/Comparable"), (0, .class_ 4), (0, u "java/lang/Object")] 7

/-- java/lang/Comparable -/
def k3 : Class := { plain "java/lang/Comparable" (some 0) with
  accessFlags := 1537
  interfaces := #[]
  cf := some (fileOf pool3 1 #[] #[] 1537 3 #[] #[])
  fields := #[]
  methods := #[]
  instanceTypes := #[]
  staticTypes := #[]
  resolved := Array.replicate 12 none
  statics := none }

def pool4 : Array CpInfo := pool [(2, .class_ 4), (1, u "java/lang/CharSequence"), (42, .class_ 48), (0, u "java/lang/CharSequence$1CodePointIterator"), (10, .class_ 60), (0, u "java/lang/CharSequence$1CharIterator"), (5, .class_ 67), (0, u "java/lang/Object")] 63

/-- java/lang/CharSequence -/
def k4 : Class := { plain "java/lang/CharSequence" (some 0) with
  accessFlags := 1537
  interfaces := #[]
  cf := some (fileOf pool4 2 #[.nestMembers #[47, 59]] #[] 1537 66 #[] #[])
  fields := #[]
  methods := #[]
  instanceTypes := #[]
  staticTypes := #[]
  resolved := Array.replicate 131 none
  statics := none }

def pool5 : Array CpInfo := pool [(1, .class_ 2), (0, u "java/lang/constant/Constable"), (0, .class_ 4), (0, u "java/lang/Object")] 6

/-- java/lang/constant/Constable -/
def k5 : Class := { plain "java/lang/constant/Constable" (some 0) with
  accessFlags := 1537
  interfaces := #[]
  cf := some (fileOf pool5 1 #[] #[] 1537 3 #[] #[])
  fields := #[]
  methods := #[]
  instanceTypes := #[]
  staticTypes := #[]
  resolved := Array.replicate 11 none
  statics := none }

def pool6 : Array CpInfo := pool [(1, .class_ 2), (0, u "java/lang/constant/ConstantDesc"), (0, .class_ 4), (0, u "java/lang/Object")] 32

/-- java/lang/constant/ConstantDesc -/
def k6 : Class := { plain "java/lang/constant/ConstantDesc" (some 0) with
  accessFlags := 1537
  interfaces := #[]
  cf := some (fileOf pool6 1 #[] #[] 1537 3 #[] #[])
  fields := #[]
  methods := #[]
  instanceTypes := #[]
  staticTypes := #[]
  resolved := Array.replicate 37 none
  statics := none }

def pool7 : Array CpInfo := pool [(1, .methodref 2 3), (0, .class_ 4), (0, .nameAndType 5 6), (0, u "java/lang/Object"), (0, u "<init>"), (0, u "()V"), (0, .string 8), (0, u ""), (0, .fieldref 10 11), (0, .class_ 12), (0, .nameAndType 13 14), (0, u "java/lang/String"), (0, u "value"), (0, u "[B"), (0, .fieldref 10 16), (0, .nameAndType 17 18), (0, u "coder"), (0, u "B"), (2, u "hash"), (0, u "I"), (2, u "hashIsZero"), (0, u "Z"), (0, .methodref 10 28), (0, .nameAndType 5 29), (0, u "([CIILjava/lang/Void;)V"), (8, .fieldref 10 39), (0, .nameAndType 40 26), (0, u "COMPACT_STRINGS"), (1, .class_ 44), (1, u "java/lang/StringUTF16"), (0, u "compress"), (1, .methodref 42 48), (0, .nameAndType 49 50), (0, u "coderFromArrayLen"), (0, u "([BI)B"), (91, u "()Z"), (34, .methodref 42 178), (0, .nameAndType 45 179), (0, u "([CII)[B"), (395, .class_ 576), (0, u "java/lang/CharSequence"), (22, u "CASE_INSENSITIVE_ORDER"), (0, u "Ljava/util/Comparator;"), (91, u "isEmpty"), (317, u "([C)V"), (90, u "serialPersistentFields"), (0, u "[Ljava/io/ObjectStreamField;"), (0, .class_ 1104), (0, u "java/lang/String$CaseInsensitiveComparator"), (1, .class_ 1107), (0, u "java/io/Serializable"), (0, .class_ 1109), (0, u "java/lang/Comparable"), (0, .class_ 1111), (0, u "java/lang/constant/Constable"), (0, .class_ 1113), (0, u "java/lang/constant/ConstantDesc"), (2, u "serialVersionUID"), (0, u "J"), (3, u "REPL"), (0, u "C"), (2, u "LATIN1"), (1, u "UTF16")] 323

def k7m0 : Method := { name := "<init>", desc := "()V", sig := { parameters := [], returnType := none }, accessFlags := 1, code := none }
def k7c1 : Code := { maxStack := 5, maxLocals := 2, code := jdk_42_method_3_code, exceptionTable := #[], attributes := #[] }
def k7m1 : Method := { name := "<init>", desc := "([C)V", sig := { parameters := [(.array .char)], returnType := none }, accessFlags := 1, code := some k7c1 }
def k7c2 : Code := { maxStack := 1, maxLocals := 1, code := jdk_42_method_55_code, exceptionTable := #[], attributes := #[] }
def k7m2 : Method := { name := "isEmpty", desc := "()Z", sig := { parameters := [], returnType := some .boolean }, accessFlags := 1, code := some k7c2 }
def k7c3 : Code := { maxStack := 4, maxLocals := 6, code := jdk_42_method_149_code, exceptionTable := #[], attributes := #[] }
def k7m3 : Method := { name := "<init>", desc := "([CIILjava/lang/Void;)V", sig := { parameters := [(.array .char), .int, .int, (.object "java/lang/Void")], returnType := none }, accessFlags := 2, code := some k7c3 }
/-- java/lang/String -/
def k7 : Class := { plain "java/lang/String" (some 0) with
  accessFlags := 49
  interfaces := #[2, 3, 4, 5, 6]
  cf := some (fileOf pool7 10 #[.nestMembers #[1103]] #[{ accessFlags := 1, nameIndex := 5, descriptorIndex := 6, attributes := #[] }, { accessFlags := 1, nameIndex := 5, descriptorIndex := 1010, attributes := #[] }, { accessFlags := 1, nameIndex := 692, descriptorIndex := 142, attributes := #[] }, { accessFlags := 2, nameIndex := 5, descriptorIndex := 29, attributes := #[] }] 49 2 #[1106, 1108, 575, 1110, 1112] #[{ accessFlags := 18, nameIndex := 13, descriptorIndex := 14, attributes := #[] }, { accessFlags := 18, nameIndex := 17, descriptorIndex := 18, attributes := #[] }, { accessFlags := 2, nameIndex := 21, descriptorIndex := 22, attributes := #[] }, { accessFlags := 2, nameIndex := 25, descriptorIndex := 26, attributes := #[] }, { accessFlags := 26, nameIndex := 1116, descriptorIndex := 1117, attributes := #[] }, { accessFlags := 24, nameIndex := 40, descriptorIndex := 26, attributes := #[] }, { accessFlags := 26, nameIndex := 1101, descriptorIndex := 1102, attributes := #[] }, { accessFlags := 26, nameIndex := 1121, descriptorIndex := 1122, attributes := #[] }, { accessFlags := 25, nameIndex := 599, descriptorIndex := 600, attributes := #[] }, { accessFlags := 24, nameIndex := 1125, descriptorIndex := 18, attributes := #[] }, { accessFlags := 24, nameIndex := 1127, descriptorIndex := 18, attributes := #[] }])
  fields := #[{ name := "value", type := (.array .byte), accessFlags := 18, slot := 0, constantValue := 0 }, { name := "coder", type := .byte, accessFlags := 18, slot := 1, constantValue := 0 }, { name := "hash", type := .int, accessFlags := 2, slot := 2, constantValue := 0 }, { name := "hashIsZero", type := .boolean, accessFlags := 2, slot := 3, constantValue := 0 }, { name := "serialVersionUID", type := .long, accessFlags := 26, slot := 0, constantValue := 0 }, { name := "COMPACT_STRINGS", type := .boolean, accessFlags := 24, slot := 1, constantValue := 0 }, { name := "serialPersistentFields", type := (.array (.object "java/io/ObjectStreamField")), accessFlags := 26, slot := 2, constantValue := 0 }, { name := "REPL", type := .char, accessFlags := 26, slot := 3, constantValue := 0 }, { name := "CASE_INSENSITIVE_ORDER", type := (.object "java/util/Comparator"), accessFlags := 25, slot := 4, constantValue := 0 }, { name := "LATIN1", type := .byte, accessFlags := 24, slot := 5, constantValue := 0 }, { name := "UTF16", type := .byte, accessFlags := 24, slot := 6, constantValue := 0 }]
  methods := #[k7m0, k7m1, k7m2, k7m3]
  instanceTypes := #[(.array .byte), .byte, .int, .boolean]
  staticTypes := #[.long, .boolean, (.array (.object "java/io/ObjectStreamField")), .char, (.object "java/util/Comparator"), .byte, .byte]
  resolved := Array.replicate 1451 none
  statics := some 0 }

def pool8 : Array CpInfo := pool [(6, .class_ 8), (1, u "java/lang/Object"), (0, u "<init>"), (0, u "()V"), (1, .class_ 14), (1, u "java/lang/StringUTF16"), (31, u "$assertionsDisabled"), (0, u "Z"), (13, u "HI_BYTE_SHIFT"), (0, u "I"), (2, u "LO_BYTE_SHIFT"), (49, .methodref 12 116), (0, .nameAndType 117 118), (0, u "compress"), (0, u "([CI[BII)I"), (3, u "([CII)[B"), (138, u "coderFromArrayLen"), (0, u "([BI)B"), (106, .class_ 371), (1, u "java/lang/StringUTF16$LinesSpliterator"), (58, u "MAX_LENGTH"), (196, .class_ 628), (0, u "java/lang/StringUTF16$CodePointsSpliterator"), (0, .class_ 630), (0, u "java/lang/StringUTF16$CharsSpliterator")] 4

def k8m0 : Method := { name := "<init>", desc := "()V", sig := { parameters := [], returnType := none }, accessFlags := 0, code := none }
def k8c1 : Code := { maxStack := 2, maxLocals := 2, code := jdk_52_method_15_code, exceptionTable := #[], attributes := #[] }
def k8m1 : Method := { name := "coderFromArrayLen", desc := "([BI)B", sig := { parameters := [(.array .byte), .int], returnType := some .byte }, accessFlags := 8, code := some k8c1 }
def k8c2 : Code := { maxStack := 5, maxLocals := 6, code := jdk_52_method_16_code, exceptionTable := #[], attributes := #[] }
def k8m2 : Method := { name := "compress", desc := "([CII)[B", sig := { parameters := [(.array .char), .int, .int], returnType := some (.array .byte) }, accessFlags := 9, code := some k8c2 }
def k8c3 : Code := { maxStack := 3, maxLocals := 7, code := jdk_52_method_21_code, exceptionTable := #[], attributes := #[] }
def k8m3 : Method := { name := "compress", desc := "([CI[BII)I", sig := { parameters := [(.array .char), .int, (.array .byte), .int, .int], returnType := some .int }, accessFlags := 9, code := some k8c3 }
/-- java/lang/StringUTF16 -/
def k8 : Class := { plain "java/lang/StringUTF16" (some 0) with
  accessFlags := 48
  interfaces := #[]
  cf := some (fileOf pool8 12 #[.nestMembers #[627, 629, 369]] #[{ accessFlags := 0, nameIndex := 9, descriptorIndex := 10, attributes := #[] }, { accessFlags := 8, nameIndex := 261, descriptorIndex := 262, attributes := #[] }, { accessFlags := 9, nameIndex := 117, descriptorIndex := 122, attributes := #[] }, { accessFlags := 9, nameIndex := 117, descriptorIndex := 118, attributes := #[] }] 48 6 #[] #[{ accessFlags := 26, nameIndex := 61, descriptorIndex := 62, attributes := #[] }, { accessFlags := 26, nameIndex := 65, descriptorIndex := 62, attributes := #[] }, { accessFlags := 24, nameIndex := 430, descriptorIndex := 62, attributes := #[] }, { accessFlags := 4120, nameIndex := 46, descriptorIndex := 47, attributes := #[] }])
  fields := #[{ name := "HI_BYTE_SHIFT", type := .int, accessFlags := 26, slot := 0, constantValue := 0 }, { name := "LO_BYTE_SHIFT", type := .int, accessFlags := 26, slot := 1, constantValue := 0 }, { name := "MAX_LENGTH", type := .int, accessFlags := 24, slot := 2, constantValue := 0 }, { name := "$assertionsDisabled", type := .boolean, accessFlags := 4120, slot := 3, constantValue := 0 }]
  methods := #[k8m0, k8m1, k8m2, k8m3]
  instanceTypes := #[]
  staticTypes := #[.int, .int, .int, .boolean]
  resolved := Array.replicate 635 none
  statics := none }

def pool9 : Array CpInfo := pool [(1, .methodref 2 3), (0, .class_ 4), (0, .nameAndType 5 6), (0, u "java/lang/Object"), (0, u "<init>"), (0, u "()V"), (0, .class_ 8), (0, u "java/lang/Record")] 13

def k9c0 : Code := { maxStack := 1, maxLocals := 1, code := jdk_30_method_1_code, exceptionTable := #[], attributes := #[] }
def k9m0 : Method := { name := "<init>", desc := "()V", sig := { parameters := [], returnType := none }, accessFlags := 4, code := some k9c0 }
/-- java/lang/Record -/
def k9 : Class := { plain "java/lang/Record" (some 0) with
  accessFlags := 1057
  interfaces := #[]
  cf := some (fileOf pool9 7 #[] #[{ accessFlags := 4, nameIndex := 5, descriptorIndex := 6, attributes := #[] }] 1057 2 #[] #[])
  fields := #[]
  methods := #[k9m0]
  instanceTypes := #[]
  staticTypes := #[]
  resolved := Array.replicate 22 none
  statics := none }

def pool10 : Array CpInfo := pool [(1, .methodref 2 3), (0, .class_ 4), (0, .nameAndType 5 6), (0, u "java/lang/Record"), (0, u "<init>"), (0, u "()V"), (0, .fieldref 8 9), (0, .class_ 10), (0, .nameAndType 11 12), (0, u "com/example/farthing/farthing/format/FormText"), (0, u "words"), (0, u "Ljava/util/Set;"), (0, .fieldref 8 14), (0, .nameAndType 15 12), (0, u "wordsBeforeCurrency"), (0, .fieldref 8 17), (0, .nameAndType 18 12), (0, u "wordsAfterCurrency"), (0, .fieldref 8 20), (0, .nameAndType 21 22), (0, u "signsBefore"), (0, u "Ljava/lang/String;"), (0, .fieldref 8 24), (0, .nameAndType 25 22), (0, u "signsAfter"), (5, .class_ 33), (1, u "java/lang/String"), (54, .class_ 90), (1, u "com/example/farthing/farthing/format/FormText$Part"), (28, u "(Ljava/util/Set;Ljava/util/Set;Ljava/util/Set;Ljava/lang/String;Ljava/lang/String;)V"), (0, .methodref 31 121), (0, .nameAndType 122 123), (0, u "isEmpty"), (0, u "()Z"), (64, u "INNER_OPENING"), (0, u "C"), (1, u "INNER_CLOSING"), (11, u "writesSigns")] 42

def k10c0 : Code := { maxStack := 2, maxLocals := 6, code := prog_3_method_1_code, exceptionTable := #[], attributes := #[] }
def k10m0 : Method := { name := "<init>", desc := "(Ljava/util/Set;Ljava/util/Set;Ljava/util/Set;Ljava/lang/String;Ljava/lang/String;)V", sig := { parameters := [(.object "java/util/Set"), (.object "java/util/Set"), (.object "java/util/Set"), (.object "java/lang/String"), (.object "java/lang/String")], returnType := none }, accessFlags := 0, code := some k10c0 }
def k10c1 : Code := { maxStack := 1, maxLocals := 1, code := prog_3_method_6_code, exceptionTable := #[], attributes := #[] }
def k10m1 : Method := { name := "writesSigns", desc := "()Z", sig := { parameters := [], returnType := some .boolean }, accessFlags := 0, code := some k10c1 }
/-- com/example/farthing/farthing/format/FormText -/
def k10 : Class := { plain "com/example/farthing/farthing/format/FormText" (some 9) with
  accessFlags := 48
  interfaces := #[]
  cf := some (fileOf pool10 8 #[.nestMembers #[88]] #[{ accessFlags := 0, nameIndex := 5, descriptorIndex := 119, attributes := #[] }, { accessFlags := 0, nameIndex := 203, descriptorIndex := 123, attributes := #[] }] 48 2 #[] #[{ accessFlags := 18, nameIndex := 11, descriptorIndex := 12, attributes := #[] }, { accessFlags := 18, nameIndex := 15, descriptorIndex := 12, attributes := #[] }, { accessFlags := 18, nameIndex := 18, descriptorIndex := 12, attributes := #[] }, { accessFlags := 18, nameIndex := 21, descriptorIndex := 22, attributes := #[] }, { accessFlags := 18, nameIndex := 25, descriptorIndex := 22, attributes := #[] }, { accessFlags := 26, nameIndex := 188, descriptorIndex := 189, attributes := #[] }, { accessFlags := 26, nameIndex := 191, descriptorIndex := 189, attributes := #[] }])
  fields := #[{ name := "words", type := (.object "java/util/Set"), accessFlags := 18, slot := 0, constantValue := 0 }, { name := "wordsBeforeCurrency", type := (.object "java/util/Set"), accessFlags := 18, slot := 1, constantValue := 0 }, { name := "wordsAfterCurrency", type := (.object "java/util/Set"), accessFlags := 18, slot := 2, constantValue := 0 }, { name := "signsBefore", type := (.object "java/lang/String"), accessFlags := 18, slot := 3, constantValue := 0 }, { name := "signsAfter", type := (.object "java/lang/String"), accessFlags := 18, slot := 4, constantValue := 0 }, { name := "INNER_OPENING", type := .char, accessFlags := 26, slot := 0, constantValue := 0 }, { name := "INNER_CLOSING", type := .char, accessFlags := 26, slot := 1, constantValue := 0 }]
  methods := #[k10m0, k10m1]
  instanceTypes := #[(.object "java/util/Set"), (.object "java/util/Set"), (.object "java/util/Set"), (.object "java/lang/String"), (.object "java/lang/String")]
  staticTypes := #[.char, .char]
  resolved := Array.replicate 246 none
  statics := none }

def pool11 : Array CpInfo := pool [(4, .class_ 6), (1, u "java/lang/Object"), (0, u "<init>"), (0, u "()V"), (5, .class_ 16), (1, u "java/lang/StringLatin1"), (104, u "$assertionsDisabled"), (0, u "Z"), (98, .class_ 223), (1, u "java/lang/StringLatin1$LinesSpliterator"), (166, .class_ 391), (0, u "java/lang/StringLatin1$CharsSpliterator")] 3

def k11m0 : Method := { name := "<init>", desc := "()V", sig := { parameters := [], returnType := none }, accessFlags := 0, code := none }
/-- java/lang/StringLatin1 -/
def k11 : Class := { plain "java/lang/StringLatin1" (some 0) with
  accessFlags := 48
  interfaces := #[]
  cf := some (fileOf pool11 14 #[.nestMembers #[390, 221]] #[{ accessFlags := 0, nameIndex := 7, descriptorIndex := 8, attributes := #[] }] 48 4 #[] #[{ accessFlags := 4120, nameIndex := 121, descriptorIndex := 122, attributes := #[] }])
  fields := #[{ name := "$assertionsDisabled", type := .boolean, accessFlags := 4120, slot := 0, constantValue := 0 }]
  methods := #[k11m0]
  instanceTypes := #[]
  staticTypes := #[.boolean]
  resolved := Array.replicate 395 none
  statics := none }

def pool12 : Array CpInfo := pool [(2, .class_ 4), (1, u "java/lang/Object"), (0, u "<init>"), (0, u "()V"), (17, .class_ 26), (1, u "jdk/internal/util/Preconditions"), (28, .class_ 56), (0, u "jdk/internal/util/Preconditions$4"), (57, .class_ 115), (0, u "jdk/internal/util/Preconditions$1"), (7, u "SIOOBE_FORMATTER"), (0, u "Ljava/util/function/BiFunction;"), (0, .class_ 126), (0, u "jdk/internal/util/Preconditions$2"), (3, u "AIOOBE_FORMATTER"), (0, .class_ 132), (0, u "jdk/internal/util/Preconditions$3"), (3, u "IOOBE_FORMATTER")] 57

def k12m0 : Method := { name := "<init>", desc := "()V", sig := { parameters := [], returnType := none }, accessFlags := 1, code := none }
/-- jdk/internal/util/Preconditions -/
def k12 : Class := { plain "jdk/internal/util/Preconditions" (some 0) with
  accessFlags := 33
  interfaces := #[]
  cf := some (fileOf pool12 24 #[.nestMembers #[55, 131, 125, 114]] #[{ accessFlags := 1, nameIndex := 5, descriptorIndex := 6, attributes := #[] }] 33 2 #[] #[{ accessFlags := 25, nameIndex := 123, descriptorIndex := 124, attributes := #[] }, { accessFlags := 25, nameIndex := 130, descriptorIndex := 124, attributes := #[] }, { accessFlags := 25, nameIndex := 136, descriptorIndex := 124, attributes := #[] }])
  fields := #[{ name := "SIOOBE_FORMATTER", type := (.object "java/util/function/BiFunction"), accessFlags := 25, slot := 0, constantValue := 0 }, { name := "AIOOBE_FORMATTER", type := (.object "java/util/function/BiFunction"), accessFlags := 25, slot := 1, constantValue := 0 }, { name := "IOOBE_FORMATTER", type := (.object "java/util/function/BiFunction"), accessFlags := 25, slot := 2, constantValue := 0 }]
  methods := #[k12m0]
  instanceTypes := #[]
  staticTypes := #[(.object "java/util/function/BiFunction"), (.object "java/util/function/BiFunction"), (.object "java/util/function/BiFunction")]
  resolved := Array.replicate 194 none
  statics := some 1 }

def pool13 : Array CpInfo := pool [(9, u "<init>"), (6, .class_ 18), (1, u "java/lang/Object"), (0, u "()V"), (1, .class_ 23), (1, u "jdk/internal/util/ArraysSupport"), (0, u "LOG2_ARRAY_LONG_INDEX_SCALE"), (0, u "I"), (2, u "U"), (0, u "Ljdk/internal/misc/Unsafe;"), (8, u "BIG_ENDIAN"), (0, u "Z"), (8, u "LOG2_BYTE_BIT_SIZE"), (4, u "LOG2_ARRAY_INT_INDEX_SCALE"), (54, u "JLA"), (0, u "Ljdk/internal/access/JavaLangAccess;"), (11, u "LOG2_ARRAY_BOOLEAN_INDEX_SCALE"), (9, u "LOG2_ARRAY_BYTE_INDEX_SCALE"), (5, u "LOG2_ARRAY_CHAR_INDEX_SCALE"), (5, u "LOG2_ARRAY_SHORT_INDEX_SCALE"), (18, u "LOG2_ARRAY_FLOAT_INDEX_SCALE"), (24, u "LOG2_ARRAY_DOUBLE_INDEX_SCALE"), (89, u "T_BOOLEAN"), (2, u "T_CHAR"), (1, u "T_FLOAT"), (1, u "T_DOUBLE"), (1, u "T_BYTE"), (1, u "T_SHORT"), (1, u "T_INT"), (1, u "T_LONG"), (1, u "SOFT_MAX_ARRAY_LENGTH")] 83

def k13m0 : Method := { name := "<init>", desc := "()V", sig := { parameters := [], returnType := none }, accessFlags := 2, code := none }
/-- jdk/internal/util/ArraysSupport -/
def k13 : Class := { plain "jdk/internal/util/ArraysSupport" (some 0) with
  accessFlags := 33
  interfaces := #[]
  cf := some (fileOf pool13 21 #[] #[{ accessFlags := 2, nameIndex := 9, descriptorIndex := 19, attributes := #[] }] 33 16 #[] #[{ accessFlags := 24, nameIndex := 28, descriptorIndex := 29, attributes := #[] }, { accessFlags := 26, nameIndex := 38, descriptorIndex := 39, attributes := #[] }, { accessFlags := 25, nameIndex := 121, descriptorIndex := 25, attributes := #[] }, { accessFlags := 25, nameIndex := 131, descriptorIndex := 25, attributes := #[] }, { accessFlags := 25, nameIndex := 137, descriptorIndex := 25, attributes := #[] }, { accessFlags := 25, nameIndex := 143, descriptorIndex := 25, attributes := #[] }, { accessFlags := 25, nameIndex := 53, descriptorIndex := 25, attributes := #[] }, { accessFlags := 25, nameIndex := 24, descriptorIndex := 25, attributes := #[] }, { accessFlags := 25, nameIndex := 162, descriptorIndex := 25, attributes := #[] }, { accessFlags := 25, nameIndex := 187, descriptorIndex := 25, attributes := #[] }, { accessFlags := 26, nameIndex := 48, descriptorIndex := 25, attributes := #[] }, { accessFlags := 25, nameIndex := 277, descriptorIndex := 25, attributes := #[] }, { accessFlags := 25, nameIndex := 280, descriptorIndex := 25, attributes := #[] }, { accessFlags := 25, nameIndex := 282, descriptorIndex := 25, attributes := #[] }, { accessFlags := 25, nameIndex := 284, descriptorIndex := 25, attributes := #[] }, { accessFlags := 25, nameIndex := 286, descriptorIndex := 25, attributes := #[] }, { accessFlags := 25, nameIndex := 288, descriptorIndex := 25, attributes := #[] }, { accessFlags := 25, nameIndex := 290, descriptorIndex := 25, attributes := #[] }, { accessFlags := 25, nameIndex := 292, descriptorIndex := 25, attributes := #[] }, { accessFlags := 26, nameIndex := 108, descriptorIndex := 109, attributes := #[] }, { accessFlags := 25, nameIndex := 294, descriptorIndex := 25, attributes := #[] }])
  fields := #[{ name := "U", type := (.object "jdk/internal/misc/Unsafe"), accessFlags := 24, slot := 0, constantValue := 0 }, { name := "BIG_ENDIAN", type := .boolean, accessFlags := 26, slot := 1, constantValue := 0 }, { name := "LOG2_ARRAY_BOOLEAN_INDEX_SCALE", type := .int, accessFlags := 25, slot := 2, constantValue := 0 }, { name := "LOG2_ARRAY_BYTE_INDEX_SCALE", type := .int, accessFlags := 25, slot := 3, constantValue := 0 }, { name := "LOG2_ARRAY_CHAR_INDEX_SCALE", type := .int, accessFlags := 25, slot := 4, constantValue := 0 }, { name := "LOG2_ARRAY_SHORT_INDEX_SCALE", type := .int, accessFlags := 25, slot := 5, constantValue := 0 }, { name := "LOG2_ARRAY_INT_INDEX_SCALE", type := .int, accessFlags := 25, slot := 6, constantValue := 0 }, { name := "LOG2_ARRAY_LONG_INDEX_SCALE", type := .int, accessFlags := 25, slot := 7, constantValue := 0 }, { name := "LOG2_ARRAY_FLOAT_INDEX_SCALE", type := .int, accessFlags := 25, slot := 8, constantValue := 0 }, { name := "LOG2_ARRAY_DOUBLE_INDEX_SCALE", type := .int, accessFlags := 25, slot := 9, constantValue := 0 }, { name := "LOG2_BYTE_BIT_SIZE", type := .int, accessFlags := 26, slot := 10, constantValue := 0 }, { name := "T_BOOLEAN", type := .int, accessFlags := 25, slot := 11, constantValue := 0 }, { name := "T_CHAR", type := .int, accessFlags := 25, slot := 12, constantValue := 0 }, { name := "T_FLOAT", type := .int, accessFlags := 25, slot := 13, constantValue := 0 }, { name := "T_DOUBLE", type := .int, accessFlags := 25, slot := 14, constantValue := 0 }, { name := "T_BYTE", type := .int, accessFlags := 25, slot := 15, constantValue := 0 }, { name := "T_SHORT", type := .int, accessFlags := 25, slot := 16, constantValue := 0 }, { name := "T_INT", type := .int, accessFlags := 25, slot := 17, constantValue := 0 }, { name := "T_LONG", type := .int, accessFlags := 25, slot := 18, constantValue := 0 }, { name := "JLA", type := (.object "jdk/internal/access/JavaLangAccess"), accessFlags := 26, slot := 19, constantValue := 0 }, { name := "SOFT_MAX_ARRAY_LENGTH", type := .int, accessFlags := 25, slot := 20, constantValue := 0 }]
  methods := #[k13m0]
  instanceTypes := #[]
  staticTypes := #[(.object "jdk/internal/misc/Unsafe"), .boolean, .int, .int, .int, .int, .int, .int, .int, .int, .int, .int, .int, .int, .int, .int, .int, .int, .int, (.object "jdk/internal/access/JavaLangAccess"), .int]
  resolved := Array.replicate 378 none
  statics := none }

def pool14 : Array CpInfo := pool [(1, u "java/lang/Cloneable"), (0, .class_ 1), (0, u "java/lang/Object"), (0, .class_ 3)] 3

/-- java/lang/Cloneable -/
def k14 : Class := { plain "java/lang/Cloneable" (some 0) with
  accessFlags := 1537
  interfaces := #[]
  cf := some (fileOf pool14 2 #[] #[] 1537 4 #[] #[])
  fields := #[]
  methods := #[]
  instanceTypes := #[]
  staticTypes := #[]
  resolved := Array.replicate 8 none
  statics := none }

/-- the primitive byte -/
def k15 : Class := { plain "byte" none with kind := .primitive 'B', accessFlags := 0x411 }
/-- [B -/
def k16 : Class := { plain "[B" (some 0) with kind := .array 15 .byte, interfaces := #[14, 2], accessFlags := 1041 }

/-- the primitive char -/
def k17 : Class := { plain "char" none with kind := .primitive 'C', accessFlags := 0x411 }
/-- [C -/
def k18 : Class := { plain "[C" (some 0) with kind := .array 17 .char, interfaces := #[14, 2], accessFlags := 1041 }

/-- the primitive int -/
def k19 : Class := { plain "int" none with kind := .primitive 'I', accessFlags := 0x411 }
/-- [I -/
def k20 : Class := { plain "[I" (some 0) with kind := .array 19 .int, interfaces := #[14, 2], accessFlags := 1041 }

def heap : Heap := #[{ cls := 7, slots := #[.long 0, .int 1, .null, .int 0, .null, .int 0, .int 0], vm := .statics 7 },
  { cls := 12, slots := #[.null, .null, .null], vm := .statics 12 }]
def classes : Array Class := #[k0, k1, k2, k3, k4, k5, k6, k7, k8, k9, k10, k11, k12, k13, k14, k15, k16, k17, k18, k19, k20]
def interned : List (Array UInt16 × Addr) := []
def slotsUsed : Nat := 10
def theMethod : MethodId := ⟨1, 1⟩
def args0 : Array Value := #[.int 5, .int 5, .int 5, .int 5]
def aboutOver (below : List Frame) : State where
  vm := { classes := classes, interned := interned.toArray }
  heap := heap
  slotsUsed := slotsUsed
  threads := #[{ frames := .invoking theMethod args0 :: below }]
def below0 : List Frame := [.native { method := ⟨0, 0⟩, args := #[] }]
def about1 : State := aboutOver below0
def p0 : Program := .bare "" "" ""
def e0 : Env := launch0.env 0 0 0
theorem w_frames : about1.frames = Frame.invoking theMethod args0 :: below0 := rfl
set_option maxRecDepth 65536 in
theorem w_args : argsFit about1.vm theMethod args0 = true := by decide +kernel
set_option maxRecDepth 65536 in
theorem w_heap : heapFits about1 = true := by decide +kernel
set_option maxRecDepth 65536 in
theorem w_runnable : about1.curStatus? = some .runnable := by decide +kernel
set_option maxRecDepth 65536 in
theorem w_alone : about1.alone = true := by decide +kernel
set_option maxRecDepth 65536 in
theorem w_named : about1.methodNamed? x = some theMethod := by decide +kernel
set_option maxRecDepth 65536 in
theorem w_hears : about1.hears theMethod below0 = true := by decide +kernel
set_option maxRecDepth 65536 in
theorem w_ripe : about1.ripe theMethod args0 below0 = true := by decide +kernel
theorem w_running : about1.status = .running := rfl
set_option maxRecDepth 65536 in
theorem w_room : about1.hasRoom e0.platform room_1 = true :=
  launch0.hasRoom_least _ room_1 (by decide +kernel) (by decide +kernel) (by decide +kernel) (by decide +kernel) (by decide +kernel) (by decide +kernel)
theorem allAtoms_all (ts : List Jvm.Cond) (a : Array Jvm.Value) (st : Jvm.State) : (allAtoms ts).before a st = ts.all (fun c => c.before a st) := by
  induction ts with
  | nil => rfl
  | cons c t ih =>
    show (Jvm.Cond.and c (allAtoms t)).before a st = _
    rw [Jvm.Cond.before_and, ih, List.all_cons]
def words1 : List Jvm.Cond := Jvm.Cond.code x code maxLocals ret :: tables_1
/-- a 'code' word, met by the world's own term for the bytes: nothing is compared byte by byte -/
theorem code_word {y : MethodName} {bytes : ByteArray} {mx : Nat} {rt : Option FieldType} {a : Array Value} {s : State} {m : MethodId} {meth : Method} {c : Code} (h1 : s.methodNamed? y = some m) (h2 : s.vm.method? m = some meth) (h3 : meth.code = some c) (h4 : c.code = bytes)
    (h5 : (c.maxLocals == mx && c.exceptionTable.isEmpty && decide (c.maxStack ≤ mostOperands) && decide (meth.sig.returnType = rt) && !meth.locks && decide (parseMethodDescriptor y.desc = some meth.sig)) = true) : (Jvm.Cond.code y bytes mx rt).before a s = true := by
  simp only [Bool.and_eq_true, beq_iff_eq, Bool.not_eq_true', decide_eq_true_eq] at h5
  obtain ⟨⟨⟨⟨⟨g1, g2⟩, g3⟩, g4⟩, g5⟩, g6⟩ := h5
  simp [Cond.before, Cond.holds, Cond.value, h1, h2, h3, h4, g1, g2, g3, g4, g5, g6]
def isCode : Jvm.Cond → Bool
  | .code _ _ _ _ => true
  | _ => false
theorem all_split {L : List Jvm.Cond} {P : Jvm.Cond → Bool} (h1 : L.all (fun c => isCode c || P c) = true) (h2 : ∀ c ∈ L.filter isCode, P c = true) : L.all P = true := by
  refine List.all_eq_true.mpr fun c hc => ?_
  have h := List.all_eq_true.mp h1 c hc
  rcases Bool.eq_false_or_eq_true (isCode c) with hi | hi
  · exact h2 c (List.mem_filter.mpr ⟨hc, hi⟩)
  · simpa [hi] using h
set_option maxRecDepth 65536 in
theorem w_c0 : (Jvm.Cond.code x code maxLocals ret).before args0 about1 = true := code_word (m := ⟨1, 1⟩) (meth := k1m1) (c := k1c1) (by decide +kernel) rfl rfl rfl (by decide +kernel)
set_option maxRecDepth 65536 in
theorem w_c1 : (Jvm.Cond.code ({ cls := "com/example/farthing/farthing/format/FormTextWritesSignsPinLaw", name := "text", desc := "(II)Ljava/lang/String;" } : Jvm.MethodName) method_3_code (5 : Nat) (Option.some (Jvm.ClassFile.FieldType.object "java/lang/String"))).before args0 about1 = true := code_word (m := ⟨1, 2⟩) (meth := k1m2) (c := k1c2) (by decide +kernel) rfl rfl rfl (by decide +kernel)
set_option maxRecDepth 65536 in
theorem w_c2 : (Jvm.Cond.code ({ cls := "java/lang/String", name := "<init>", desc := "([C)V" } : Jvm.MethodName) jdk_42_method_3_code (2 : Nat) (Option.none : Option Jvm.ClassFile.FieldType)).before args0 about1 = true := code_word (m := ⟨7, 1⟩) (meth := k7m1) (c := k7c1) (by decide +kernel) rfl rfl rfl (by decide +kernel)
set_option maxRecDepth 65536 in
theorem w_c3 : (Jvm.Cond.code ({ cls := "java/lang/String", name := "<init>", desc := "([CIILjava/lang/Void;)V" } : Jvm.MethodName) jdk_42_method_149_code (6 : Nat) (Option.none : Option Jvm.ClassFile.FieldType)).before args0 about1 = true := code_word (m := ⟨7, 3⟩) (meth := k7m3) (c := k7c3) (by decide +kernel) rfl rfl rfl (by decide +kernel)
set_option maxRecDepth 65536 in
theorem w_c4 : (Jvm.Cond.code ({ cls := "java/lang/Object", name := "<init>", desc := "()V" } : Jvm.MethodName) object_method_1_code (1 : Nat) (Option.none : Option Jvm.ClassFile.FieldType)).before args0 about1 = true := code_word (m := ⟨0, 0⟩) (meth := k0m0) (c := k0c0) (by decide +kernel) rfl rfl rfl (by decide +kernel)
set_option maxRecDepth 65536 in
theorem w_c5 : (Jvm.Cond.code ({ cls := "java/lang/StringUTF16", name := "compress", desc := "([CII)[B" } : Jvm.MethodName) jdk_52_method_16_code (6 : Nat) (Option.some (Jvm.ClassFile.FieldType.array Jvm.ClassFile.FieldType.byte))).before args0 about1 = true := code_word (m := ⟨8, 2⟩) (meth := k8m2) (c := k8c2) (by decide +kernel) rfl rfl rfl (by decide +kernel)
set_option maxRecDepth 65536 in
theorem w_c6 : (Jvm.Cond.code ({ cls := "java/lang/StringUTF16", name := "compress", desc := "([CI[BII)I" } : Jvm.MethodName) jdk_52_method_21_code (7 : Nat) (Option.some Jvm.ClassFile.FieldType.int)).before args0 about1 = true := code_word (m := ⟨8, 3⟩) (meth := k8m3) (c := k8c3) (by decide +kernel) rfl rfl rfl (by decide +kernel)
set_option maxRecDepth 65536 in
theorem w_c7 : (Jvm.Cond.code ({ cls := "java/lang/StringUTF16", name := "coderFromArrayLen", desc := "([BI)B" } : Jvm.MethodName) jdk_52_method_15_code (2 : Nat) (Option.some Jvm.ClassFile.FieldType.byte)).before args0 about1 = true := code_word (m := ⟨8, 1⟩) (meth := k8m1) (c := k8c1) (by decide +kernel) rfl rfl rfl (by decide +kernel)
set_option maxRecDepth 65536 in
theorem w_c8 : (Jvm.Cond.code ({ cls := "com/example/farthing/farthing/format/FormText", name := "<init>", desc := "(Ljava/util/Set;Ljava/util/Set;Ljava/util/Set;Ljava/lang/String;Ljava/lang/String;)V" } : Jvm.MethodName) prog_3_method_1_code (6 : Nat) (Option.none : Option Jvm.ClassFile.FieldType)).before args0 about1 = true := code_word (m := ⟨10, 0⟩) (meth := k10m0) (c := k10c0) (by decide +kernel) rfl rfl rfl (by decide +kernel)
set_option maxRecDepth 65536 in
theorem w_c9 : (Jvm.Cond.code ({ cls := "java/lang/Record", name := "<init>", desc := "()V" } : Jvm.MethodName) jdk_30_method_1_code (1 : Nat) (Option.none : Option Jvm.ClassFile.FieldType)).before args0 about1 = true := code_word (m := ⟨9, 0⟩) (meth := k9m0) (c := k9c0) (by decide +kernel) rfl rfl rfl (by decide +kernel)
set_option maxRecDepth 65536 in
theorem w_c10 : (Jvm.Cond.code ({ cls := "com/example/farthing/farthing/format/FormText", name := "writesSigns", desc := "()Z" } : Jvm.MethodName) prog_3_method_6_code (1 : Nat) (Option.some Jvm.ClassFile.FieldType.boolean)).before args0 about1 = true := code_word (m := ⟨10, 1⟩) (meth := k10m1) (c := k10c1) (by decide +kernel) rfl rfl rfl (by decide +kernel)
set_option maxRecDepth 65536 in
theorem w_c11 : (Jvm.Cond.code ({ cls := "java/lang/String", name := "isEmpty", desc := "()Z" } : Jvm.MethodName) jdk_42_method_55_code (1 : Nat) (Option.some Jvm.ClassFile.FieldType.boolean)).before args0 about1 = true := code_word (m := ⟨7, 2⟩) (meth := k7m2) (c := k7c2) (by decide +kernel) rfl rfl rfl (by decide +kernel)
def codes1 : List Jvm.Cond := [Jvm.Cond.code x code maxLocals ret, Jvm.Cond.code ({ cls := "com/example/farthing/farthing/format/FormTextWritesSignsPinLaw", name := "text", desc := "(II)Ljava/lang/String;" } : Jvm.MethodName) method_3_code (5 : Nat) (Option.some (Jvm.ClassFile.FieldType.object "java/lang/String")), Jvm.Cond.code ({ cls := "java/lang/String", name := "<init>", desc := "([C)V" } : Jvm.MethodName) jdk_42_method_3_code (2 : Nat) (Option.none : Option Jvm.ClassFile.FieldType), Jvm.Cond.code ({ cls := "java/lang/String", name := "<init>", desc := "([CIILjava/lang/Void;)V" } : Jvm.MethodName) jdk_42_method_149_code (6 : Nat) (Option.none : Option Jvm.ClassFile.FieldType), Jvm.Cond.code ({ cls := "java/lang/Object", name := "<init>", desc := "()V" } : Jvm.MethodName) object_method_1_code (1 : Nat) (Option.none : Option Jvm.ClassFile.FieldType), Jvm.Cond.code ({ cls := "java/lang/StringUTF16", name := "compress", desc := "([CII)[B" } : Jvm.MethodName) jdk_52_method_16_code (6 : Nat) (Option.some (Jvm.ClassFile.FieldType.array Jvm.ClassFile.FieldType.byte)), Jvm.Cond.code ({ cls := "java/lang/StringUTF16", name := "compress", desc := "([CI[BII)I" } : Jvm.MethodName) jdk_52_method_21_code (7 : Nat) (Option.some Jvm.ClassFile.FieldType.int), Jvm.Cond.code ({ cls := "java/lang/StringUTF16", name := "coderFromArrayLen", desc := "([BI)B" } : Jvm.MethodName) jdk_52_method_15_code (2 : Nat) (Option.some Jvm.ClassFile.FieldType.byte), Jvm.Cond.code ({ cls := "com/example/farthing/farthing/format/FormText", name := "<init>", desc := "(Ljava/util/Set;Ljava/util/Set;Ljava/util/Set;Ljava/lang/String;Ljava/lang/String;)V" } : Jvm.MethodName) prog_3_method_1_code (6 : Nat) (Option.none : Option Jvm.ClassFile.FieldType), Jvm.Cond.code ({ cls := "java/lang/Record", name := "<init>", desc := "()V" } : Jvm.MethodName) jdk_30_method_1_code (1 : Nat) (Option.none : Option Jvm.ClassFile.FieldType), Jvm.Cond.code ({ cls := "com/example/farthing/farthing/format/FormText", name := "writesSigns", desc := "()Z" } : Jvm.MethodName) prog_3_method_6_code (1 : Nat) (Option.some Jvm.ClassFile.FieldType.boolean), Jvm.Cond.code ({ cls := "java/lang/String", name := "isEmpty", desc := "()Z" } : Jvm.MethodName) jdk_42_method_55_code (1 : Nat) (Option.some Jvm.ClassFile.FieldType.boolean)]
set_option maxRecDepth 65536 in
theorem codes_eq : words1.filter isCode = codes1 := rfl
theorem w_codes : ∀ c ∈ words1.filter isCode, c.before args0 about1 = true := by
  rw [codes_eq]
  intro c hc
  simp only [codes1, List.mem_cons, List.not_mem_nil, or_false] at hc
  rcases hc with rfl | rfl | rfl | rfl | rfl | rfl | rfl | rfl | rfl | rfl | rfl | rfl
  · exact w_c0
  · exact w_c1
  · exact w_c2
  · exact w_c3
  · exact w_c4
  · exact w_c5
  · exact w_c6
  · exact w_c7
  · exact w_c8
  · exact w_c9
  · exact w_c10
  · exact w_c11
set_option maxRecDepth 65536 in
theorem w_t1 : (words1.take 24).all (fun c => isCode c || c.before args0 about1) = true := by decide +kernel
set_option maxRecDepth 65536 in
theorem w_t2 : ((words1.drop 24).take 24).all (fun c => isCode c || c.before args0 about1) = true := by decide +kernel
set_option maxRecDepth 65536 in
theorem w_t3 : ((words1.drop 24).drop 24).all (fun c => isCode c || c.before args0 about1) = true := by decide +kernel
theorem w_tables : (allAtoms (Jvm.Cond.code x code maxLocals ret :: tables_1)).before args0 about1 = true := by
  rw [allAtoms_all]
  show words1.all (fun c => c.before args0 about1) = true
  refine all_split ?_ w_codes
  rw [← List.take_append_drop 24 words1, List.all_append, w_t1, ← List.take_append_drop 24 (words1.drop 24), List.all_append, w_t2, w_t3]
  rfl
set_option maxRecDepth 65536 in
theorem w_rest : rest_1_c.before args0 about1 = true := by decide +kernel
set_option maxRecDepth 65536 in
theorem w_case : (Jvm.Cond.and given_1 narrow_1).before args0 about1 = true := by decide +kernel
set_option maxRecDepth 65536 in
theorem w_consts : constsHeld consts_1 about1 := Jvm.Lit.constsHeldB_iff.mp (by decide +kernel)
theorem w_applies : (headSpec (Jvm.Cond.code x code maxLocals ret :: tables_1) room_1).applies x e0.platform about1 = true :=
  (Spec.applies_iff w_frames).mpr ⟨w_running, w_runnable, w_alone, w_named, w_hears, w_ripe, w_room, w_tables⟩
theorem atStart : AtStart classFile x code maxLocals ret World_1 tables_1 room_1 Calls_1 rest_1 Pre_1 launch0 p0 e0 about1 theMethod args0 below0 :=
  ⟨lists_1, trivial, launch0.admits_env _ _ _, launch0.least_env, fairChoices_fair.cas, fairChoices_fair.clock, w_frames, w_args, w_heap, w_applies, ⟨w_consts, trivial⟩, w_rest, w_case⟩
end start1
theorem witness_1 : WitnessClaimed_1 := ⟨start1.p0, start1.e0, start1.about1, start1.theMethod, start1.args0, start1.below0, start1.atStart⟩
end Jvm.Pilot.@@N@@
