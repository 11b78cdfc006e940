import JvmDerived
import JvmDerived.Pilot.@@N@@Statement
import JvmDerived.Pilot.@@N@@Code
set_option linter.unusedVariables false
set_option linter.unusedSimpArgs false
namespace Jvm.Pilot.@@N@@
open Jvm Jvm.ClassFile Sem Op Lib Jvm.Free Jvm.Stand Jvm.LawKit Jvm.RoadKit Bundle Jvm.Pilot.@@N@@.Jvm.D
/-! ## the walking judgement -/
section Core
variable {w : Bool} {Z : State} {EL : List (String × Nat)} {own nm : String} {bytes : ByteArray} {ml : Nat} {ret : Option FieldType} {R : Room} {hS : Heap} {ws : List Addr} {Q : Option Value → Heap → Prop} {os : List Addr} {cells slots : Nat} {h h' : Heap} {pc pc' : Nat} {Ls Ls' : Array Slot} {rest : List Value} {a0 : Array Value}
def Ok (p : Program) (s : State) (m : MethodId) (meth : Method) (c : Code) (Z : State) (own nm : String) (bytes : ByteArray) (ml : Nat) (ret : Option FieldType) : Prop :=
  p.tables.exec = Jvm.exec ∧ c.code = bytes ∧ c.maxLocals = ml ∧ Z.Warmed39 s.vm ∧ s.vm.findClass own = some m.cls ∧ meth.name = nm ∧ meth.sig.returnType = ret ∧ meth.locks = false
/-- what is known of the tables at hand: in a plain walk they are the start's; in a wide one literals may have been loaded -/
def Sn : Bool → State → List (String × Nat) → State → Vm → Heap → List Addr → Prop
  | false, _, _, s, vm0, _, _ => vm0 = s.vm
  | true, Z, EL, s, vm0, h, os => (∃ k0, s.Since vm0 k0 ∧ k0 ≤ h.size) ∧ CHr Z EL s.vm s.heap vm0 h ∧ (∃ a0, EW Z a0 EL) ∧ ∀ x ∈ os, x < h.size ∧ Safe Z EL vm0 h x
def EndC : Bool → State → List (String × Nat) → State → Outcome → State → List Loc → Nat → Nat → Prop
  | false, _, _, s, o, t, L, k, n => FrameEnd s o t L k n
  | true, Z, EL, s, o, t, L, k, n => CHr Z EL s.vm s.heap t.vm t.heap ∧ ReturnedEndW s o t L k n
def Go (w : Bool) (Z : State) (EL : List (String × Nat)) (p : Program) (e : Env) (s : State) (below : List Frame) (R : Room) (hS : Heap) (ws : List Addr) (Q : Option Value → Heap → Prop) (S : State) : Prop :=
  ∃ s₂ o, Steps p.tables e below S s₂ ∧ s₂.status = .running ∧ Ended s₂ below o ∧ ∃ v L, o = .returned v ∧ (Fr Z.heap.size L ∧ Keep hS s₂.heap ws ∧ Q v s₂.heap) ∧ EndC w Z EL s o s₂ L R.cells R.slots
/-- the walk stands at pc over the heap h and ends as Q says -/
def Rn (w : Bool) (Z : State) (EL : List (String × Nat)) (own nm : String) (bytes : ByteArray) (ml : Nat) (ret : Option FieldType) (R : Room) (hS : Heap) (ws : List Addr) (Q : Option Value → Heap → Prop) (os : List Addr) (cells slots : Nat) (h : Heap) (pc : Nat) (Ls : Array Slot) (st : List Value) : Prop :=
  ∀ (p : Program) (l : Launch) (e : Env) (s : State) (vm0 : Vm) (m : MethodId) (args : Array Value) (below : List Frame) (meth : Method) (c : Code) (T : State) (locs : List Loc),
    Ok p (s.setVm vm0) m meth c Z own nm bytes ml ret → Stand p l e R (s.setVm vm0) m args below meth c T locs cells slots → Sn w Z EL s vm0 h os → Fr Z.heap.size locs → Keep hS h ws → (Ext Z.heap hS ∧ ∀ x ∈ ws, Z.heap.size ≤ x) → T.heap = h →
    Go w Z EL p e s below R hS ws Q (T.setTop (mkF m pc Ls st))
theorem Go.pre {p : Program} {e : Env} {s : State} {below : List Frame} {S S' : State} (k : ∀ t, Steps p.tables e below S' t → Steps p.tables e below S t) (g : Go w Z EL p e s below R hS ws Q S') : Go w Z EL p e s below R hS ws Q S := by
  obtain ⟨s₂, o, h1, r⟩ := g
  exact ⟨s₂, o, k _ h1, r⟩
/-- a step that moves nothing but the frame -/
theorem Rn.pure {st st' : List Value} (k : Rn w Z EL own nm bytes ml ret R hS ws Q os cells slots h pc' Ls' st')
    (f : ∀ (p : Program) (l : Launch) (e : Env) (s : State) (m : MethodId) (args : Array Value) (below : List Frame) (meth : Method) (c : Code) (T : State) (locs : List Loc), p.tables.exec = Jvm.exec → c.code = bytes → Stand p l e R s m args below meth c T locs cells slots → Z.Warmed39 s.vm → s.vm.findClass own = some m.cls → T.heap = h → ∀ t, Steps p.tables e below (T.setTop (mkF m pc' Ls' st')) t → Steps p.tables e below (T.setTop (mkF m pc Ls st)) t) :
    Rn w Z EL own nm bytes ml ret R hS ws Q os cells slots h pc Ls st := by
  intro p l e s vm0 m args below meth c T locs ok X sn fr K O eT
  exact (k p l e s vm0 m args below meth c T locs ok X sn fr K O eT).pre (f p l e _ m args below meth c T locs ok.1 ok.2.1 X ok.2.2.2.1 ok.2.2.2.2.1 eT)
/-- a step that may resolve an entry of the tables, and moves nothing else but the frame -/
theorem Rn.note {st st' : List Value} (k : Rn w Z EL own nm bytes ml ret R hS ws Q os cells slots h pc' Ls' st')
    (f : ∀ (p : Program) (l : Launch) (e : Env) (s : State) (m : MethodId) (args : Array Value) (below : List Frame) (meth : Method) (c : Code) (T : State) (locs : List Loc), p.tables.exec = Jvm.exec → c.code = bytes → c.maxLocals = ml → Stand p l e R s m args below meth c T locs cells slots → Z.Warmed39 s.vm → s.vm.findClass own = some m.cls → T.heap = h → ∃ T', Stand p l e R s m args below meth c T' locs cells slots ∧ T'.heap = h ∧ ∀ t, Steps p.tables e below (T'.setTop (mkF m pc' Ls' st')) t → Steps p.tables e below (T.setTop (mkF m pc Ls st)) t) :
    Rn w Z EL own nm bytes ml ret R hS ws Q os cells slots h pc Ls st := by
  intro p l e s vm0 m args below meth c T locs ok X sn fr K O eT
  obtain ⟨T', X', e', stp⟩ := f p l e _ m args below meth c T locs ok.1 ok.2.1 ok.2.2.1 X ok.2.2.2.1 ok.2.2.2.2.1 eT
  exact (k p l e s vm0 m args below meth c T' locs ok X' sn fr K O e').pre stp
theorem Sn.ext {s : State} {vm0 : Vm} (E : Ext h h') (sn : Sn w Z EL s vm0 h os) : Sn w Z EL s vm0 h' os := by
  cases w
  · exact sn
  · obtain ⟨⟨k0, a, b⟩, c, d, f⟩ := sn
    exact ⟨⟨k0, a, Nat.le_trans b E.1⟩, c.trans (CHr.ext E c.1), d, fun x hx => ⟨Nat.lt_of_lt_of_le (f x hx).1 E.1, (f x hx).2.ext E c.1⟩⟩
/-- the address may be written: no literal's cell -/
def Sf (w : Bool) (Z : State) (EL : List (String × Nat)) (os : List Addr) (h : Heap) (a : Addr) : Prop := w = true → a ∈ os ∨ ∀ vm, Z.vm.Alike vm → Safe Z EL vm h a
theorem Sf.no {a : Addr} : Sf false Z EL os h a := fun q => nomatch q
theorem Sf.mem {a : Addr} (q : a ∈ os) : Sf w Z EL os h a := fun _ => Or.inl q
theorem Sf.exa {a : Addr} {C : String} (E : Exa Z h a C) (h1 : C ≠ "java/lang/String") (h2 : C ≠ "[B") : Sf w Z EL os h a := fun _ => Or.inr fun _ al => Safe.exa al E h1 h2
theorem Sf.arr {a : Addr} {cl : Cell} {ty : FieldType} (A : Arr Z h a cl ty) (ht : ty ≠ .byte) : Sf w Z EL os h a := fun _ => Or.inr fun _ al => Safe.arr al A ht
theorem Sn.keep {s : State} {vm0 : Vm} {ws' : List Addr} (hZ : Z.Warmed39 vm0) (K : Keep h h' ws') (q : ∀ x ∈ ws', Sf w Z EL os h x) (sn : Sn w Z EL s vm0 h os) : Sn w Z EL s vm0 h' os := by
  cases w
  · exact sn
  · obtain ⟨⟨k0, a, b⟩, c, d, f⟩ := sn
    have q' : ∀ x ∈ ws', Safe Z EL vm0 h x := fun x hx => ((q x hx) rfl).elim (fun z => (f x z).2) (fun z => z _ hZ.alike)
    exact ⟨⟨k0, a, Nat.le_trans b K.1⟩, c.trans (CHr.keep K q' c.1), d, fun x hx => ⟨Nat.lt_of_lt_of_le (f x hx).1 K.1, (f x hx).2.keep K q' c.1⟩⟩
theorem Sn.wr {s : State} {vm0 : Vm} {a : Addr} {sl : Nat} {v : Value} (hZ : Z.Warmed39 vm0) (W : Wr h h' a sl v) (q : Sf w Z EL os h a) (sn : Sn w Z EL s vm0 h os) : Sn w Z EL s vm0 h' os :=
  sn.keep hZ (Keep.of_wr W) fun x hx => by cases List.mem_singleton.mp hx; exact q
theorem ge_of {a : Addr} (O : Ext Z.heap hS ∧ ∀ x ∈ ws, Z.heap.size ≤ x) (q : a ∈ ws ∨ hS.size ≤ a) : Z.heap.size ≤ a := q.elim (O.2 a) fun z => Nat.le_trans O.1.1 z
theorem Rn.wrote {st st' : List Value} {a : Addr} {sl : Nat} {v : Value} (q : a ∈ ws ∨ hS.size ≤ a) (sf : Sf w Z EL os h a) (k : ∀ h', Wr h h' a sl v → Rn w Z EL own nm bytes ml ret R hS ws Q os cells slots h' pc' Ls' st')
    (f : ∀ (p : Program) (l : Launch) (e : Env) (s : State) (m : MethodId) (args : Array Value) (below : List Frame) (meth : Method) (c : Code) (T : State) (locs : List Loc), p.tables.exec = Jvm.exec → c.code = bytes → meth.name = nm → Stand p l e R s m args below meth c T locs cells slots → Z.Warmed39 s.vm → s.vm.findClass own = some m.cls → T.heap = h → ∃ T' h', Stand p l e R s m args below meth c T' (locs ++ [⟨a, sl⟩]) cells slots ∧ T'.heap = h' ∧ Wr h h' a sl v ∧ ∀ t, Steps p.tables e below (T'.setTop (mkF m pc' Ls' st')) t → Steps p.tables e below (T.setTop (mkF m pc Ls st)) t) :
    Rn w Z EL own nm bytes ml ret R hS ws Q os cells slots h pc Ls st := by
  intro p l e s vm0 m args below meth c T locs ok X sn fr K O eT
  obtain ⟨T', h', X', e', W, stp⟩ := f p l e _ m args below meth c T locs ok.1 ok.2.1 ok.2.2.2.2.2.1 X ok.2.2.2.1 ok.2.2.2.2.1 eT
  exact (k h' W p l e s vm0 m args below meth c T' _ ok X' (sn.wr ok.2.2.2.1 W sf) (Fr.snoc X' fr (ge_of O q)) (K.wr W q) O e').pre stp
theorem Rn.made {st st' : Addr → List Value} {st0 : List Value} {G : Heap → Addr → Prop} {c1 s1 : Nat} (k : ∀ h' a, a = h.size → hS.size ≤ a → Ext h h' → G h' a → Rn w Z EL own nm bytes ml ret R hS ws Q (a :: os) (cells + c1) (slots + s1) h' pc' Ls' (st' a))
    (lt : ∀ h', G h' h.size → h.size < h'.size)
    (f : ∀ (p : Program) (l : Launch) (e : Env) (s : State) (m : MethodId) (args : Array Value) (below : List Frame) (meth : Method) (c : Code) (T : State) (locs : List Loc), p.tables.exec = Jvm.exec → c.code = bytes → Stand p l e R s m args below meth c T locs cells slots → Z.Warmed39 s.vm → s.vm.findClass own = some m.cls → T.heap = h → ∃ T' h', Stand p l e R s m args below meth c T' locs (cells + c1) (slots + s1) ∧ T'.heap = h' ∧ Ext h h' ∧ G h' h.size ∧ ∀ t, Steps p.tables e below (T'.setTop (mkF m pc' Ls' (st' h.size))) t → Steps p.tables e below (T.setTop (mkF m pc Ls st0)) t) :
    Rn w Z EL own nm bytes ml ret R hS ws Q os cells slots h pc Ls st0 := by
  intro p l e s vm0 m args below meth c T locs ok X sn fr K O eT
  obtain ⟨T', h', X', e', E, g, stp⟩ := f p l e _ m args below meth c T locs ok.1 ok.2.1 X ok.2.2.2.1 ok.2.2.2.2.1 eT
  have sn1 : Sn w Z EL s vm0 h' os := sn.ext E
  have sn' : Sn w Z EL s vm0 h' (h.size :: os) := by
    cases w
    · exact sn1
    · refine ⟨sn1.1, sn1.2.1, sn1.2.2.1, fun x hx => ?_⟩
      rcases List.mem_cons.mp hx with rfl | hx
      · exact ⟨lt h' g, (Safe.new (Nat.le_refl _)).ext E sn.2.1.1⟩
      · exact sn1.2.2.2 x hx
  exact (k h' h.size rfl K.1 E g p l e s vm0 m args below meth c T' _ ok X' sn' fr (K.ext E) O e').pre stp
theorem Rn.old (k : Ext Z.heap h → Keep hS h ws → Rn w Z EL own nm bytes ml ret R hS ws Q os cells slots h pc Ls rest) : Rn w Z EL own nm bytes ml ret R hS ws Q os cells slots h pc Ls rest := by
  intro p l e s vm0 m args below meth c T locs ok X sn fr K O eT
  have X0 : Old Z Z.heap.size h := Old.keep (h := hS) ⟨rfl, O.1⟩ K O.2
  exact k X0.2 K p l e s vm0 m args below meth c T locs ok X sn fr K O eT
theorem Rn.more {c2 s2 : Nat} (hc : cells ≤ c2) (hs : slots ≤ s2) (k : Rn w Z EL own nm bytes ml ret R hS ws Q os c2 s2 h pc Ls rest) : Rn w Z EL own nm bytes ml ret R hS ws Q os cells slots h pc Ls rest := by
  intro p l e s vm0 m args below meth c T locs ok X sn fr K O eT
  exact k p l e s vm0 m args below meth c T locs ok (X.more hc hs) sn fr K O eT
theorem Rn.less {os' : List Addr} (q : ∀ x ∈ os', x ∈ os) (k : Rn w Z EL own nm bytes ml ret R hS ws Q os' cells slots h pc Ls rest) : Rn w Z EL own nm bytes ml ret R hS ws Q os cells slots h pc Ls rest := by
  intro p l e s vm0 m args below meth c T locs ok X sn fr K O eT
  refine k p l e s vm0 m args below meth c T locs ok X ?_ fr K O eT
  cases w
  · exact sn
  · exact ⟨sn.1, sn.2.1, sn.2.2.1, fun x hx => sn.2.2.2 x (q x hx)⟩
/-! ### the ends -/
theorem Rn.leave {v : Option Value} {st : List Value} (hc : cells ≤ R.cells) (hs : slots ≤ R.slots) (hv : ret = none → v = none) (q : Q v h)
    (f : ∀ (p : Program) (l : Launch) (e : Env) (s : State) (m : MethodId) (args : Array Value) (below : List Frame) (meth : Method) (c : Code) (T : State) (locs : List Loc) (fs : List Frame), p.tables.exec = Jvm.exec → c.code = bytes → meth.sig.returnType = ret → Stand p l e R s m args below meth c T locs cells slots → (∀ (f : JFrame) (acts : List Action), f.method = m → f.locked = none → f.entered = [] → (doReturn e (T.setTop f) acts v).1 = T.setFrames fs) → Steps p.tables e below (T.setTop (mkF m pc Ls st)) (T.setFrames fs)) :
    Rn w Z EL own nm bytes ml ret R hS ws Q os cells slots h pc Ls st := by
  intro p l e s vm0 m args below meth c T locs ok X sn fr K O eT
  obtain ⟨hx, hby, hml, hZ, hown, hnm, hret, hlk⟩ := ok
  subst eT
  cases w
  · cases (sn : vm0 = s.vm)
    obtain ⟨fs, hr, hrun, hended, hW, hsame⟩ := X.leave (v := v) (fun z => hv (hret.symm.trans z)) hlk
    exact ⟨_, _, f p l e _ m args below meth c T locs fs hx hby hret X hr, hrun, hended, _, _, rfl, ⟨fr, K, q⟩, ⟨_, rfl⟩, hW, hsame.mono hc hs⟩
  · obtain ⟨⟨k0, hS0, hk⟩, hC, ⟨b0, hE⟩, -⟩ := sn
    obtain ⟨fs, hr, hrun, hended, h1, h2, h3, h4⟩ := Jvm.Stand.leaveW X hS0 hk (v := v) (fun z => hv (hret.symm.trans z)) hlk
    exact ⟨_, _, f p l e _ m args below meth c T locs fs hx hby hret X hr, hrun, hended, _, _, rfl, ⟨fr, K, q⟩, (show CHr Z EL s.vm s.heap T.vm T.heap from hC.trans (CHv.at X hZ hE hC.1)), h1, h2, h3, h4.mono hc hs⟩
theorem Rn.retV (hr : ret = none) (hd : decode bytes pc = .ok (.return_, 1)) (hc : cells ≤ R.cells) (hs : slots ≤ R.slots) (q : Q none h) : Rn w Z EL own nm bytes ml ret R hS ws Q os cells slots h pc Ls [] :=
  Rn.leave (v := none) hc hs (fun _ => rfl) q fun p l e s m args below meth c T locs fs hx hby hret X hl => X.returnOut hx (hret.trans hr) (hb hby hd) hl
theorem Rn.retN {t : FieldType} {z : Int32} (hr : ret = some t) (ht : t = .boolean ∨ t = .byte ∨ t = .char ∨ t = .short) (hd : decode bytes pc = .ok (.ireturn, 1)) (hc : cells ≤ R.cells) (hs : slots ≤ R.slots) (q : Q (some (.int (nar t z))) h) : Rn w Z EL own nm bytes ml ret R hS ws Q os cells slots h pc Ls (.int z :: rest) :=
  Rn.leave (v := some (.int (nar t z))) hc hs (fun z => by rw [hr] at z; cases z) q fun p l e s m args below meth c T locs fs hx hby hret X hl => Jvm.RoadKit.retN X hx (hret.trans hr) ht (hb hby hd) hl
theorem Rn.retO {t : FieldType} {v : Value} {i : Instr} (hr : ret = some t) (hn : narrow t v = v) (hi : (i = .ireturn ∧ (t = .int ∨ t = .boolean ∨ t = .byte ∨ t = .char ∨ t = .short) ∧ ∃ z, v = .int z) ∨ (i = .lreturn ∧ t = .long ∧ ∃ z, v = .long z) ∨ (i = .dreturn ∧ t = .double ∧ ∃ z, v = .double z) ∨ (i = .freturn ∧ t = .float ∧ ∃ z, v = .float z) ∨ (i = .areturn ∧ t.isReference = true ∧ v.isRef = true)) (hd : decode bytes pc = .ok (i, 1)) (hc : cells ≤ R.cells) (hs : slots ≤ R.slots) (q : Q (some v) h) : Rn w Z EL own nm bytes ml ret R hS ws Q os cells slots h pc Ls (v :: rest) :=
  Rn.leave (v := some v) hc hs (fun z => by rw [hr] at z; cases z) q fun p l e s m args below meth c T locs fs hx hby hret X hl => retOut X hx (hret.trans hr) hn hi (hb hby hd) hl
theorem Rn.retI {z : Int32} (hr : ret = some .int) (hd : decode bytes pc = .ok (.ireturn, 1)) (hc : cells ≤ R.cells) (hs : slots ≤ R.slots) (q : Q (some (.int z)) h) : Rn w Z EL own nm bytes ml ret R hS ws Q os cells slots h pc Ls (.int z :: rest) :=
  Rn.retO hr rfl (Or.inl ⟨rfl, Or.inl rfl, _, rfl⟩) hd hc hs q
theorem Rn.retJ {z : Int64} (hr : ret = some .long) (hd : decode bytes pc = .ok (.lreturn, 1)) (hc : cells ≤ R.cells) (hs : slots ≤ R.slots) (q : Q (some (.long z)) h) : Rn w Z EL own nm bytes ml ret R hS ws Q os cells slots h pc Ls (.long z :: rest) :=
  Rn.retO hr rfl (Or.inr (Or.inl ⟨rfl, rfl, _, rfl⟩)) hd hc hs q
theorem Rn.retD {z : UInt64} (hr : ret = some .double) (hd : decode bytes pc = .ok (.dreturn, 1)) (hc : cells ≤ R.cells) (hs : slots ≤ R.slots) (q : Q (some (.double z)) h) : Rn w Z EL own nm bytes ml ret R hS ws Q os cells slots h pc Ls (.double z :: rest) :=
  Rn.retO hr rfl (Or.inr (Or.inr (Or.inl ⟨rfl, rfl, _, rfl⟩))) hd hc hs q
theorem Rn.retA {t : FieldType} {v : Value} (hr : ret = some t) (ht : t.isReference = true) (hv : v.isRef = true) (hd : decode bytes pc = .ok (.areturn, 1)) (hc : cells ≤ R.cells) (hs : slots ≤ R.slots) (q : Q (some v) h) : Rn w Z EL own nm bytes ml ret R hS ws Q os cells slots h pc Ls (v :: rest) :=
  Rn.retO hr (by rcases ref_cases hv with rfl | ⟨a, rfl⟩ <;> cases t <;> simp [FieldType.isReference] at ht <;> rfl) (Or.inr (Or.inr (Or.inr (Or.inr ⟨rfl, ht, hv⟩)))) hd hc hs q
end Core
section Steps
variable {w : Bool} {Z : State} {EL : List (String × Nat)} {own nm : String} {bytes : ByteArray} {ml : Nat} {ret : Option FieldType} {R : Room} {hS : Heap} {ws : List Addr} {Q : Option Value → Heap → Prop} {os : List Addr} {cells slots : Nat} {h h' : Heap} {pc pc' : Nat} {Ls Ls' : Array Slot} {rest : List Value} {a0 : Array Value}
theorem Rn.iconst {i : Int} {v : Int32} (hd : decode bytes pc = .ok (.iconst i, 1)) (hv : Int32.ofInt i = v) (hp : pc + 1 = pc') (k : Rn w Z EL own nm bytes ml ret R hS ws Q os cells slots h pc' Ls (.int v :: rest)) : Rn w Z EL own nm bytes ml ret R hS ws Q os cells slots h pc Ls rest :=
  k.pure fun p l e s m args below meth c T locs hx hby X hZ hown eT t r => by subst hp; exact XS.iconst X.here hx rfl (hb hby hd) (hv ▸ r)
theorem Rn.bipush {i : Int} {v : Int32} (hd : decode bytes pc = .ok (.bipush i, 2)) (hv : (Int8.ofInt i).toInt32 = v) (hp : pc + 2 = pc') (k : Rn w Z EL own nm bytes ml ret R hS ws Q os cells slots h pc' Ls (.int v :: rest)) : Rn w Z EL own nm bytes ml ret R hS ws Q os cells slots h pc Ls rest :=
  k.pure fun p l e s m args below meth c T locs hx hby X hZ hown eT t r => by subst hp; exact XS.bipush X.here hx rfl (hb hby hd) (hv ▸ r)
theorem Rn.sipush {i : Int} {v : Int32} (hd : decode bytes pc = .ok (.sipush i, 3)) (hv : (Int16.ofInt i).toInt32 = v) (hp : pc + 3 = pc') (k : Rn w Z EL own nm bytes ml ret R hS ws Q os cells slots h pc' Ls (.int v :: rest)) : Rn w Z EL own nm bytes ml ret R hS ws Q os cells slots h pc Ls rest :=
  k.pure fun p l e s m args below meth c T locs hx hby X hZ hown eT t r => by subst hp; exact XS.sipush X.here hx rfl (hb hby hd) (hv ▸ r)
theorem Rn.lconst {i : Fin 2} {v : Int64} (hd : decode bytes pc = .ok (.lconst i, 1)) (hv : Int64.ofNat i = v) (hp : pc + 1 = pc') (k : Rn w Z EL own nm bytes ml ret R hS ws Q os cells slots h pc' Ls (.long v :: rest)) : Rn w Z EL own nm bytes ml ret R hS ws Q os cells slots h pc Ls rest :=
  k.pure fun p l e s m args below meth c T locs hx hby X hZ hown eT t r => by subst hp; exact XT.lconst X.here hx rfl (hb hby hd) (hv ▸ r)
theorem Rn.dconst0 {v : UInt64} (hd : decode bytes pc = .ok (.dconst 0, 1)) (hv : FP.dconst0 = v) (hp : pc + 1 = pc') (k : Rn w Z EL own nm bytes ml ret R hS ws Q os cells slots h pc' Ls (.double v :: rest)) : Rn w Z EL own nm bytes ml ret R hS ws Q os cells slots h pc Ls rest :=
  k.pure fun p l e s m args below meth c T locs hx hby X hZ hown eT t r => by subst hp; exact XS.dconst0 X.here hx rfl (hb hby hd) hv r
theorem Rn.dconst1 {v : UInt64} (hd : decode bytes pc = .ok (.dconst 1, 1)) (hv : FP.dconst1 = v) (hp : pc + 1 = pc') (k : Rn w Z EL own nm bytes ml ret R hS ws Q os cells slots h pc' Ls (.double v :: rest)) : Rn w Z EL own nm bytes ml ret R hS ws Q os cells slots h pc Ls rest :=
  k.pure fun p l e s m args below meth c T locs hx hby X hZ hown eT t r => by subst hp; exact XS.dconst1 X.here hx rfl (hb hby hd) hv r
theorem Rn.aconst_null  (hd : decode bytes pc = .ok (.aconst_null, 1)) (hp : pc + 1 = pc') (k : Rn w Z EL own nm bytes ml ret R hS ws Q os cells slots h pc' Ls (.null :: rest)) : Rn w Z EL own nm bytes ml ret R hS ws Q os cells slots h pc Ls rest :=
  k.pure fun p l e s m args below meth c T locs hx hby X hZ hown eT t r => by subst hp; exact XS.aconstNull X.here hx rfl (hb hby hd) r
theorem Rn.iload {n : Nat} {v : Int32} (hd : decode bytes pc = .ok (.iload n, 2)) (hl : Ls[n]? = some (.val (.int v))) (hp : pc + 2 = pc') (k : Rn w Z EL own nm bytes ml ret R hS ws Q os cells slots h pc' Ls (.int v :: rest)) : Rn w Z EL own nm bytes ml ret R hS ws Q os cells slots h pc Ls rest :=
  k.pure fun p l e s m args below meth c T locs hx hby X hZ hown eT t r => by subst hp; exact XS.iload X.here hx rfl (hb hby hd) hl r
theorem Rn.iloadN {n : Fin 4} {v : Int32} (hd : decode bytes pc = .ok (.iload_n n, 1)) (hl : Ls[n.val]? = some (.val (.int v))) (hp : pc + 1 = pc') (k : Rn w Z EL own nm bytes ml ret R hS ws Q os cells slots h pc' Ls (.int v :: rest)) : Rn w Z EL own nm bytes ml ret R hS ws Q os cells slots h pc Ls rest :=
  k.pure fun p l e s m args below meth c T locs hx hby X hZ hown eT t r => by subst hp; exact XS.iloadN X.here hx rfl (hb hby hd) hl r
theorem Rn.istore {n : Nat} {v : Int32} (hd : decode bytes pc = .ok (.istore n, 2)) (hl : storeLocals Ls n (.int v) = some Ls') (hp : pc + 2 = pc') (k : Rn w Z EL own nm bytes ml ret R hS ws Q os cells slots h pc' Ls' rest) : Rn w Z EL own nm bytes ml ret R hS ws Q os cells slots h pc Ls (.int v :: rest) :=
  k.pure fun p l e s m args below meth c T locs hx hby X hZ hown eT t r => by subst hp; exact XS.istore X.here hx rfl (hb hby hd) rfl hl r
theorem Rn.istoreN {n : Fin 4} {v : Int32} (hd : decode bytes pc = .ok (.istore_n n, 1)) (hl : storeLocals Ls n.val (.int v) = some Ls') (hp : pc + 1 = pc') (k : Rn w Z EL own nm bytes ml ret R hS ws Q os cells slots h pc' Ls' rest) : Rn w Z EL own nm bytes ml ret R hS ws Q os cells slots h pc Ls (.int v :: rest) :=
  k.pure fun p l e s m args below meth c T locs hx hby X hZ hown eT t r => by subst hp; exact XS.istoreN X.here hx rfl (hb hby hd) rfl hl r
theorem Rn.lload {n : Nat} {v : Int64} (hd : decode bytes pc = .ok (.lload n, 2)) (hl : Ls[n]? = some (.val (.long v))) (hp : pc + 2 = pc') (k : Rn w Z EL own nm bytes ml ret R hS ws Q os cells slots h pc' Ls (.long v :: rest)) : Rn w Z EL own nm bytes ml ret R hS ws Q os cells slots h pc Ls rest :=
  k.pure fun p l e s m args below meth c T locs hx hby X hZ hown eT t r => by subst hp; exact XT.lload X.here hx rfl (hb hby hd) hl r
theorem Rn.lloadN {n : Fin 4} {v : Int64} (hd : decode bytes pc = .ok (.lload_n n, 1)) (hl : Ls[n.val]? = some (.val (.long v))) (hp : pc + 1 = pc') (k : Rn w Z EL own nm bytes ml ret R hS ws Q os cells slots h pc' Ls (.long v :: rest)) : Rn w Z EL own nm bytes ml ret R hS ws Q os cells slots h pc Ls rest :=
  k.pure fun p l e s m args below meth c T locs hx hby X hZ hown eT t r => by subst hp; exact XT.lloadN X.here hx rfl (hb hby hd) hl r
theorem Rn.lstore {n : Nat} {v : Int64} (hd : decode bytes pc = .ok (.lstore n, 2)) (hl : storeLocals Ls n (.long v) = some Ls') (hp : pc + 2 = pc') (k : Rn w Z EL own nm bytes ml ret R hS ws Q os cells slots h pc' Ls' rest) : Rn w Z EL own nm bytes ml ret R hS ws Q os cells slots h pc Ls (.long v :: rest) :=
  k.pure fun p l e s m args below meth c T locs hx hby X hZ hown eT t r => by subst hp; exact XT.lstore X.here hx rfl (hb hby hd) rfl hl r
theorem Rn.lstoreN {n : Fin 4} {v : Int64} (hd : decode bytes pc = .ok (.lstore_n n, 1)) (hl : storeLocals Ls n.val (.long v) = some Ls') (hp : pc + 1 = pc') (k : Rn w Z EL own nm bytes ml ret R hS ws Q os cells slots h pc' Ls' rest) : Rn w Z EL own nm bytes ml ret R hS ws Q os cells slots h pc Ls (.long v :: rest) :=
  k.pure fun p l e s m args below meth c T locs hx hby X hZ hown eT t r => by subst hp; exact XT.lstoreN X.here hx rfl (hb hby hd) rfl hl r
theorem Rn.dload {n : Nat} {v : UInt64} (hd : decode bytes pc = .ok (.dload n, 2)) (hl : Ls[n]? = some (.val (.double v))) (hp : pc + 2 = pc') (k : Rn w Z EL own nm bytes ml ret R hS ws Q os cells slots h pc' Ls (.double v :: rest)) : Rn w Z EL own nm bytes ml ret R hS ws Q os cells slots h pc Ls rest :=
  k.pure fun p l e s m args below meth c T locs hx hby X hZ hown eT t r => by subst hp; exact XS.dload X.here hx rfl (hb hby hd) hl r
theorem Rn.dloadN {n : Fin 4} {v : UInt64} (hd : decode bytes pc = .ok (.dload_n n, 1)) (hl : Ls[n.val]? = some (.val (.double v))) (hp : pc + 1 = pc') (k : Rn w Z EL own nm bytes ml ret R hS ws Q os cells slots h pc' Ls (.double v :: rest)) : Rn w Z EL own nm bytes ml ret R hS ws Q os cells slots h pc Ls rest :=
  k.pure fun p l e s m args below meth c T locs hx hby X hZ hown eT t r => by subst hp; exact XS.dloadN X.here hx rfl (hb hby hd) hl r
theorem Rn.dstore {n : Nat} {v : UInt64} (hd : decode bytes pc = .ok (.dstore n, 2)) (hl : storeLocals Ls n (.double v) = some Ls') (hp : pc + 2 = pc') (k : Rn w Z EL own nm bytes ml ret R hS ws Q os cells slots h pc' Ls' rest) : Rn w Z EL own nm bytes ml ret R hS ws Q os cells slots h pc Ls (.double v :: rest) :=
  k.pure fun p l e s m args below meth c T locs hx hby X hZ hown eT t r => by subst hp; exact XS.dstore X.here hx rfl (hb hby hd) rfl hl r
theorem Rn.dstoreN {n : Fin 4} {v : UInt64} (hd : decode bytes pc = .ok (.dstore_n n, 1)) (hl : storeLocals Ls n.val (.double v) = some Ls') (hp : pc + 1 = pc') (k : Rn w Z EL own nm bytes ml ret R hS ws Q os cells slots h pc' Ls' rest) : Rn w Z EL own nm bytes ml ret R hS ws Q os cells slots h pc Ls (.double v :: rest) :=
  k.pure fun p l e s m args below meth c T locs hx hby X hZ hown eT t r => by subst hp; exact XS.dstoreN X.here hx rfl (hb hby hd) rfl hl r
theorem Rn.aload {n : Nat} {v : Value} (hd : decode bytes pc = .ok (.aload n, 2)) (hl : Ls[n]? = some (.val v)) (hv : v.isRef = true) (hp : pc + 2 = pc') (k : Rn w Z EL own nm bytes ml ret R hS ws Q os cells slots h pc' Ls (v :: rest)) : Rn w Z EL own nm bytes ml ret R hS ws Q os cells slots h pc Ls rest :=
  k.pure fun p l e s m args below meth c T locs hx hby X hZ hown eT t r => by subst hp; exact XS.aload X.here hx rfl (hb hby hd) hl hv r
theorem Rn.aloadN {n : Fin 4} {v : Value} (hd : decode bytes pc = .ok (.aload_n n, 1)) (hl : Ls[n.val]? = some (.val v)) (hv : v.isRef = true) (hp : pc + 1 = pc') (k : Rn w Z EL own nm bytes ml ret R hS ws Q os cells slots h pc' Ls (v :: rest)) : Rn w Z EL own nm bytes ml ret R hS ws Q os cells slots h pc Ls rest :=
  k.pure fun p l e s m args below meth c T locs hx hby X hZ hown eT t r => by subst hp; exact XS.aloadN X.here hx rfl (hb hby hd) hl hv r
theorem Rn.astore {n : Nat} {v : Value} (hd : decode bytes pc = .ok (.astore n, 2)) (hv : v.isRef = true) (hl : storeLocals Ls n v = some Ls') (hp : pc + 2 = pc') (k : Rn w Z EL own nm bytes ml ret R hS ws Q os cells slots h pc' Ls' rest) : Rn w Z EL own nm bytes ml ret R hS ws Q os cells slots h pc Ls (v :: rest) :=
  k.pure fun p l e s m args below meth c T locs hx hby X hZ hown eT t r => by subst hp; exact XS.astore X.here hx rfl (hb hby hd) rfl hv hl r
theorem Rn.astoreN {n : Fin 4} {v : Value} (hd : decode bytes pc = .ok (.astore_n n, 1)) (hv : v.isRef = true) (hl : storeLocals Ls n.val v = some Ls') (hp : pc + 1 = pc') (k : Rn w Z EL own nm bytes ml ret R hS ws Q os cells slots h pc' Ls' rest) : Rn w Z EL own nm bytes ml ret R hS ws Q os cells slots h pc Ls (v :: rest) :=
  k.pure fun p l e s m args below meth c T locs hx hby X hZ hown eT t r => by subst hp; exact XS.astoreN X.here hx rfl (hb hby hd) rfl hv hl r
theorem Rn.iinc {n : Nat} {ct : Int} {x v : Int32} (hd : decode bytes pc = .ok (.iinc n ct, 3)) (hl : Ls[n]? = some (.val (.int x))) (hv : x + Int32.ofInt ct = v) (hl' : storeLocals Ls n (.int v) = some Ls') (hp : pc + 3 = pc') (k : Rn w Z EL own nm bytes ml ret R hS ws Q os cells slots h pc' Ls' rest) : Rn w Z EL own nm bytes ml ret R hS ws Q os cells slots h pc Ls rest :=
  k.pure fun p l e s m args below meth c T locs hx hby X hZ hown eT t r => by subst hp; exact XS.iinc X.here hx rfl (hb hby hd) hl (hv ▸ hl') r
theorem Rn.iadd {x y v : Int32} (hd : decode bytes pc = .ok (.iadd, 1)) (hv : x + y = v) (hp : pc + 1 = pc') (k : Rn w Z EL own nm bytes ml ret R hS ws Q os cells slots h pc' Ls (.int v :: rest)) : Rn w Z EL own nm bytes ml ret R hS ws Q os cells slots h pc Ls (.int y :: .int x :: rest) :=
  k.pure fun p l e s m args below meth c T locs hx hby X hZ hown eT t r => by subst hp; exact XS.iadd X.here hx rfl (hb hby hd) rfl (hv ▸ r)
theorem Rn.isub {x y v : Int32} (hd : decode bytes pc = .ok (.isub, 1)) (hv : x - y = v) (hp : pc + 1 = pc') (k : Rn w Z EL own nm bytes ml ret R hS ws Q os cells slots h pc' Ls (.int v :: rest)) : Rn w Z EL own nm bytes ml ret R hS ws Q os cells slots h pc Ls (.int y :: .int x :: rest) :=
  k.pure fun p l e s m args below meth c T locs hx hby X hZ hown eT t r => by subst hp; exact XS.isub X.here hx rfl (hb hby hd) rfl (hv ▸ r)
theorem Rn.imul {x y v : Int32} (hd : decode bytes pc = .ok (.imul, 1)) (hv : x * y = v) (hp : pc + 1 = pc') (k : Rn w Z EL own nm bytes ml ret R hS ws Q os cells slots h pc' Ls (.int v :: rest)) : Rn w Z EL own nm bytes ml ret R hS ws Q os cells slots h pc Ls (.int y :: .int x :: rest) :=
  k.pure fun p l e s m args below meth c T locs hx hby X hZ hown eT t r => by subst hp; exact XS.imul X.here hx rfl (hb hby hd) rfl (hv ▸ r)
theorem Rn.iand {x y v : Int32} (hd : decode bytes pc = .ok (.iand, 1)) (hv : x &&& y = v) (hp : pc + 1 = pc') (k : Rn w Z EL own nm bytes ml ret R hS ws Q os cells slots h pc' Ls (.int v :: rest)) : Rn w Z EL own nm bytes ml ret R hS ws Q os cells slots h pc Ls (.int y :: .int x :: rest) :=
  k.pure fun p l e s m args below meth c T locs hx hby X hZ hown eT t r => by subst hp; exact XS.iand X.here hx rfl (hb hby hd) rfl (hv ▸ r)
theorem Rn.ior {x y v : Int32} (hd : decode bytes pc = .ok (.ior, 1)) (hv : x ||| y = v) (hp : pc + 1 = pc') (k : Rn w Z EL own nm bytes ml ret R hS ws Q os cells slots h pc' Ls (.int v :: rest)) : Rn w Z EL own nm bytes ml ret R hS ws Q os cells slots h pc Ls (.int y :: .int x :: rest) :=
  k.pure fun p l e s m args below meth c T locs hx hby X hZ hown eT t r => by subst hp; exact XT.ior X.here hx rfl (hb hby hd) rfl (hv ▸ r)
theorem Rn.ixor {x y v : Int32} (hd : decode bytes pc = .ok (.ixor, 1)) (hv : x ^^^ y = v) (hp : pc + 1 = pc') (k : Rn w Z EL own nm bytes ml ret R hS ws Q os cells slots h pc' Ls (.int v :: rest)) : Rn w Z EL own nm bytes ml ret R hS ws Q os cells slots h pc Ls (.int y :: .int x :: rest) :=
  k.pure fun p l e s m args below meth c T locs hx hby X hZ hown eT t r => by subst hp; exact XT.ixor X.here hx rfl (hb hby hd) rfl (hv ▸ r)
theorem Rn.ishl {x y v : Int32} (hd : decode bytes pc = .ok (.ishl, 1)) (hv : x <<< (y &&& 31) = v) (hp : pc + 1 = pc') (k : Rn w Z EL own nm bytes ml ret R hS ws Q os cells slots h pc' Ls (.int v :: rest)) : Rn w Z EL own nm bytes ml ret R hS ws Q os cells slots h pc Ls (.int y :: .int x :: rest) :=
  k.pure fun p l e s m args below meth c T locs hx hby X hZ hown eT t r => by subst hp; exact XT.ishl X.here hx rfl (hb hby hd) rfl (hv ▸ r)
theorem Rn.ishr {x y v : Int32} (hd : decode bytes pc = .ok (.ishr, 1)) (hv : x >>> (y &&& 31) = v) (hp : pc + 1 = pc') (k : Rn w Z EL own nm bytes ml ret R hS ws Q os cells slots h pc' Ls (.int v :: rest)) : Rn w Z EL own nm bytes ml ret R hS ws Q os cells slots h pc Ls (.int y :: .int x :: rest) :=
  k.pure fun p l e s m args below meth c T locs hx hby X hZ hown eT t r => by subst hp; exact XT.ishr X.here hx rfl (hb hby hd) rfl (hv ▸ r)
theorem Rn.iushr {x y v : Int32} (hd : decode bytes pc = .ok (.iushr, 1)) (hv : XT.ushr x y = v) (hp : pc + 1 = pc') (k : Rn w Z EL own nm bytes ml ret R hS ws Q os cells slots h pc' Ls (.int v :: rest)) : Rn w Z EL own nm bytes ml ret R hS ws Q os cells slots h pc Ls (.int y :: .int x :: rest) :=
  k.pure fun p l e s m args below meth c T locs hx hby X hZ hown eT t r => by subst hp; exact XT.iushr X.here hx rfl (hb hby hd) rfl (hv ▸ r)
theorem Rn.idiv {x y v : Int32} (hd : decode bytes pc = .ok (.idiv, 1)) (hy : y ≠ 0) (hv : x / y = v) (hp : pc + 1 = pc') (k : Rn w Z EL own nm bytes ml ret R hS ws Q os cells slots h pc' Ls (.int v :: rest)) : Rn w Z EL own nm bytes ml ret R hS ws Q os cells slots h pc Ls (.int y :: .int x :: rest) :=
  k.pure fun p l e s m args below meth c T locs hx hby X hZ hown eT t r => by subst hp; exact XS.idiv X.here hx rfl (hb hby hd) rfl hy (hv ▸ r)
theorem Rn.irem {x y v : Int32} (hd : decode bytes pc = .ok (.irem, 1)) (hy : y ≠ 0) (hv : x % y = v) (hp : pc + 1 = pc') (k : Rn w Z EL own nm bytes ml ret R hS ws Q os cells slots h pc' Ls (.int v :: rest)) : Rn w Z EL own nm bytes ml ret R hS ws Q os cells slots h pc Ls (.int y :: .int x :: rest) :=
  k.pure fun p l e s m args below meth c T locs hx hby X hZ hown eT t r => by subst hp; exact iremM X hx rfl (hb hby hd) rfl hy (hv ▸ r)
theorem Rn.ineg {x v : Int32} (hd : decode bytes pc = .ok (.ineg, 1)) (hv : -x = v) (hp : pc + 1 = pc') (k : Rn w Z EL own nm bytes ml ret R hS ws Q os cells slots h pc' Ls (.int v :: rest)) : Rn w Z EL own nm bytes ml ret R hS ws Q os cells slots h pc Ls (.int x :: rest) :=
  k.pure fun p l e s m args below meth c T locs hx hby X hZ hown eT t r => by subst hp; exact XS.ineg X.here hx rfl (hb hby hd) rfl (hv ▸ r)
theorem Rn.ladd {x y v : Int64} (hd : decode bytes pc = .ok (.ladd, 1)) (hv : x + y = v) (hp : pc + 1 = pc') (k : Rn w Z EL own nm bytes ml ret R hS ws Q os cells slots h pc' Ls (.long v :: rest)) : Rn w Z EL own nm bytes ml ret R hS ws Q os cells slots h pc Ls (.long y :: .long x :: rest) :=
  k.pure fun p l e s m args below meth c T locs hx hby X hZ hown eT t r => by subst hp; exact XT.ladd X.here hx rfl (hb hby hd) rfl (hv ▸ r)
theorem Rn.lsub {x y v : Int64} (hd : decode bytes pc = .ok (.lsub, 1)) (hv : x - y = v) (hp : pc + 1 = pc') (k : Rn w Z EL own nm bytes ml ret R hS ws Q os cells slots h pc' Ls (.long v :: rest)) : Rn w Z EL own nm bytes ml ret R hS ws Q os cells slots h pc Ls (.long y :: .long x :: rest) :=
  k.pure fun p l e s m args below meth c T locs hx hby X hZ hown eT t r => by subst hp; exact XT.lsub X.here hx rfl (hb hby hd) rfl (hv ▸ r)
theorem Rn.lmul {x y v : Int64} (hd : decode bytes pc = .ok (.lmul, 1)) (hv : x * y = v) (hp : pc + 1 = pc') (k : Rn w Z EL own nm bytes ml ret R hS ws Q os cells slots h pc' Ls (.long v :: rest)) : Rn w Z EL own nm bytes ml ret R hS ws Q os cells slots h pc Ls (.long y :: .long x :: rest) :=
  k.pure fun p l e s m args below meth c T locs hx hby X hZ hown eT t r => by subst hp; exact XT.lmul X.here hx rfl (hb hby hd) rfl (hv ▸ r)
theorem Rn.land {x y v : Int64} (hd : decode bytes pc = .ok (.land, 1)) (hv : x &&& y = v) (hp : pc + 1 = pc') (k : Rn w Z EL own nm bytes ml ret R hS ws Q os cells slots h pc' Ls (.long v :: rest)) : Rn w Z EL own nm bytes ml ret R hS ws Q os cells slots h pc Ls (.long y :: .long x :: rest) :=
  k.pure fun p l e s m args below meth c T locs hx hby X hZ hown eT t r => by subst hp; exact XT.land X.here hx rfl (hb hby hd) rfl (hv ▸ r)
theorem Rn.lor {x y v : Int64} (hd : decode bytes pc = .ok (.lor, 1)) (hv : x ||| y = v) (hp : pc + 1 = pc') (k : Rn w Z EL own nm bytes ml ret R hS ws Q os cells slots h pc' Ls (.long v :: rest)) : Rn w Z EL own nm bytes ml ret R hS ws Q os cells slots h pc Ls (.long y :: .long x :: rest) :=
  k.pure fun p l e s m args below meth c T locs hx hby X hZ hown eT t r => by subst hp; exact XT.lor X.here hx rfl (hb hby hd) rfl (hv ▸ r)
theorem Rn.lxor {x y v : Int64} (hd : decode bytes pc = .ok (.lxor, 1)) (hv : x ^^^ y = v) (hp : pc + 1 = pc') (k : Rn w Z EL own nm bytes ml ret R hS ws Q os cells slots h pc' Ls (.long v :: rest)) : Rn w Z EL own nm bytes ml ret R hS ws Q os cells slots h pc Ls (.long y :: .long x :: rest) :=
  k.pure fun p l e s m args below meth c T locs hx hby X hZ hown eT t r => by subst hp; exact XT.lxor X.here hx rfl (hb hby hd) rfl (hv ▸ r)
theorem Rn.lshl {x v : Int64} {y : Int32} (hd : decode bytes pc = .ok (.lshl, 1)) (hv : x <<< (y.toInt64 &&& 63) = v) (hp : pc + 1 = pc') (k : Rn w Z EL own nm bytes ml ret R hS ws Q os cells slots h pc' Ls (.long v :: rest)) : Rn w Z EL own nm bytes ml ret R hS ws Q os cells slots h pc Ls (.int y :: .long x :: rest) :=
  k.pure fun p l e s m args below meth c T locs hx hby X hZ hown eT t r => by subst hp; exact XT.lshl X.here hx rfl (hb hby hd) rfl (hv ▸ r)
theorem Rn.lshr {x v : Int64} {y : Int32} (hd : decode bytes pc = .ok (.lshr, 1)) (hv : x >>> (y.toInt64 &&& 63) = v) (hp : pc + 1 = pc') (k : Rn w Z EL own nm bytes ml ret R hS ws Q os cells slots h pc' Ls (.long v :: rest)) : Rn w Z EL own nm bytes ml ret R hS ws Q os cells slots h pc Ls (.int y :: .long x :: rest) :=
  k.pure fun p l e s m args below meth c T locs hx hby X hZ hown eT t r => by subst hp; exact XT.lshr X.here hx rfl (hb hby hd) rfl (hv ▸ r)
theorem Rn.lushr {x v : Int64} {y : Int32} (hd : decode bytes pc = .ok (.lushr, 1)) (hv : XT.ushrL x y = v) (hp : pc + 1 = pc') (k : Rn w Z EL own nm bytes ml ret R hS ws Q os cells slots h pc' Ls (.long v :: rest)) : Rn w Z EL own nm bytes ml ret R hS ws Q os cells slots h pc Ls (.int y :: .long x :: rest) :=
  k.pure fun p l e s m args below meth c T locs hx hby X hZ hown eT t r => by subst hp; exact XT.lushr X.here hx rfl (hb hby hd) rfl (hv ▸ r)
theorem Rn.lneg {x v : Int64} (hd : decode bytes pc = .ok (.lneg, 1)) (hv : -x = v) (hp : pc + 1 = pc') (k : Rn w Z EL own nm bytes ml ret R hS ws Q os cells slots h pc' Ls (.long v :: rest)) : Rn w Z EL own nm bytes ml ret R hS ws Q os cells slots h pc Ls (.long x :: rest) :=
  k.pure fun p l e s m args below meth c T locs hx hby X hZ hown eT t r => by subst hp; exact XT.lneg X.here hx rfl (hb hby hd) rfl (hv ▸ r)
theorem Rn.i2l {x : Int32} {v : Int64} (hd : decode bytes pc = .ok (.i2l, 1)) (hv : x.toInt64 = v) (hp : pc + 1 = pc') (k : Rn w Z EL own nm bytes ml ret R hS ws Q os cells slots h pc' Ls (.long v :: rest)) : Rn w Z EL own nm bytes ml ret R hS ws Q os cells slots h pc Ls (.int x :: rest) :=
  k.pure fun p l e s m args below meth c T locs hx hby X hZ hown eT t r => by subst hp; exact XT.i2l X.here hx rfl (hb hby hd) rfl (hv ▸ r)
theorem Rn.l2i {x : Int64} {v : Int32} (hd : decode bytes pc = .ok (.l2i, 1)) (hv : x.toInt32 = v) (hp : pc + 1 = pc') (k : Rn w Z EL own nm bytes ml ret R hS ws Q os cells slots h pc' Ls (.int v :: rest)) : Rn w Z EL own nm bytes ml ret R hS ws Q os cells slots h pc Ls (.long x :: rest) :=
  k.pure fun p l e s m args below meth c T locs hx hby X hZ hown eT t r => by subst hp; exact XT.l2i X.here hx rfl (hb hby hd) rfl (hv ▸ r)
theorem Rn.i2b {x : Int32} {v : Int32} (hd : decode bytes pc = .ok (.i2b, 1)) (hv : x.toInt8.toInt32 = v) (hp : pc + 1 = pc') (k : Rn w Z EL own nm bytes ml ret R hS ws Q os cells slots h pc' Ls (.int v :: rest)) : Rn w Z EL own nm bytes ml ret R hS ws Q os cells slots h pc Ls (.int x :: rest) :=
  k.pure fun p l e s m args below meth c T locs hx hby X hZ hown eT t r => by subst hp; exact XT.i2b X.here hx rfl (hb hby hd) rfl (hv ▸ r)
theorem Rn.i2c {x : Int32} {v : Int32} (hd : decode bytes pc = .ok (.i2c, 1)) (hv : x.toUInt32.toUInt16.toUInt32.toInt32 = v) (hp : pc + 1 = pc') (k : Rn w Z EL own nm bytes ml ret R hS ws Q os cells slots h pc' Ls (.int v :: rest)) : Rn w Z EL own nm bytes ml ret R hS ws Q os cells slots h pc Ls (.int x :: rest) :=
  k.pure fun p l e s m args below meth c T locs hx hby X hZ hown eT t r => by subst hp; exact XT.i2c X.here hx rfl (hb hby hd) rfl (hv ▸ r)
theorem Rn.i2s {x : Int32} {v : Int32} (hd : decode bytes pc = .ok (.i2s, 1)) (hv : x.toInt16.toInt32 = v) (hp : pc + 1 = pc') (k : Rn w Z EL own nm bytes ml ret R hS ws Q os cells slots h pc' Ls (.int v :: rest)) : Rn w Z EL own nm bytes ml ret R hS ws Q os cells slots h pc Ls (.int x :: rest) :=
  k.pure fun p l e s m args below meth c T locs hx hby X hZ hown eT t r => by subst hp; exact XT.i2s X.here hx rfl (hb hby hd) rfl (hv ▸ r)
theorem Rn.i2d {x : Int32} {v : UInt64} (hd : decode bytes pc = .ok (.i2d, 1)) (hv : FP.i2d x = v) (hp : pc + 1 = pc') (k : Rn w Z EL own nm bytes ml ret R hS ws Q os cells slots h pc' Ls (.double v :: rest)) : Rn w Z EL own nm bytes ml ret R hS ws Q os cells slots h pc Ls (.int x :: rest) :=
  k.pure fun p l e s m args below meth c T locs hx hby X hZ hown eT t r => by subst hp; exact XS.i2dS X.here hx rfl (hb hby hd) rfl hv r
theorem Rn.l2d {x : Int64} {v : UInt64} (hd : decode bytes pc = .ok (.l2d, 1)) (hv : FP.l2d x = v) (hp : pc + 1 = pc') (k : Rn w Z EL own nm bytes ml ret R hS ws Q os cells slots h pc' Ls (.double v :: rest)) : Rn w Z EL own nm bytes ml ret R hS ws Q os cells slots h pc Ls (.long x :: rest) :=
  k.pure fun p l e s m args below meth c T locs hx hby X hZ hown eT t r => by subst hp; exact XS.l2dS X.here hx rfl (hb hby hd) rfl hv r
theorem Rn.d2i {x : UInt64} {v : Int32} (hd : decode bytes pc = .ok (.d2i, 1)) (hv : FP.d2i x = v) (hp : pc + 1 = pc') (k : Rn w Z EL own nm bytes ml ret R hS ws Q os cells slots h pc' Ls (.int v :: rest)) : Rn w Z EL own nm bytes ml ret R hS ws Q os cells slots h pc Ls (.double x :: rest) :=
  k.pure fun p l e s m args below meth c T locs hx hby X hZ hown eT t r => by subst hp; exact XS.d2iS X.here hx rfl (hb hby hd) rfl hv r
theorem Rn.d2l {x : UInt64} {v : Int64} (hd : decode bytes pc = .ok (.d2l, 1)) (hv : FP.d2l x = v) (hp : pc + 1 = pc') (k : Rn w Z EL own nm bytes ml ret R hS ws Q os cells slots h pc' Ls (.long v :: rest)) : Rn w Z EL own nm bytes ml ret R hS ws Q os cells slots h pc Ls (.double x :: rest) :=
  k.pure fun p l e s m args below meth c T locs hx hby X hZ hown eT t r => by subst hp; exact XS.d2lS X.here hx rfl (hb hby hd) rfl hv r
theorem Rn.dneg {x : UInt64} {v : UInt64} (hd : decode bytes pc = .ok (.dneg, 1)) (hv : FP.dneg x = v) (hp : pc + 1 = pc') (k : Rn w Z EL own nm bytes ml ret R hS ws Q os cells slots h pc' Ls (.double v :: rest)) : Rn w Z EL own nm bytes ml ret R hS ws Q os cells slots h pc Ls (.double x :: rest) :=
  k.pure fun p l e s m args below meth c T locs hx hby X hZ hown eT t r => by subst hp; exact XS.dnegS X.here hx rfl (hb hby hd) rfl hv r
theorem Rn.dadd {x y v : UInt64} (hd : decode bytes pc = .ok (.dadd, 1)) (hn : Jvm.Free.Fl.NoNaN64 v) (hv : FP.dadd x y = v) (hp : pc + 1 = pc') (k : Rn w Z EL own nm bytes ml ret R hS ws Q os cells slots h pc' Ls (.double v :: rest)) : Rn w Z EL own nm bytes ml ret R hS ws Q os cells slots h pc Ls (.double y :: .double x :: rest) :=
  k.pure fun p l e s m args below meth c T locs hx hby X hZ hown eT t r => by subst hp; exact XS.daddS X.here hx rfl (hb hby hd) rfl (hv.symm ▸ hn) hv r
theorem Rn.dsub {x y v : UInt64} (hd : decode bytes pc = .ok (.dsub, 1)) (hn : Jvm.Free.Fl.NoNaN64 v) (hv : FP.dsub x y = v) (hp : pc + 1 = pc') (k : Rn w Z EL own nm bytes ml ret R hS ws Q os cells slots h pc' Ls (.double v :: rest)) : Rn w Z EL own nm bytes ml ret R hS ws Q os cells slots h pc Ls (.double y :: .double x :: rest) :=
  k.pure fun p l e s m args below meth c T locs hx hby X hZ hown eT t r => by subst hp; exact XS.dsubS X.here hx rfl (hb hby hd) rfl (hv.symm ▸ hn) hv r
theorem Rn.dmul {x y v : UInt64} (hd : decode bytes pc = .ok (.dmul, 1)) (hn : Jvm.Free.Fl.NoNaN64 v) (hv : FP.dmul x y = v) (hp : pc + 1 = pc') (k : Rn w Z EL own nm bytes ml ret R hS ws Q os cells slots h pc' Ls (.double v :: rest)) : Rn w Z EL own nm bytes ml ret R hS ws Q os cells slots h pc Ls (.double y :: .double x :: rest) :=
  k.pure fun p l e s m args below meth c T locs hx hby X hZ hown eT t r => by subst hp; exact XS.dmulS X.here hx rfl (hb hby hd) rfl (hv.symm ▸ hn) hv r
theorem Rn.ddiv {x y v : UInt64} (hd : decode bytes pc = .ok (.ddiv, 1)) (hn : Jvm.Free.Fl.NoNaN64 v) (hv : FP.ddiv x y = v) (hp : pc + 1 = pc') (k : Rn w Z EL own nm bytes ml ret R hS ws Q os cells slots h pc' Ls (.double v :: rest)) : Rn w Z EL own nm bytes ml ret R hS ws Q os cells slots h pc Ls (.double y :: .double x :: rest) :=
  k.pure fun p l e s m args below meth c T locs hx hby X hZ hown eT t r => by subst hp; exact XS.ddivS X.here hx rfl (hb hby hd) rfl (hv.symm ▸ hn) hv r
theorem Rn.dcmp {o : CmpOp} {x y : UInt64} {v : Int32} (hd : decode bytes pc = .ok (.dcmp o, 1)) (hv : cmpValue (FP.dcmp x y) o = v) (hp : pc + 1 = pc') (k : Rn w Z EL own nm bytes ml ret R hS ws Q os cells slots h pc' Ls (.int v :: rest)) : Rn w Z EL own nm bytes ml ret R hS ws Q os cells slots h pc Ls (.double y :: .double x :: rest) :=
  k.pure fun p l e s m args below meth c T locs hx hby X hZ hown eT t r => by subst hp; exact XS.dcmpS X.here hx rfl (hb hby hd) rfl hv r
theorem Rn.lcmp {x y : Int64} {v : Int32} (hd : decode bytes pc = .ok (.lcmp, 1)) (hv : XT.cmpL x y = v) (hp : pc + 1 = pc') (k : Rn w Z EL own nm bytes ml ret R hS ws Q os cells slots h pc' Ls (.int v :: rest)) : Rn w Z EL own nm bytes ml ret R hS ws Q os cells slots h pc Ls (.long y :: .long x :: rest) :=
  k.pure fun p l e s m args below meth c T locs hx hby X hZ hown eT t r => by subst hp; exact XT.lcmp X.here hx rfl (hb hby hd) rfl (hv ▸ r)
theorem Rn.pop {x : Value} (hd : decode bytes pc = .ok (.pop, 1)) (hc : x.category = 1) (hp : pc + 1 = pc') (k : Rn w Z EL own nm bytes ml ret R hS ws Q os cells slots h pc' Ls rest) : Rn w Z EL own nm bytes ml ret R hS ws Q os cells slots h pc Ls (x :: rest) :=
  k.pure fun p l e s m args below meth c T locs hx hby X hZ hown eT t r => by subst hp; exact XT.pop X.here hx rfl (hb hby hd) rfl hc r
theorem Rn.dup {x : Value} (hd : decode bytes pc = .ok (.dup, 1)) (hc : x.category = 1) (hp : pc + 1 = pc') (k : Rn w Z EL own nm bytes ml ret R hS ws Q os cells slots h pc' Ls (x :: x :: rest)) : Rn w Z EL own nm bytes ml ret R hS ws Q os cells slots h pc Ls (x :: rest) :=
  k.pure fun p l e s m args below meth c T locs hx hby X hZ hown eT t r => by subst hp; exact XS.dup X.here hx rfl (hb hby hd) rfl hc r
theorem Rn.dup_x1 {x y : Value} (hd : decode bytes pc = .ok (.dup_x1, 1)) (hc : x.category = 1) (hc' : y.category = 1) (hp : pc + 1 = pc') (k : Rn w Z EL own nm bytes ml ret R hS ws Q os cells slots h pc' Ls (x :: y :: x :: rest)) : Rn w Z EL own nm bytes ml ret R hS ws Q os cells slots h pc Ls (x :: y :: rest) :=
  k.pure fun p l e s m args below meth c T locs hx hby X hZ hown eT t r => by subst hp; exact XT.dupX1 X.here hx rfl (hb hby hd) rfl hc hc' r
theorem Rn.dup2 {x y : Value} (hd : decode bytes pc = .ok (.dup2, 1)) (hc : x.category = 1) (hc' : y.category = 1) (hp : pc + 1 = pc') (k : Rn w Z EL own nm bytes ml ret R hS ws Q os cells slots h pc' Ls (x :: y :: x :: y :: rest)) : Rn w Z EL own nm bytes ml ret R hS ws Q os cells slots h pc Ls (x :: y :: rest) :=
  k.pure fun p l e s m args below meth c T locs hx hby X hZ hown eT t r => by subst hp; exact XT.dup2 X.here hx rfl (hb hby hd) rfl hc hc' r
theorem Rn.goto {o : Int} (hd : decode bytes pc = .ok (.goto o, 3)) (ho : 0 ≤ (pc : Int) + o) (hp : ((pc : Int) + o).toNat = pc') (k : Rn w Z EL own nm bytes ml ret R hS ws Q os cells slots h pc' Ls rest) : Rn w Z EL own nm bytes ml ret R hS ws Q os cells slots h pc Ls rest :=
  k.pure fun p l e s m args below meth c T locs hx hby X hZ hown eT t r => XS.goto X.here hx rfl rfl (hb hby hd) ho hp r
theorem Rn.icmp_eq {x y : Int32} {o : Int} {pn : Nat} (hd : decode bytes pc = .ok (.if_icmp .eq o, 3)) (ho : 0 ≤ (pc : Int) + o) (hp : ((pc : Int) + o).toNat = pc') (hn : pc + 3 = pn) (ky : x = y → Rn w Z EL own nm bytes ml ret R hS ws Q os cells slots h pc' Ls rest) (kn : ¬ x = y → Rn w Z EL own nm bytes ml ret R hS ws Q os cells slots h pn Ls rest) : Rn w Z EL own nm bytes ml ret R hS ws Q os cells slots h pc Ls (.int y :: .int x :: rest) := by
  by_cases q : x = y
  · exact (ky q).pure fun p l e s m args below meth c T locs hx hby X hZ hown eT t r => XS.icmpYes X.here hx rfl rfl (hb hby hd) rfl (teq q).1 ho hp r
  · exact (kn q).pure fun p l e s m args below meth c T locs hx hby X hZ hown eT t r => by subst hn; exact XS.icmpNo X.here hx rfl (hb hby hd) rfl (feq q).1 r
theorem Rn.if_eq {x : Int32} {o : Int} {pn : Nat} (hd : decode bytes pc = .ok (.ifCond .eq o, 3)) (ho : 0 ≤ (pc : Int) + o) (hp : ((pc : Int) + o).toNat = pc') (hn : pc + 3 = pn) (ky : x = 0 → Rn w Z EL own nm bytes ml ret R hS ws Q os cells slots h pc' Ls rest) (kn : ¬ x = 0 → Rn w Z EL own nm bytes ml ret R hS ws Q os cells slots h pn Ls rest) : Rn w Z EL own nm bytes ml ret R hS ws Q os cells slots h pc Ls (.int x :: rest) := by
  by_cases q : x = 0
  · exact (ky q).pure fun p l e s m args below meth c T locs hx hby X hZ hown eT t r => XS.ifYes X.here hx rfl rfl (hb hby hd) rfl (by rw [if0]; exact (teq q).1) ho hp r
  · exact (kn q).pure fun p l e s m args below meth c T locs hx hby X hZ hown eT t r => by subst hn; exact XS.ifNo X.here hx rfl (hb hby hd) rfl (by rw [if0]; exact (feq q).1) r
theorem Rn.icmp_ne {x y : Int32} {o : Int} {pn : Nat} (hd : decode bytes pc = .ok (.if_icmp .ne o, 3)) (ho : 0 ≤ (pc : Int) + o) (hp : ((pc : Int) + o).toNat = pc') (hn : pc + 3 = pn) (ky : ¬ x = y → Rn w Z EL own nm bytes ml ret R hS ws Q os cells slots h pc' Ls rest) (kn : x = y → Rn w Z EL own nm bytes ml ret R hS ws Q os cells slots h pn Ls rest) : Rn w Z EL own nm bytes ml ret R hS ws Q os cells slots h pc Ls (.int y :: .int x :: rest) := by
  by_cases q : x = y
  · exact (kn q).pure fun p l e s m args below meth c T locs hx hby X hZ hown eT t r => by subst hn; exact XS.icmpNo X.here hx rfl (hb hby hd) rfl (teq q).2 r
  · exact (ky q).pure fun p l e s m args below meth c T locs hx hby X hZ hown eT t r => XS.icmpYes X.here hx rfl rfl (hb hby hd) rfl (feq q).2 ho hp r
theorem Rn.if_ne {x : Int32} {o : Int} {pn : Nat} (hd : decode bytes pc = .ok (.ifCond .ne o, 3)) (ho : 0 ≤ (pc : Int) + o) (hp : ((pc : Int) + o).toNat = pc') (hn : pc + 3 = pn) (ky : ¬ x = 0 → Rn w Z EL own nm bytes ml ret R hS ws Q os cells slots h pc' Ls rest) (kn : x = 0 → Rn w Z EL own nm bytes ml ret R hS ws Q os cells slots h pn Ls rest) : Rn w Z EL own nm bytes ml ret R hS ws Q os cells slots h pc Ls (.int x :: rest) := by
  by_cases q : x = 0
  · exact (kn q).pure fun p l e s m args below meth c T locs hx hby X hZ hown eT t r => by subst hn; exact XS.ifNo X.here hx rfl (hb hby hd) rfl (by rw [if0]; exact (teq q).2) r
  · exact (ky q).pure fun p l e s m args below meth c T locs hx hby X hZ hown eT t r => XS.ifYes X.here hx rfl rfl (hb hby hd) rfl (by rw [if0]; exact (feq q).2) ho hp r
theorem Rn.icmp_lt {x y : Int32} {o : Int} {pn : Nat} (hd : decode bytes pc = .ok (.if_icmp .lt o, 3)) (ho : 0 ≤ (pc : Int) + o) (hp : ((pc : Int) + o).toNat = pc') (hn : pc + 3 = pn) (ky : x < y → Rn w Z EL own nm bytes ml ret R hS ws Q os cells slots h pc' Ls rest) (kn : ¬ x < y → Rn w Z EL own nm bytes ml ret R hS ws Q os cells slots h pn Ls rest) : Rn w Z EL own nm bytes ml ret R hS ws Q os cells slots h pc Ls (.int y :: .int x :: rest) := by
  by_cases q : x < y
  · exact (ky q).pure fun p l e s m args below meth c T locs hx hby X hZ hown eT t r => XS.icmpYes X.here hx rfl rfl (hb hby hd) rfl (tlt q).1 ho hp r
  · exact (kn q).pure fun p l e s m args below meth c T locs hx hby X hZ hown eT t r => by subst hn; exact XS.icmpNo X.here hx rfl (hb hby hd) rfl (flt q).1 r
theorem Rn.if_lt {x : Int32} {o : Int} {pn : Nat} (hd : decode bytes pc = .ok (.ifCond .lt o, 3)) (ho : 0 ≤ (pc : Int) + o) (hp : ((pc : Int) + o).toNat = pc') (hn : pc + 3 = pn) (ky : x < 0 → Rn w Z EL own nm bytes ml ret R hS ws Q os cells slots h pc' Ls rest) (kn : ¬ x < 0 → Rn w Z EL own nm bytes ml ret R hS ws Q os cells slots h pn Ls rest) : Rn w Z EL own nm bytes ml ret R hS ws Q os cells slots h pc Ls (.int x :: rest) := by
  by_cases q : x < 0
  · exact (ky q).pure fun p l e s m args below meth c T locs hx hby X hZ hown eT t r => XS.ifYes X.here hx rfl rfl (hb hby hd) rfl (by rw [if0]; exact (tlt q).1) ho hp r
  · exact (kn q).pure fun p l e s m args below meth c T locs hx hby X hZ hown eT t r => by subst hn; exact XS.ifNo X.here hx rfl (hb hby hd) rfl (by rw [if0]; exact (flt q).1) r
theorem Rn.icmp_ge {x y : Int32} {o : Int} {pn : Nat} (hd : decode bytes pc = .ok (.if_icmp .ge o, 3)) (ho : 0 ≤ (pc : Int) + o) (hp : ((pc : Int) + o).toNat = pc') (hn : pc + 3 = pn) (ky : ¬ x < y → Rn w Z EL own nm bytes ml ret R hS ws Q os cells slots h pc' Ls rest) (kn : x < y → Rn w Z EL own nm bytes ml ret R hS ws Q os cells slots h pn Ls rest) : Rn w Z EL own nm bytes ml ret R hS ws Q os cells slots h pc Ls (.int y :: .int x :: rest) := by
  by_cases q : x < y
  · exact (kn q).pure fun p l e s m args below meth c T locs hx hby X hZ hown eT t r => by subst hn; exact XS.icmpNo X.here hx rfl (hb hby hd) rfl (tlt q).2.1 r
  · exact (ky q).pure fun p l e s m args below meth c T locs hx hby X hZ hown eT t r => XS.icmpYes X.here hx rfl rfl (hb hby hd) rfl (flt q).2.1 ho hp r
theorem Rn.if_ge {x : Int32} {o : Int} {pn : Nat} (hd : decode bytes pc = .ok (.ifCond .ge o, 3)) (ho : 0 ≤ (pc : Int) + o) (hp : ((pc : Int) + o).toNat = pc') (hn : pc + 3 = pn) (ky : ¬ x < 0 → Rn w Z EL own nm bytes ml ret R hS ws Q os cells slots h pc' Ls rest) (kn : x < 0 → Rn w Z EL own nm bytes ml ret R hS ws Q os cells slots h pn Ls rest) : Rn w Z EL own nm bytes ml ret R hS ws Q os cells slots h pc Ls (.int x :: rest) := by
  by_cases q : x < 0
  · exact (kn q).pure fun p l e s m args below meth c T locs hx hby X hZ hown eT t r => by subst hn; exact XS.ifNo X.here hx rfl (hb hby hd) rfl (by rw [if0]; exact (tlt q).2.1) r
  · exact (ky q).pure fun p l e s m args below meth c T locs hx hby X hZ hown eT t r => XS.ifYes X.here hx rfl rfl (hb hby hd) rfl (by rw [if0]; exact (flt q).2.1) ho hp r
theorem Rn.icmp_gt {x y : Int32} {o : Int} {pn : Nat} (hd : decode bytes pc = .ok (.if_icmp .gt o, 3)) (ho : 0 ≤ (pc : Int) + o) (hp : ((pc : Int) + o).toNat = pc') (hn : pc + 3 = pn) (ky : y < x → Rn w Z EL own nm bytes ml ret R hS ws Q os cells slots h pc' Ls rest) (kn : ¬ y < x → Rn w Z EL own nm bytes ml ret R hS ws Q os cells slots h pn Ls rest) : Rn w Z EL own nm bytes ml ret R hS ws Q os cells slots h pc Ls (.int y :: .int x :: rest) := by
  by_cases q : y < x
  · exact (ky q).pure fun p l e s m args below meth c T locs hx hby X hZ hown eT t r => XS.icmpYes X.here hx rfl rfl (hb hby hd) rfl (tlt q).2.2.1 ho hp r
  · exact (kn q).pure fun p l e s m args below meth c T locs hx hby X hZ hown eT t r => by subst hn; exact XS.icmpNo X.here hx rfl (hb hby hd) rfl (flt q).2.2.1 r
theorem Rn.if_gt {x : Int32} {o : Int} {pn : Nat} (hd : decode bytes pc = .ok (.ifCond .gt o, 3)) (ho : 0 ≤ (pc : Int) + o) (hp : ((pc : Int) + o).toNat = pc') (hn : pc + 3 = pn) (ky : 0 < x → Rn w Z EL own nm bytes ml ret R hS ws Q os cells slots h pc' Ls rest) (kn : ¬ 0 < x → Rn w Z EL own nm bytes ml ret R hS ws Q os cells slots h pn Ls rest) : Rn w Z EL own nm bytes ml ret R hS ws Q os cells slots h pc Ls (.int x :: rest) := by
  by_cases q : 0 < x
  · exact (ky q).pure fun p l e s m args below meth c T locs hx hby X hZ hown eT t r => XS.ifYes X.here hx rfl rfl (hb hby hd) rfl (by rw [if0]; exact (tlt q).2.2.1) ho hp r
  · exact (kn q).pure fun p l e s m args below meth c T locs hx hby X hZ hown eT t r => by subst hn; exact XS.ifNo X.here hx rfl (hb hby hd) rfl (by rw [if0]; exact (flt q).2.2.1) r
theorem Rn.icmp_le {x y : Int32} {o : Int} {pn : Nat} (hd : decode bytes pc = .ok (.if_icmp .le o, 3)) (ho : 0 ≤ (pc : Int) + o) (hp : ((pc : Int) + o).toNat = pc') (hn : pc + 3 = pn) (ky : ¬ y < x → Rn w Z EL own nm bytes ml ret R hS ws Q os cells slots h pc' Ls rest) (kn : y < x → Rn w Z EL own nm bytes ml ret R hS ws Q os cells slots h pn Ls rest) : Rn w Z EL own nm bytes ml ret R hS ws Q os cells slots h pc Ls (.int y :: .int x :: rest) := by
  by_cases q : y < x
  · exact (kn q).pure fun p l e s m args below meth c T locs hx hby X hZ hown eT t r => by subst hn; exact XS.icmpNo X.here hx rfl (hb hby hd) rfl (tlt q).2.2.2 r
  · exact (ky q).pure fun p l e s m args below meth c T locs hx hby X hZ hown eT t r => XS.icmpYes X.here hx rfl rfl (hb hby hd) rfl (flt q).2.2.2 ho hp r
theorem Rn.if_le {x : Int32} {o : Int} {pn : Nat} (hd : decode bytes pc = .ok (.ifCond .le o, 3)) (ho : 0 ≤ (pc : Int) + o) (hp : ((pc : Int) + o).toNat = pc') (hn : pc + 3 = pn) (ky : ¬ 0 < x → Rn w Z EL own nm bytes ml ret R hS ws Q os cells slots h pc' Ls rest) (kn : 0 < x → Rn w Z EL own nm bytes ml ret R hS ws Q os cells slots h pn Ls rest) : Rn w Z EL own nm bytes ml ret R hS ws Q os cells slots h pc Ls (.int x :: rest) := by
  by_cases q : 0 < x
  · exact (kn q).pure fun p l e s m args below meth c T locs hx hby X hZ hown eT t r => by subst hn; exact XS.ifNo X.here hx rfl (hb hby hd) rfl (by rw [if0]; exact (tlt q).2.2.2) r
  · exact (ky q).pure fun p l e s m args below meth c T locs hx hby X hZ hown eT t r => XS.ifYes X.here hx rfl rfl (hb hby hd) rfl (by rw [if0]; exact (flt q).2.2.2) ho hp r
theorem Rn.ifnull_y {o : Int} (hd : decode bytes pc = .ok (.ifnull o, 3)) (ho : 0 ≤ (pc : Int) + o) (hp : ((pc : Int) + o).toNat = pc') (k : Rn w Z EL own nm bytes ml ret R hS ws Q os cells slots h pc' Ls rest) : Rn w Z EL own nm bytes ml ret R hS ws Q os cells slots h pc Ls (.null :: rest) :=
  k.pure fun p l e s m args below meth c T locs hx hby X hZ hown eT t r => XS.ifnullYes X.here hx rfl rfl (hb hby hd) rfl ho hp r
theorem Rn.ifnull_n {o : Int} {a : Addr} (hd : decode bytes pc = .ok (.ifnull o, 3)) (hn : pc + 3 = pc') (k : Rn w Z EL own nm bytes ml ret R hS ws Q os cells slots h pc' Ls rest) : Rn w Z EL own nm bytes ml ret R hS ws Q os cells slots h pc Ls (.ref a :: rest) :=
  k.pure fun p l e s m args below meth c T locs hx hby X hZ hown eT t r => by subst hn; exact XS.ifnullNo X.here hx rfl (hb hby hd) rfl r
theorem Rn.ifnonnull_y {o : Int} {a : Addr} (hd : decode bytes pc = .ok (.ifnonnull o, 3)) (ho : 0 ≤ (pc : Int) + o) (hp : ((pc : Int) + o).toNat = pc') (k : Rn w Z EL own nm bytes ml ret R hS ws Q os cells slots h pc' Ls rest) : Rn w Z EL own nm bytes ml ret R hS ws Q os cells slots h pc Ls (.ref a :: rest) :=
  k.pure fun p l e s m args below meth c T locs hx hby X hZ hown eT t r => XT.ifnonnullYes X.here hx rfl rfl (hb hby hd) rfl ho hp r
theorem Rn.ifnonnull_n {o : Int} (hd : decode bytes pc = .ok (.ifnonnull o, 3)) (hn : pc + 3 = pc') (k : Rn w Z EL own nm bytes ml ret R hS ws Q os cells slots h pc' Ls rest) : Rn w Z EL own nm bytes ml ret R hS ws Q os cells slots h pc Ls (.null :: rest) :=
  k.pure fun p l e s m args below meth c T locs hx hby X hZ hown eT t r => by subst hn; exact XT.ifnonnullNo X.here hx rfl (hb hby hd) rfl r
theorem Rn.acmp_eq {x y : Value} {o : Int} {pn : Nat} (h1 : x.isRef = true) (h2 : y.isRef = true) (hd : decode bytes pc = .ok (.if_acmp .eq o, 3)) (ho : 0 ≤ (pc : Int) + o) (hp : ((pc : Int) + o).toNat = pc') (hn : pc + 3 = pn) (ky : x = y → Rn w Z EL own nm bytes ml ret R hS ws Q os cells slots h pc' Ls rest) (kn : ¬ x = y → Rn w Z EL own nm bytes ml ret R hS ws Q os cells slots h pn Ls rest) : Rn w Z EL own nm bytes ml ret R hS ws Q os cells slots h pc Ls (y :: x :: rest) := by
  by_cases q : x = y
  · exact (ky q).pure fun p l e s m args below meth c T locs hx hby X hZ hown eT t r => by exact acmp X hx rfl h1 h2 (same := true) rfl (hb hby hd) rfl (by simp [q]) ho (by simp [acV, hp]) r
  · exact (kn q).pure fun p l e s m args below meth c T locs hx hby X hZ hown eT t r => by exact acmp X hx rfl h1 h2 (same := false) rfl (hb hby hd) rfl (by simp [q]) ho (by simp [acV, hn]) r
theorem Rn.acmp_ne {x y : Value} {o : Int} {pn : Nat} (h1 : x.isRef = true) (h2 : y.isRef = true) (hd : decode bytes pc = .ok (.if_acmp .ne o, 3)) (ho : 0 ≤ (pc : Int) + o) (hp : ((pc : Int) + o).toNat = pc') (hn : pc + 3 = pn) (ky : ¬ x = y → Rn w Z EL own nm bytes ml ret R hS ws Q os cells slots h pc' Ls rest) (kn : x = y → Rn w Z EL own nm bytes ml ret R hS ws Q os cells slots h pn Ls rest) : Rn w Z EL own nm bytes ml ret R hS ws Q os cells slots h pc Ls (y :: x :: rest) := by
  by_cases q : x = y
  · exact (kn q).pure fun p l e s m args below meth c T locs hx hby X hZ hown eT t r => by exact acmp X hx rfl h1 h2 (same := true) rfl (hb hby hd) rfl (by simp [q]) ho (by simp [acV, hn]) r
  · exact (ky q).pure fun p l e s m args below meth c T locs hx hby X hZ hown eT t r => by exact acmp X hx rfl h1 h2 (same := false) rfl (hb hby hd) rfl (by simp [q]) ho (by simp [acV, hp]) r
theorem Rn.tsw {dflt low high : Int} {offs : Array Int} {len : Nat} {o : Int} {i : Int32} (hd : decode bytes pc = .ok (.tableswitch dflt low high offs, len)) (hin : ¬ (i.toInt < low ∨ i.toInt > high)) (hoff : offs[(i.toInt - low).toNat]? = some o) (ho : 0 ≤ (pc : Int) + o) (hp : ((pc : Int) + o).toNat = pc') (k : Rn w Z EL own nm bytes ml ret R hS ws Q os cells slots h pc' Ls rest) : Rn w Z EL own nm bytes ml ret R hS ws Q os cells slots h pc Ls (.int i :: rest) :=
  k.pure fun p l e s m args below meth c T locs hx hby X hZ hown eT t r => XS.tswIn X.here hx rfl rfl (hb hby hd) rfl hin hoff ho hp r
theorem Rn.tswD {dflt low high : Int} {offs : Array Int} {len : Nat} {i : Int32} (hd : decode bytes pc = .ok (.tableswitch dflt low high offs, len)) (hout : i.toInt < low ∨ i.toInt > high) (ho : 0 ≤ (pc : Int) + dflt) (hp : ((pc : Int) + dflt).toNat = pc') (k : Rn w Z EL own nm bytes ml ret R hS ws Q os cells slots h pc' Ls rest) : Rn w Z EL own nm bytes ml ret R hS ws Q os cells slots h pc Ls (.int i :: rest) :=
  k.pure fun p l e s m args below meth c T locs hx hby X hZ hown eT t r => XS.tswOut X.here hx rfl rfl (hb hby hd) rfl hout ho hp r
theorem Rn.ldcI {ix : Nat} {v : Int32} (wd : (Jvm.Cond.constant own ix v).before a0 Z = true) (hd : decode bytes pc = .ok (.ldc ix, 2)) (hp : pc + 2 = pc') (k : Rn w Z EL own nm bytes ml ret R hS ws Q os cells slots h pc' Ls (.int v :: rest)) : Rn w Z EL own nm bytes ml ret R hS ws Q os cells slots h pc Ls rest :=
  k.pure fun p l e s m args below meth c T locs hx hby X hZ hown eT t r => by subst hp; exact X.ldcInt hx hown (mvT hZ wd) (g := mkF m pc Ls rest) rfl (hb hby hd) t r
theorem Rn.ldcJ {ix : Nat} {v : Int64} (wd : (Jvm.Cond.constantLong own ix v).before a0 Z = true) (hd : decode bytes pc = .ok (.ldc2_w ix, 3)) (hp : pc + 3 = pc') (k : Rn w Z EL own nm bytes ml ret R hS ws Q os cells slots h pc' Ls (.long v :: rest)) : Rn w Z EL own nm bytes ml ret R hS ws Q os cells slots h pc Ls rest :=
  k.pure fun p l e s m args below meth c T locs hx hby X hZ hown eT t r => by subst hp; exact X.ldc2Long hx hown (mvT hZ wd) (g := mkF m pc Ls rest) rfl (hb hby hd) t r
theorem Rn.ldcD {ix : Nat} {v : UInt64} (wd : (Jvm.Cond.constantDouble own ix v).before a0 Z = true) (hd : decode bytes pc = .ok (.ldc2_w ix, 3)) (hp : pc + 3 = pc') (k : Rn w Z EL own nm bytes ml ret R hS ws Q os cells slots h pc' Ls (.double v :: rest)) : Rn w Z EL own nm bytes ml ret R hS ws Q os cells slots h pc Ls rest :=
  k.pure fun p l e s m args below meth c T locs hx hby X hZ hown eT t r => by subst hp; exact X.ldc2DoubleC hx hown (mvT hZ wd) (g := mkF m pc Ls rest) rfl (hb hby hd) t r
/-- an array and all that it holds -/
def Ax (Z : State) (h : Heap) (a : Addr) (ty : FieldType) (vs : List Value) : Prop := ∃ c : Cell, Arr Z h a c ty ∧ c.slots = vs.toArray ∧ vs.length < 2 ^ 31
section AxFacts
variable {a b : Addr} {ty : FieldType} {vs : List Value} {sl : Nat} {v : Value}
theorem Ax.lt (F : Ax Z h a ty vs) : a < h.size := by obtain ⟨c, A, -⟩ := F; exact A.lt
theorem Ax.ext (F : Ax Z h a ty vs) (E : Ext h h') : Ax Z h' a ty vs := by obtain ⟨c, A, r⟩ := F; exact ⟨c, A.ext E, r⟩
theorem Ax.other (F : Ax Z h b ty vs) (W : Wr h h' a sl v) (q : b ≠ a) : Ax Z h' b ty vs := by obtain ⟨c, A, r⟩ := F; exact ⟨c, A.other W q, r⟩
theorem Ax.keep {ws : List Addr} (F : Ax Z h a ty vs) (K : Keep h h' ws) (q : a ∉ ws) : Ax Z h' a ty vs := by obtain ⟨c, A, r⟩ := F; exact ⟨c, ⟨K.2.1 a c A.1 q, A.2⟩, r⟩
theorem Ax.set (F : Ax Z h a ty vs) (W : Wr h h' a sl v) : Ax Z h' a ty (vs.set sl v) := by
  obtain ⟨c, A, r, q⟩ := F
  refine ⟨_, A.same W, ?_, by simpa using q⟩
  simp [Cell.setSlot, r]
theorem Ax.new {cA : ClassId} {n : Int32} (A : Arr Z h a (newA cA ty n) ty) (q : ¬ n < 0) : Ax Z h a ty (List.replicate n.toNatClampNeg (defaultValue ty)) := by
  refine ⟨_, A, ?_, by simpa using (back32 q).2⟩
  simp [newA]
theorem Ax.sf {w : Bool} {EL : List (String × Nat)} {os : List Addr} (F : Ax Z h a ty vs) (ht : ty ≠ .byte) : Sf w Z EL os h a := by obtain ⟨c, A, -⟩ := F; exact Sf.arr A ht
theorem Ax.arv {d : Value} (F : Ax Z h a ty vs) (hf : ∀ x ∈ vs, fits ty x = true) (n : Int32) (hn : n.toNatClampNeg = vs.length) (h0 : ¬ n < 0) : ∃ k, Arv Z h a k ty n vs d := by
  obtain ⟨c, A, r, q⟩ := F
  refine ⟨c.cls, c, A, rfl, by simp [r, hn], h0, fun k hk => ?_, fun i hi => ?_⟩
  · have : k < vs.length := by simpa [r] using hk
    simp [r, this]
  · have : i < vs.length := by simpa [r] using hi
    simp only [List.getD_eq_getElem?_getD, List.getElem?_eq_getElem this, Option.getD_some]
    exact hf _ (List.getElem_mem this)
theorem Ax.ofArv {k : ClassId} {n : Int32} {d : Value} (F : Arv Z h a k ty n vs d) (hl : vs.length = n.toNatClampNeg) : Ax Z h a ty vs := by
  obtain ⟨c, A, -, S, N, H, -⟩ := F
  refine ⟨c, A, ?_, by rw [hl]; exact (back32 N).2⟩
  apply Array.ext_getElem?
  intro i
  by_cases q : i < c.slots.size
  · have q2 : i < vs.length := by rw [hl, ← S]; exact q
    rw [H i q]; simp [q2]
  · have q2 : ¬ i < vs.length := by rw [hl, ← S]; exact q
    rw [Array.getElem?_eq_none (Nat.le_of_not_lt q)]; simp [Nat.le_of_not_lt q2]
theorem Ax.at {j : Int32} (c : Cell) (r : c.slots = vs.toArray) (h0 : ¬ j < 0) (hv : vs[j.toNatClampNeg]? = some v) : ¬ (j < 0 ∨ c.slots.size ≤ j.toNatClampNeg) ∧ c.slots[j.toNatClampNeg]? = some v := by
  have q := (List.getElem?_eq_some_iff.mp hv).1
  refine ⟨fun z => z.elim h0 fun z => ?_, by simpa [r] using hv⟩
  simp [r] at z; omega
end AxFacts
theorem Rn.iaload {a : Addr} {vs : List Value} {j : Int32} {v : Value} (A : Ax Z h a .int vs) (h0 : ¬ j < 0) (hv : vs[j.toNatClampNeg]? = some v) (hd : decode bytes pc = .ok (.iaload, 1)) (hp : pc + 1 = pc') (k : Rn w Z EL own nm bytes ml ret R hS ws Q os cells slots h pc' Ls (v :: rest)) : Rn w Z EL own nm bytes ml ret R hS ws Q os cells slots h pc Ls (.int j :: .ref a :: rest) := by
  obtain ⟨cl, Ar, r1, -⟩ := A
  obtain ⟨q1, q2⟩ := Ax.at cl r1 h0 hv
  exact k.pure fun p l e s m args below meth c T locs hx hby X hZ hown eT t r => by subst hp; exact X.iaload hx (j := j) (v := v) (by rw [eT]; exact Ar.1) (State.isArrayOf_alike hZ.alike Ar.2.1) Ar.2.2 q1 q2 (g := mkF m pc Ls (.int j :: .ref a :: rest)) rfl rfl (hb hby hd) t r
theorem Rn.caload {a : Addr} {vs : List Value} {j : Int32} {v : Value} (A : Ax Z h a .char vs) (h0 : ¬ j < 0) (hv : vs[j.toNatClampNeg]? = some v) (hd : decode bytes pc = .ok (.caload, 1)) (hp : pc + 1 = pc') (k : Rn w Z EL own nm bytes ml ret R hS ws Q os cells slots h pc' Ls (v :: rest)) : Rn w Z EL own nm bytes ml ret R hS ws Q os cells slots h pc Ls (.int j :: .ref a :: rest) := by
  obtain ⟨cl, Ar, r1, -⟩ := A
  obtain ⟨q1, q2⟩ := Ax.at cl r1 h0 hv
  exact k.pure fun p l e s m args below meth c T locs hx hby X hZ hown eT t r => by subst hp; exact X.caload hx (j := j) (v := v) (by rw [eT]; exact Ar.1) (State.isArrayOf_alike hZ.alike Ar.2.1) Ar.2.2 q1 q2 (g := mkF m pc Ls (.int j :: .ref a :: rest)) rfl rfl (hb hby hd) t r
theorem Rn.laload {a : Addr} {vs : List Value} {j : Int32} {v : Value} (A : Ax Z h a .long vs) (h0 : ¬ j < 0) (hv : vs[j.toNatClampNeg]? = some v) (hd : decode bytes pc = .ok (.laload, 1)) (hp : pc + 1 = pc') (k : Rn w Z EL own nm bytes ml ret R hS ws Q os cells slots h pc' Ls (v :: rest)) : Rn w Z EL own nm bytes ml ret R hS ws Q os cells slots h pc Ls (.int j :: .ref a :: rest) := by
  obtain ⟨cl, Ar, r1, -⟩ := A
  obtain ⟨q1, q2⟩ := Ax.at cl r1 h0 hv
  exact k.pure fun p l e s m args below meth c T locs hx hby X hZ hown eT t r => by subst hp; exact X.laload hx (j := j) (v := v) (by rw [eT]; exact Ar.1) (State.isArrayOf_alike hZ.alike Ar.2.1) Ar.2.2 q1 q2 (g := mkF m pc Ls (.int j :: .ref a :: rest)) rfl rfl (hb hby hd) t r
theorem Rn.baload {a : Addr} {vs : List Value} {j : Int32} {v : Value} (A : Ax Z h a .byte vs) (h0 : ¬ j < 0) (hv : vs[j.toNatClampNeg]? = some v) (hd : decode bytes pc = .ok (.baload, 1)) (hp : pc + 1 = pc') (k : Rn w Z EL own nm bytes ml ret R hS ws Q os cells slots h pc' Ls (v :: rest)) : Rn w Z EL own nm bytes ml ret R hS ws Q os cells slots h pc Ls (.int j :: .ref a :: rest) := by
  obtain ⟨cl, Ar, r1, -⟩ := A
  obtain ⟨q1, q2⟩ := Ax.at cl r1 h0 hv
  exact k.pure fun p l e s m args below meth c T locs hx hby X hZ hown eT t r => by subst hp; exact X.baloadBytes hx (j := j) (v := v) (by rw [eT]; exact Ar.1) (State.isArrayOf_alike hZ.alike Ar.2.1) Ar.2.2 q1 q2 (g := mkF m pc Ls (.int j :: .ref a :: rest)) rfl rfl (hb hby hd) t r
theorem Rn.daload {a : Addr} {vs : List Value} {j : Int32} {v : Value} (A : Ax Z h a .double vs) (h0 : ¬ j < 0) (hv : vs[j.toNatClampNeg]? = some v) (hd : decode bytes pc = .ok (.daload, 1)) (hp : pc + 1 = pc') (k : Rn w Z EL own nm bytes ml ret R hS ws Q os cells slots h pc' Ls (v :: rest)) : Rn w Z EL own nm bytes ml ret R hS ws Q os cells slots h pc Ls (.int j :: .ref a :: rest) := by
  obtain ⟨cl, Ar, r1, -⟩ := A
  obtain ⟨q1, q2⟩ := Ax.at cl r1 h0 hv
  exact k.pure fun p l e s m args below meth c T locs hx hby X hZ hown eT t r => by subst hp; exact X.daload hx (j := j) (v := v) (by rw [eT]; exact Ar.1) (State.isArrayOf_alike hZ.alike Ar.2.1) Ar.2.2 q1 q2 (g := mkF m pc Ls (.int j :: .ref a :: rest)) rfl rfl (hb hby hd) t r
theorem Rn.saload {a : Addr} {vs : List Value} {j : Int32} {v : Value} (A : Ax Z h a .short vs) (h0 : ¬ j < 0) (hv : vs[j.toNatClampNeg]? = some v) (hd : decode bytes pc = .ok (.saload, 1)) (hp : pc + 1 = pc') (k : Rn w Z EL own nm bytes ml ret R hS ws Q os cells slots h pc' Ls (v :: rest)) : Rn w Z EL own nm bytes ml ret R hS ws Q os cells slots h pc Ls (.int j :: .ref a :: rest) := by
  obtain ⟨cl, Ar, r1, -⟩ := A
  obtain ⟨q1, q2⟩ := Ax.at cl r1 h0 hv
  exact k.pure fun p l e s m args below meth c T locs hx hby X hZ hown eT t r => by subst hp; exact X.saload hx (j := j) (v := v) (by rw [eT]; exact Ar.1) (State.isArrayOf_alike hZ.alike Ar.2.1) Ar.2.2 q1 q2 (g := mkF m pc Ls (.int j :: .ref a :: rest)) rfl rfl (hb hby hd) t r
theorem Rn.aaload {a : Addr} {ty : FieldType} {vs : List Value} {j : Int32} {v : Value} (A : Ax Z h a ty vs) (ht : ty.isReference = true) (h0 : ¬ j < 0) (hv : vs[j.toNatClampNeg]? = some v) (hd : decode bytes pc = .ok (.aaload, 1)) (hp : pc + 1 = pc') (k : Rn w Z EL own nm bytes ml ret R hS ws Q os cells slots h pc' Ls (v :: rest)) : Rn w Z EL own nm bytes ml ret R hS ws Q os cells slots h pc Ls (.int j :: .ref a :: rest) := by
  obtain ⟨cl, Ar, r1, -⟩ := A
  obtain ⟨q1, q2⟩ := Ax.at cl r1 h0 hv
  exact k.pure fun p l e s m args below meth c T locs hx hby X hZ hown eT t r => by subst hp; exact X.aaload hx (j := j) (v := v) (by rw [eT]; exact Ar.1) (State.isArrayOf_alike hZ.alike Ar.2.1) ht Ar.2.2 q1 q2 (g := mkF m pc Ls (.int j :: .ref a :: rest)) rfl rfl (hb hby hd) t r
theorem Rn.arraylength {a : Addr} {ty : FieldType} {vs : List Value} {n : Int32} (A : Ax Z h a ty vs) (hn : vs.length.toInt32 = n) (hd : decode bytes pc = .ok (.arraylength, 1)) (hp : pc + 1 = pc') (k : Rn w Z EL own nm bytes ml ret R hS ws Q os cells slots h pc' Ls (.int n :: rest)) : Rn w Z EL own nm bytes ml ret R hS ws Q os cells slots h pc Ls (.ref a :: rest) := by
  obtain ⟨cl, Ar, r1, -⟩ := A
  have e1 : cl.slots.size.toInt32 = n := by rw [r1, ← hn]; simp
  exact k.pure fun p l e s m args below meth c T locs hx hby X hZ hown eT t r => by subst hp; exact X.arraylength hx (by rw [eT]; exact Ar.1) (State.isArrayOf_alike hZ.alike Ar.2.1) (g := mkF m pc Ls (.ref a :: rest)) rfl rfl (hb hby hd) t (by rw [e1]; exact r)
theorem Rn.iastore {a : Addr} {vs : List Value} {j : Int32} {x : Int32} {v : Value} (A : Ax Z h a .int vs) (h0 : ¬ j < 0) (hi : j.toNatClampNeg < vs.length) (hv : (.int x : Value) = v) (q : a ∈ ws ∨ hS.size ≤ a) (sf : Sf w Z EL os h a) (hd : decode bytes pc = .ok (.iastore, 1)) (hp : pc + 1 = pc') (k : ∀ h', Wr h h' a j.toNatClampNeg v → Ax Z h' a .int (vs.set j.toNatClampNeg v) → Rn w Z EL own nm bytes ml ret R hS ws Q os cells slots h' pc' Ls rest) : Rn w Z EL own nm bytes ml ret R hS ws Q os cells slots h pc Ls (.int x :: .int j :: .ref a :: rest) := by
  obtain ⟨cl, Ar, r1, -⟩ := id A
  have q1 : ¬ (j < 0 ∨ cl.slots.size ≤ j.toNatClampNeg) := fun z => z.elim h0 fun z => by simp [r1] at z; omega
  subst hv
  exact Rn.wrote q sf (fun h' W => k h' W (A.set W)) fun p l e s m args below meth c T locs hx hby hnm X hZ hown eT => by subst hp; exact stI X hx hZ eT Ar q1 (g := mkF m pc Ls (.int x :: .int j :: .ref a :: rest)) rfl rfl (hb hby hd)
theorem Rn.lastore {a : Addr} {vs : List Value} {j : Int32} {x : Int64} {v : Value} (A : Ax Z h a .long vs) (h0 : ¬ j < 0) (hi : j.toNatClampNeg < vs.length) (hv : (.long x : Value) = v) (q : a ∈ ws ∨ hS.size ≤ a) (sf : Sf w Z EL os h a) (hd : decode bytes pc = .ok (.lastore, 1)) (hp : pc + 1 = pc') (k : ∀ h', Wr h h' a j.toNatClampNeg v → Ax Z h' a .long (vs.set j.toNatClampNeg v) → Rn w Z EL own nm bytes ml ret R hS ws Q os cells slots h' pc' Ls rest) : Rn w Z EL own nm bytes ml ret R hS ws Q os cells slots h pc Ls (.long x :: .int j :: .ref a :: rest) := by
  obtain ⟨cl, Ar, r1, -⟩ := id A
  have q1 : ¬ (j < 0 ∨ cl.slots.size ≤ j.toNatClampNeg) := fun z => z.elim h0 fun z => by simp [r1] at z; omega
  subst hv
  exact Rn.wrote q sf (fun h' W => k h' W (A.set W)) fun p l e s m args below meth c T locs hx hby hnm X hZ hown eT => by subst hp; exact stJ X hx hZ eT Ar q1 (g := mkF m pc Ls (.long x :: .int j :: .ref a :: rest)) rfl rfl (hb hby hd)
theorem Rn.dastore {a : Addr} {vs : List Value} {j : Int32} {x : UInt64} {v : Value} (A : Ax Z h a .double vs) (h0 : ¬ j < 0) (hi : j.toNatClampNeg < vs.length) (hv : (.double x : Value) = v) (q : a ∈ ws ∨ hS.size ≤ a) (sf : Sf w Z EL os h a) (hd : decode bytes pc = .ok (.dastore, 1)) (hp : pc + 1 = pc') (k : ∀ h', Wr h h' a j.toNatClampNeg v → Ax Z h' a .double (vs.set j.toNatClampNeg v) → Rn w Z EL own nm bytes ml ret R hS ws Q os cells slots h' pc' Ls rest) : Rn w Z EL own nm bytes ml ret R hS ws Q os cells slots h pc Ls (.double x :: .int j :: .ref a :: rest) := by
  obtain ⟨cl, Ar, r1, -⟩ := id A
  have q1 : ¬ (j < 0 ∨ cl.slots.size ≤ j.toNatClampNeg) := fun z => z.elim h0 fun z => by simp [r1] at z; omega
  subst hv
  exact Rn.wrote q sf (fun h' W => k h' W (A.set W)) fun p l e s m args below meth c T locs hx hby hnm X hZ hown eT => by subst hp; exact stD X hx hZ eT Ar q1 (g := mkF m pc Ls (.double x :: .int j :: .ref a :: rest)) rfl rfl (hb hby hd)
theorem Rn.castore {a : Addr} {vs : List Value} {j : Int32} {x : Int32} {v : Value} (A : Ax Z h a .char vs) (h0 : ¬ j < 0) (hi : j.toNatClampNeg < vs.length) (hv : (.int (nar .char x) : Value) = v) (q : a ∈ ws ∨ hS.size ≤ a) (sf : Sf w Z EL os h a) (hd : decode bytes pc = .ok (.castore, 1)) (hp : pc + 1 = pc') (k : ∀ h', Wr h h' a j.toNatClampNeg v → Ax Z h' a .char (vs.set j.toNatClampNeg v) → Rn w Z EL own nm bytes ml ret R hS ws Q os cells slots h' pc' Ls rest) : Rn w Z EL own nm bytes ml ret R hS ws Q os cells slots h pc Ls (.int x :: .int j :: .ref a :: rest) := by
  obtain ⟨cl, Ar, r1, -⟩ := id A
  have q1 : ¬ (j < 0 ∨ cl.slots.size ≤ j.toNatClampNeg) := fun z => z.elim h0 fun z => by simp [r1] at z; omega
  subst hv
  exact Rn.wrote q sf (fun h' W => k h' W (A.set W)) fun p l e s m args below meth c T locs hx hby hnm X hZ hown eT => by subst hp; exact stC X hx hZ eT Ar q1 (g := mkF m pc Ls (.int x :: .int j :: .ref a :: rest)) rfl rfl (hb hby hd)
theorem Rn.bastore {a : Addr} {vs : List Value} {j : Int32} {x : Int32} {v : Value} (A : Ax Z h a .byte vs) (h0 : ¬ j < 0) (hi : j.toNatClampNeg < vs.length) (hv : (.int (nar .byte x) : Value) = v) (q : a ∈ ws ∨ hS.size ≤ a) (sf : Sf w Z EL os h a) (hd : decode bytes pc = .ok (.bastore, 1)) (hp : pc + 1 = pc') (k : ∀ h', Wr h h' a j.toNatClampNeg v → Ax Z h' a .byte (vs.set j.toNatClampNeg v) → Rn w Z EL own nm bytes ml ret R hS ws Q os cells slots h' pc' Ls rest) : Rn w Z EL own nm bytes ml ret R hS ws Q os cells slots h pc Ls (.int x :: .int j :: .ref a :: rest) := by
  obtain ⟨cl, Ar, r1, -⟩ := id A
  have q1 : ¬ (j < 0 ∨ cl.slots.size ≤ j.toNatClampNeg) := fun z => z.elim h0 fun z => by simp [r1] at z; omega
  subst hv
  exact Rn.wrote q sf (fun h' W => k h' W (A.set W)) fun p l e s m args below meth c T locs hx hby hnm X hZ hown eT => by subst hp; exact stB X hx hZ eT Ar q1 (g := mkF m pc Ls (.int x :: .int j :: .ref a :: rest)) rfl rfl (hb hby hd)
theorem Rn.aastore {a : Addr} {ty : FieldType} {vs : List Value} {j : Int32} {v : Value} (A : Ax Z h a ty vs) (ht : ty.isReference = true) (F : Sto Z h a v) (h0 : ¬ j < 0) (hi : j.toNatClampNeg < vs.length) (hv : v.isRef = true) (q : a ∈ ws ∨ hS.size ≤ a) (sf : Sf w Z EL os h a) (hd : decode bytes pc = .ok (.aastore, 1)) (hp : pc + 1 = pc') (k : ∀ h', Wr h h' a j.toNatClampNeg v → Ax Z h' a ty (vs.set j.toNatClampNeg v) → Rn w Z EL own nm bytes ml ret R hS ws Q os cells slots h' pc' Ls rest) : Rn w Z EL own nm bytes ml ret R hS ws Q os cells slots h pc Ls (v :: .int j :: .ref a :: rest) := by
  obtain ⟨cl, Ar, r1, -⟩ := id A
  have q1 : ¬ (j < 0 ∨ cl.slots.size ≤ j.toNatClampNeg) := fun z => z.elim h0 fun z => by simp [r1] at z; omega
  exact Rn.wrote q sf (fun h' W => k h' W (A.set W)) fun p l e s m args below meth c T locs hx hby hnm X hZ hown eT => by subst hp; exact stR X hx hZ eT Ar q1 ht F (g := mkF m pc Ls (v :: .int j :: .ref a :: rest)) rfl rfl (hb hby hd)
end Steps
section Objs
variable {w : Bool} {Z : State} {EL : List (String × Nat)} {own nm : String} {bytes : ByteArray} {ml : Nat} {ret : Option FieldType} {R : Room} {hS : Heap} {ws : List Addr} {Q : Option Value → Heap → Prop} {os : List Addr} {cells slots : Nat} {h h' : Heap} {pc pc' : Nat} {Ls Ls' : Array Slot} {rest : List Value} {a0 : Array Value}
theorem Rn.getF {ix : Nat} {R0 O n d host : String} {a : Addr} {v : Value} (wd : (Jvm.Cond.fieldLink own ix R0 n d).before a0 Z = true ∨ (Jvm.Cond.fieldLinkNest own ix R0 n d host).before a0 Z = true) (via : Via Z R0 O n d) (F : Fld Z h a O n d v) (hd : decode bytes pc = .ok (.getfield ix, 3)) (hp : pc + 3 = pc') (k : Rn w Z EL own nm bytes ml ret R hS ws Q os cells slots h pc' Ls (v :: rest)) : Rn w Z EL own nm bytes ml ret R hS ws Q os cells slots h pc Ls (.ref a :: rest) :=
  k.note fun p l e s m args below meth c T locs hx hby hml X hZ hown eT => by subst hp; exact Jvm.RoadKit.getF X hx hZ hown wd via eT F (g := mkF m pc Ls (.ref a :: rest)) rfl rfl (hb hby hd)
theorem Rn.getS {ix : Nat} {R0 O n d : String} {v : Value} (wd : (Jvm.Cond.fieldLink own ix R0 n d).before a0 Z = true) (via : Via Z R0 O n d) (F : Sta Z h O n d v) (hd : decode bytes pc = .ok (.getstatic ix, 3)) (hp : pc + 3 = pc') (k : Rn w Z EL own nm bytes ml ret R hS ws Q os cells slots h pc' Ls (v :: rest)) : Rn w Z EL own nm bytes ml ret R hS ws Q os cells slots h pc Ls rest :=
  k.note fun p l e s m args below meth c T locs hx hby hml X hZ hown eT => by subst hp; exact Jvm.RoadKit.getS X hx hZ hown (host := "") wd via eT F (g := mkF m pc Ls rest) rfl (hb hby hd)
theorem Rn.putF {ix kk : Nat} {R0 O n d C : String} {ty : FieldType} {a : Addr} {v old : Value} (wd : (Jvm.Cond.fieldLink own ix R0 n d).before a0 Z = true) (via : Via Z R0 O n d) (F : Fld Z h a O n d old) (E : Exa Z h a C) (L : (Jvm.Cond.lays C O n d).before a0 Z = true ∨ ((Jvm.Cond.laysFinal C O n d).before a0 Z = true ∧ own = O ∧ nm = "<init>")) (wi : (Jvm.Cond.instantiable C kk).before a0 Z = true)
    (hty : parseFieldDescriptor d = some ty) (hn : narrow ty v = v) (hf : fits ty v = true) (q : a ∈ ws ∨ hS.size ≤ a) (sf : Sf w Z EL os h a) (hd : decode bytes pc = .ok (.putfield ix, 3)) (hp : pc + 3 = pc') (k : ∀ h', Wr h h' a (Jvm.RoadKit.slotOf Z O n d) v → Rn w Z EL own nm bytes ml ret R hS ws Q os cells slots h' pc' Ls rest) : Rn w Z EL own nm bytes ml ret R hS ws Q os cells slots h pc Ls (v :: .ref a :: rest) :=
  Rn.wrote q sf k fun p l e s m args below meth c T locs hx hby hnm X hZ hown eT => by
    subst hp
    exact Jvm.RoadKit.putF X hx hZ hown (host := "") (Or.inl wd) via eT F E (L.imp id fun z => ⟨z.1, z.2.1, hnm.trans z.2.2⟩) wi hty hn hf (g := mkF m pc Ls (v :: .ref a :: rest)) rfl rfl (hb hby hd)
theorem Rn.newO {ix n : Nat} {C : String} (w1 : (Jvm.Cond.classLink own ix C).before a0 Z = true) (w2 : (Jvm.Cond.instantiable C n).before a0 Z = true) (w3 : (Jvm.Cond.initialized C).before a0 Z = true) (hd : decode bytes pc = .ok (.new ix, 3)) (hc : cells + 1 ≤ R.cells) (hs : slots + n ≤ R.slots) (hp : pc + 3 = pc')
    (k : ∀ h' a, a = h.size → hS.size ≤ a → Ext h h' → (Exa Z h' a C ∧ (∀ {O nm d : String} {ty : FieldType}, Laid Z a0 C O nm d → parseFieldDescriptor d = some ty → Fld Z h' a O nm d (defaultValue ty)) ∧ (∃ cell : Cell, h'[a]? = some cell ∧ cell.vm = .none ∧ cell.monitor = {})) → Rn w Z EL own nm bytes ml ret R hS ws Q (a :: os) (cells + 1) (slots + n) h' pc' Ls (.ref a :: rest)) : Rn w Z EL own nm bytes ml ret R hS ws Q os cells slots h pc Ls rest :=
  Rn.made (G := fun h' a => Exa Z h' a C ∧ (∀ {O nm d : String} {ty : FieldType}, Laid Z a0 C O nm d → parseFieldDescriptor d = some ty → Fld Z h' a O nm d (defaultValue ty)) ∧ (∃ cell : Cell, h'[a]? = some cell ∧ cell.vm = .none ∧ cell.monitor = {})) (st' := fun a => .ref a :: rest) (st := fun _ => rest) k (fun h' g => g.1.lt) fun p l e s m args below meth c T locs hx hby X hZ hown eT => by
    subst hp
    obtain ⟨T', h', X', e', E, A, D, U, st⟩ := Jvm.RoadKit.newO X hx hZ hown w1 w2 w3 eT (g := mkF m pc Ls rest) rfl (hb hby hd) hc hs
    exact ⟨T', h', X', e', E, ⟨A, D, U⟩, st⟩
theorem Rn.newP {aty : ArrayType} {n : Int32} {cap : Nat} {ty : FieldType} {ad : String} (wd : (Jvm.Cond.arrayClass ty).before a0 Z = true) (hty : newarray.typeOf aty = ty) (had : "[" ++ ty.toString = ad) (hd : decode bytes pc = .ok (.newarray aty, 2)) (hn : ¬ n < 0) (hcap : n.toNatClampNeg ≤ cap) (hb8 : cap * 8 ≤ 536870912) (hc : cells + 1 ≤ R.cells) (hs : slots + cap ≤ R.slots) (hp : pc + 2 = pc')
    (k : ∀ h' a, a = h.size → hS.size ≤ a → Ext h h' → (Ax Z h' a ty (List.replicate n.toNatClampNeg (defaultValue ty)) ∧ Exa Z h' a ad) → Rn w Z EL own nm bytes ml ret R hS ws Q (a :: os) (cells + 1) (slots + cap) h' pc' Ls (.ref a :: rest)) : Rn w Z EL own nm bytes ml ret R hS ws Q os cells slots h pc Ls (.int n :: rest) := by
  subst hty
  refine Rn.made (G := fun h' a => Ax Z h' a (newarray.typeOf aty) (List.replicate n.toNatClampNeg (defaultValue (newarray.typeOf aty))) ∧ Exa Z h' a ad) (st' := fun a => .ref a :: rest) (st := fun _ => rest) k (fun h' g => g.1.lt) fun p l e s m args below meth c T locs hx hby X hZ hown eT => ?_
  subst hp
  obtain ⟨T', h', cA, X', e', E, A, B, st⟩ := Jvm.RoadKit.newPE X hx hZ wd eT (g := mkF m pc Ls (.int n :: rest)) rfl (hb hby hd) rfl hn hcap hb8 hc hs had
  exact ⟨T', h', X', e', E, ⟨Ax.new A hn, B⟩, st⟩
theorem Rn.castY {ix : Nat} {K : String} {a : Addr} (wd : (Jvm.Cond.classLink own ix K).before a0 Z = true) (F : Ins Z h a K true) (hd : decode bytes pc = .ok (.checkcast ix, 3)) (hp : pc + 3 = pc') (k : Rn w Z EL own nm bytes ml ret R hS ws Q os cells slots h pc' Ls (.ref a :: rest)) : Rn w Z EL own nm bytes ml ret R hS ws Q os cells slots h pc Ls (.ref a :: rest) :=
  k.note fun p l e s m args below meth c T locs hx hby hml X hZ hown eT => by subst hp; exact Jvm.RoadKit.castY X hx hZ hown wd eT F (g := mkF m pc Ls (.ref a :: rest)) rfl rfl (hb hby hd)
theorem Rn.instY {ix : Nat} {K : String} {a : Addr} (wd : (Jvm.Cond.classLink own ix K).before a0 Z = true) (F : Ins Z h a K true) (hd : decode bytes pc = .ok (.instanceof ix, 3)) (hp : pc + 3 = pc') (k : Rn w Z EL own nm bytes ml ret R hS ws Q os cells slots h pc' Ls (.int 1 :: rest)) : Rn w Z EL own nm bytes ml ret R hS ws Q os cells slots h pc Ls (.ref a :: rest) :=
  k.note fun p l e s m args below meth c T locs hx hby hml X hZ hown eT => by subst hp; exact Jvm.RoadKit.instY X hx hZ hown wd eT F (g := mkF m pc Ls (.ref a :: rest)) rfl rfl (hb hby hd)
theorem Rn.instNo {ix : Nat} {K C : String} {a : Addr} (wd : (Jvm.Cond.classLink own ix K).before a0 Z = true) (E : Exa Z h a C) (F : ∃ c t, Z.vm.findClass C = some c ∧ Z.vm.findClass K = some t ∧ Z.vm.assignable c t = false) (hd : decode bytes pc = .ok (.instanceof ix, 3)) (hp : pc + 3 = pc') (k : Rn w Z EL own nm bytes ml ret R hS ws Q os cells slots h pc' Ls (.int 0 :: rest)) : Rn w Z EL own nm bytes ml ret R hS ws Q os cells slots h pc Ls (.ref a :: rest) :=
  k.note fun p l e s m args below meth c T locs hx hby hml X hZ hown eT => by subst hp; exact Jvm.RoadKit.instNo X hx hZ hown wd eT E F (g := mkF m pc Ls (.ref a :: rest)) rfl rfl (hb hby hd)
theorem Rn.initO {ix : Nat} {a : Addr} (w1 : (Jvm.Cond.methodLink own ix Lib.objectInit).before a0 Z = true) (w2 : (Jvm.Cond.instanceMethod Lib.objectInit).before a0 Z = true) (w3 : (Jvm.Cond.code Lib.objectInit ⟨#[0xb1]⟩ 1 none).before a0 Z = true) (hsz : Ls.size = ml) (hd : decode bytes pc = .ok (.invokespecial ix, 3)) (hf : 1 ≤ R.frames) (hl : (rest.map fun v => v.category).sum + 12 ≤ R.locals) (hp : pc + 3 = pc') (k : Rn w Z EL own nm bytes ml ret R hS ws Q os cells slots h pc' Ls rest) : Rn w Z EL own nm bytes ml ret R hS ws Q os cells slots h pc Ls (.ref a :: rest) :=
  k.note fun p l e s m args below meth c T locs hx hby hml X hZ hown eT => by subst hp; exact Jvm.RoadKit.initO X hx hZ hown w1 w2 w3 eT (g := mkF m pc Ls (.ref a :: rest)) rfl (hsz.trans hml.symm) rfl (hb hby hd) hf (W := (rest.map fun v => v.category).sum) (by show 2 * 0 + _ ≤ _; omega) hl
/-! ### contracts -/
/-- the contract of a method, in a walk that loads no literal: called with as over the heap h it returns as Q says and writes nothing but cells at ws and cells of its own -/
def Ct (Z : State) (y : MethodName) (bytes : ByteArray) (ml : Nat) (ret : Option FieldType) (rm : Room) (as : Array Value) (h : Heap) (ws : List Addr) (Q : Option Value → Heap → Prop) : Prop :=
  Ext Z.heap h → (∀ x ∈ ws, Z.heap.size ≤ x) → ∀ l, MetFree l y (head1 [Jvm.Cond.code y bytes ml ret] rm) (fun a U => a = as ∧ Z.Warmed39 U.vm ∧ U.heap = h) (fun _ _ _ _ _ => True) (fun _ U o U' => ∃ v L, o = .returned v ∧ (Fr Z.heap.size L ∧ Keep h U'.heap ws ∧ Q v U'.heap) ∧ FrameEnd U o U' L rm.cells rm.slots)
theorem met_of {wsT : List Jvm.Cond} {cls d : String} {as : Array Value} (pn : plainName cls = true) (ef : ∀ m, entryFrame m as ml = mkF m 0 Ls []) (hO : Ext Z.heap h) (hW : ∀ x ∈ ws, Z.heap.size ≤ x) (l : Launch) (k : Rn false Z [] cls nm bytes ml ret R h ws Q [] 0 0 h 0 Ls []) :
    MetFree l ⟨cls, nm, d⟩ (head1 (Jvm.Cond.code ⟨cls, nm, d⟩ bytes ml ret :: wsT) R) (fun a U => a = as ∧ Z.Warmed39 U.vm ∧ U.heap = h) (fun _ _ _ _ _ => True) (fun _ U o U' => ∃ v L, o = .returned v ∧ (Fr Z.heap.size L ∧ Keep h U'.heap ws ∧ Q v U'.heap) ∧ FrameEnd U o U' L R.cells R.slots) := by
  refine MetFree.of_bodySF (plainFor_of_name pn) hisR ?_
  intro p e s m args below meth c s₁ Bd hml0 hP hK
  obtain ⟨rfl, hZ, hh⟩ := hP
  have g := k p l e s s.vm m args below meth c s₁ [] ⟨Bd.exec, Bd.bytes, hml0, hZ, findClass_of_methodNamed Bd.named, (name_of_methodNamed Bd.named Bd.method).1, Bd.returns, Bd.notSynchronized⟩ (Stand.of_body Bd) rfl (Fr.nil _) (Keep.refl _ _) ⟨hO, hW⟩ (by rw [← hh, Bd.state]; rfl)
  obtain ⟨s₂, o, h1, h2, h3, h4⟩ := g
  exact ⟨s₂, o, castTop (ef m) h1, h2, h3, h4⟩
theorem Ct.intro {cls d : String} {as : Array Value} (pn : plainName cls = true) (ef : ∀ m, entryFrame m as ml = mkF m 0 Ls []) (k : Rn false Z [] cls nm bytes ml ret R h ws Q [] 0 0 h 0 Ls []) : Ct Z ⟨cls, nm, d⟩ bytes ml ret R as h ws Q :=
  fun hO hW l => met_of pn ef hO hW l k
theorem Ct.weaken {y : MethodName} {as : Array Value} {Q' : Option Value → Heap → Prop} (C : Ct Z y bytes ml ret R as h ws Q) (q : ∀ v h', Keep h h' ws → Q v h' → Q' v h') : Ct Z y bytes ml ret R as h ws Q' := by
  intro hO hW l p e ha hc hk s m args below hf happ hP hK
  obtain ⟨n, o, h1, h2, h3, v, L, h4, ⟨h5, h6, h7⟩, h8⟩ := C hO hW l p e ha hc hk s m args below hf happ hP hK
  exact ⟨n, o, h1, h2, h3, v, L, h4, ⟨h5, h6, q v _ h6 h7⟩, h8⟩
/-- behind a call by a plain contract -/
theorem Rn.called {st : List Value} {ws' : List Addr} {Q' : Option Value → Heap → Prop} {rm : Room} (hws : ∀ x ∈ ws', x ∈ ws ∨ hS.size ≤ x) (hsf : ∀ x ∈ ws', Sf w Z EL os h x)
    (k : ∀ v h', Keep h h' ws' → Q' v h' → Rn w Z EL own nm bytes ml ret R hS ws Q os (cells + rm.cells) (slots + rm.slots) h' pc' Ls (v.toList ++ rest))
    (f : ∀ (p : Program) (l : Launch) (e : Env) (s : State) (m : MethodId) (args : Array Value) (below : List Frame) (meth : Method) (c : Code) (T : State) (locs : List Loc), p.tables.exec = Jvm.exec → c.code = bytes → c.maxLocals = ml → Stand p l e R s m args below meth c T locs cells slots → Z.Warmed39 s.vm → s.vm.findClass own = some m.cls → T.heap = h → Ext Z.heap h → (∀ x ∈ ws', Z.heap.size ≤ x) →
      ∃ (v : Option Value) (B : Pt), Stand p l e R s m args below meth c B.U B.locs B.cells B.slots ∧ (∃ L, (Fr Z.heap.size L ∧ Keep h B.U.heap ws' ∧ Q' v B.U.heap) ∧ B.locs = locs ++ L ∧ B.cells = cells + rm.cells ∧ B.slots = slots + rm.slots) ∧ ∀ t, Steps p.tables e below (B.U.setTop (mkF m pc' Ls (v.toList ++ rest))) t → Steps p.tables e below (T.setTop (mkF m pc Ls st)) t) :
    Rn w Z EL own nm bytes ml ret R hS ws Q os cells slots h pc Ls st := by
  intro p l e s vm0 m args below meth c T locs ok X sn fr K O eT
  have X0 : Old Z Z.heap.size h := Old.keep (h := hS) ⟨rfl, O.1⟩ K O.2
  obtain ⟨v, ⟨U, L', c', s'⟩, X', ⟨L, ⟨f1, K', q'⟩, e1, e2, e3⟩, stp⟩ := f p l e _ m args below meth c T locs ok.1 ok.2.1 ok.2.2.1 X ok.2.2.2.1 ok.2.2.2.2.1 eT X0.2 (fun x hx => ge_of O (hws x hx))
  dsimp only [Pt.U, Pt.locs, Pt.cells, Pt.slots] at X' K' q' e1 e2 e3 stp
  subst e1 e2 e3
  exact (k v U.heap K' q' p l e s vm0 m args below meth c U _ ok X' (sn.keep ok.2.2.2.1 K' hsf) (fr.app f1) (K.trans K' hws) O rfl).pre stp
theorem Rn.callS {ix : Nat} {y : MethodName} {yb : ByteArray} {yl : Nat} {yr : Option FieldType} {rm : Room} {as : Array Value} {ws' : List Addr} {Q' : Option Value → Heap → Prop} {argsL : List Value} {st : List Value}
    (C : Ct Z y yb yl yr rm as h ws' Q') (w1 : (Jvm.Cond.methodLink own ix y).before a0 Z = true) (w2 : (Jvm.Cond.static y).before a0 Z = true) (w3 : (Jvm.Cond.initialized y.cls).before a0 Z = true) (w4 : (Jvm.Cond.code y yb yl yr).before a0 Z = true) (hy : y.cls ≠ "java/lang/invoke/MethodHandle" ∧ y.cls ≠ "java/lang/invoke/VarHandle")
    (hst : st = argsL.reverse ++ rest) (has : argsL.toArray = as) (hlen : ∀ sig, parseMethodDescriptor y.desc = some sig → argsL.length = sig.parameters.length) (hsz : Ls.size = ml) (hd : decode bytes pc = .ok (.invokestatic ix, 3)) (hp : pc + 3 = pc')
    (hf : rm.frames + 1 ≤ R.frames) (hl : (rest.map fun v => v.category).sum + (yl + 11) + rm.locals ≤ R.locals) (hc : cells + rm.cells ≤ R.cells) (hs : slots + rm.slots ≤ R.slots) (hws : ∀ x ∈ ws', x ∈ ws ∨ hS.size ≤ x) (hsf : ∀ x ∈ ws', Sf w Z EL os h x)
    (k : ∀ v h', Keep h h' ws' → Q' v h' → Rn w Z EL own nm bytes ml ret R hS ws Q os (cells + rm.cells) (slots + rm.slots) h' pc' Ls (v.toList ++ rest)) : Rn w Z EL own nm bytes ml ret R hS ws Q os cells slots h pc Ls st := by
  refine Rn.called hws hsf k fun p l e s m args below meth c T locs hx hby hml X hZ hown eT hO hge => ?_
  obtain ⟨v, vm1, B, -, X', ⟨L, q⟩, stp⟩ := Jvm.LawKit.callS X hx (y := y) hown (mvT hZ w1) (mvT hZ w2) (mvT hZ w3) (mvT hZ w4) hy (backOf (W := (rest.map fun v => v.category).sum) (Q := fun v h2 L => Fr Z.heap.size L ∧ Keep h h2 ws' ∧ Q' v h2) (C hO hge l) hZ w4 w3 hf hl) (g := mkF m pc Ls st) rfl (hsz.trans hml.symm) (argsL := argsL) (rest := rest) hlen hst (by show 2 * 0 + _ ≤ _; omega) (hb hby hd) (fun _ _ => ⟨has, eT, hc, hs⟩)
  subst hp
  exact ⟨v, B, X', ⟨L, q⟩, stp⟩
theorem Rn.callI {ix : Nat} {y : MethodName} {yb : ByteArray} {yl : Nat} {rm : Room} {as : Array Value} {ws' : List Addr} {Q' : Option Value → Heap → Prop} {a : Addr} {argsL : List Value} {st : List Value}
    (C : Ct Z y yb yl none rm as h ws' Q') (hy1 : y.name = "<init>") (w1 : (Jvm.Cond.methodLink own ix y).before a0 Z = true) (w2 : (Jvm.Cond.instanceMethod y).before a0 Z = true) (w3 : (Jvm.Cond.initialized y.cls).before a0 Z = true) (w4 : (Jvm.Cond.code y yb yl none).before a0 Z = true) (hy : y.cls ≠ "java/lang/invoke/MethodHandle" ∧ y.cls ≠ "java/lang/invoke/VarHandle")
    (hst : st = argsL.reverse ++ .ref a :: rest) (has : (.ref a :: argsL).toArray = as) (hlen : ∀ sig, parseMethodDescriptor y.desc = some sig → argsL.length = sig.parameters.length) (hsz : Ls.size = ml) (hd : decode bytes pc = .ok (.invokespecial ix, 3)) (hp : pc + 3 = pc')
    (hf : rm.frames + 1 ≤ R.frames) (hl : (rest.map fun v => v.category).sum + (yl + 11) + rm.locals ≤ R.locals) (hc : cells + rm.cells ≤ R.cells) (hs : slots + rm.slots ≤ R.slots) (hws : ∀ x ∈ ws', x ∈ ws ∨ hS.size ≤ x) (hsf : ∀ x ∈ ws', Sf w Z EL os h x)
    (k : ∀ v h', Keep h h' ws' → Q' v h' → Rn w Z EL own nm bytes ml ret R hS ws Q os (cells + rm.cells) (slots + rm.slots) h' pc' Ls (v.toList ++ rest)) : Rn w Z EL own nm bytes ml ret R hS ws Q os cells slots h pc Ls st := by
  refine Rn.called hws hsf k fun p l e s m args below meth c T locs hx hby hml X hZ hown eT hO hge => ?_
  obtain ⟨v, vm1, B, -, X', ⟨L, q⟩, stp⟩ := X.specialBack hx (y := y) hy1 hown (mvT hZ w1) (mvT hZ w2) (mvT hZ w4) hy (backOf (W := (rest.map fun v => v.category).sum) (Q := fun v h2 L => Fr Z.heap.size L ∧ Keep h h2 ws' ∧ Q' v h2) (C hO hge l) hZ w4 w3 hf hl) (g := mkF m pc Ls st) rfl (hsz.trans hml.symm) (Steps.refl _) (a := a) (argsL := argsL) (rest := rest) hlen hst (by show 2 * 0 + _ ≤ _; omega) (hb hby hd) (fun _ _ => ⟨has, eT, hc, hs⟩)
  subst hp
  exact ⟨v, B, X', ⟨L, q⟩, fun t r => stp.trans r⟩
theorem Rn.callV {ix : Nat} {C0 : String} {y z : MethodName} {yb : ByteArray} {yl : Nat} {yr : Option FieldType} {rm : Room} {as : Array Value} {ws' : List Addr} {Q' : Option Value → Heap → Prop} {a : Addr} {argsL : List Value} {st : List Value}
    (C : Ct Z z yb yl yr rm as h ws' Q') (E : Exa Z h a C0) (w1 : (Jvm.Cond.methodLink own ix y).before a0 Z = true) (w2 : (Jvm.Cond.declares y).before a0 Z = true) (nf : ∀ s : State, Z.Warmed39 s.vm → NotFace s y) (w5 : (Jvm.Cond.selects C0 y z).before a0 Z = true) (w6 : (Jvm.Cond.instanceMethod z).before a0 Z = true) (w3 : (Jvm.Cond.initialized z.cls).before a0 Z = true) (w4 : (Jvm.Cond.code z yb yl yr).before a0 Z = true) (hy : y.cls ≠ "java/lang/invoke/MethodHandle" ∧ y.cls ≠ "java/lang/invoke/VarHandle")
    (hst : st = argsL.reverse ++ .ref a :: rest) (has : (.ref a :: argsL).toArray = as) (hlen : ∀ sig, parseMethodDescriptor y.desc = some sig → argsL.length = sig.parameters.length) (hsz : Ls.size = ml) (hd : decode bytes pc = .ok (.invokevirtual ix, 3)) (hp : pc + 3 = pc')
    (hf : rm.frames + 1 ≤ R.frames) (hl : (rest.map fun v => v.category).sum + (yl + 11) + rm.locals ≤ R.locals) (hc : cells + rm.cells ≤ R.cells) (hs : slots + rm.slots ≤ R.slots) (hws : ∀ x ∈ ws', x ∈ ws ∨ hS.size ≤ x) (hsf : ∀ x ∈ ws', Sf w Z EL os h x)
    (k : ∀ v h', Keep h h' ws' → Q' v h' → Rn w Z EL own nm bytes ml ret R hS ws Q os (cells + rm.cells) (slots + rm.slots) h' pc' Ls (v.toList ++ rest)) : Rn w Z EL own nm bytes ml ret R hS ws Q os cells slots h pc Ls st := by
  refine Rn.called hws hsf k fun p l e s m args below meth c T locs hx hby hml X hZ hown eT hO hge => ?_
  obtain ⟨cq, kq, qa, qb, qc⟩ := isOf hZ eT E
  obtain ⟨v, vm1, B, -, X', ⟨L, q⟩, stp⟩ := X.virtualBack hx (y := y) (z := z) hown (mvT hZ w1) (mvT hZ w2) (nf s hZ) (mvT hZ w5) (mvT hZ w6) hy (backOf (W := (rest.map fun v => v.category).sum) (Q := fun v h2 L => Fr Z.heap.size L ∧ Keep h h2 ws' ∧ Q' v h2) (C hO hge l) hZ w4 w3 hf hl) qa qc (g := mkF m pc Ls st) rfl (hsz.trans hml.symm) (Steps.refl _) (argsL := argsL) (rest := rest) hlen hst (by show 2 * 0 + _ ≤ _; omega) (hb hby hd) (fun _ _ => ⟨has, eT, hc, hs⟩)
  subst hp
  exact ⟨v, B, X', ⟨L, q⟩, fun t r => stp.trans r⟩
end Objs
section Objs2
variable {w : Bool} {Z : State} {EL : List (String × Nat)} {own nm : String} {bytes : ByteArray} {ml : Nat} {ret : Option FieldType} {R : Room} {hS : Heap} {ws : List Addr} {Q : Option Value → Heap → Prop} {os : List Addr} {cells slots : Nat} {h h' : Heap} {pc pc' : Nat} {Ls Ls' : Array Slot} {rest : List Value} {a0 : Array Value}
theorem Rn.callU {ix : Nat} {C0 owner : String} {y z : MethodName} {yb : ByteArray} {yl : Nat} {yr : Option FieldType} {rm : Room} {as : Array Value} {ws' : List Addr} {Q' : Option Value → Heap → Prop} {a : Addr} {argsL : List Value} {st : List Value}
    (C : Ct Z z yb yl yr rm as h ws' Q') (E : Exa Z h a C0) (w1 : (Jvm.Cond.methodLink own ix y).before a0 Z = true) (w2 : (Jvm.Cond.sameMethod y.cls owner y.name y.desc).before a0 Z = true) (w7 : (Jvm.Cond.declares ⟨owner, y.name, y.desc⟩).before a0 Z = true) (hy : owner ≠ "java/lang/invoke/MethodHandle" ∧ owner ≠ "java/lang/invoke/VarHandle") (w5 : (Jvm.Cond.selects C0 y z).before a0 Z = true) (w6 : (Jvm.Cond.instanceMethod z).before a0 Z = true) (w3 : (Jvm.Cond.initialized z.cls).before a0 Z = true) (w4 : (Jvm.Cond.code z yb yl yr).before a0 Z = true)
    (hst : st = argsL.reverse ++ .ref a :: rest) (has : (.ref a :: argsL).toArray = as) (hlen : ∀ sig, parseMethodDescriptor y.desc = some sig → argsL.length = sig.parameters.length) (hsz : Ls.size = ml) (hd : decode bytes pc = .ok (.invokevirtual ix, 3)) (hp : pc + 3 = pc')
    (hf : rm.frames + 1 ≤ R.frames) (hl : (rest.map fun v => v.category).sum + (yl + 11) + rm.locals ≤ R.locals) (hc : cells + rm.cells ≤ R.cells) (hs : slots + rm.slots ≤ R.slots) (hws : ∀ x ∈ ws', x ∈ ws ∨ hS.size ≤ x) (hsf : ∀ x ∈ ws', Sf w Z EL os h x)
    (k : ∀ v h', Keep h h' ws' → Q' v h' → Rn w Z EL own nm bytes ml ret R hS ws Q os (cells + rm.cells) (slots + rm.slots) h' pc' Ls (v.toList ++ rest)) : Rn w Z EL own nm bytes ml ret R hS ws Q os cells slots h pc Ls st := by
  refine Rn.called hws hsf k fun p l e s m args below meth c T locs hx hby hml X hZ hown eT hO hge => ?_
  obtain ⟨cq, kq, qa, qb, qc⟩ := isOf hZ eT E
  obtain ⟨v, vm1, B, -, X', ⟨L, q⟩, stp⟩ := X.virtualBackUp hx (x := y) (y := z) hown (mvT hZ w1) (mvT hZ w2) (mvT hZ w7) hy (mvT hZ w5) (mvT hZ w6) (backOf (W := (rest.map fun v => v.category).sum) (Q := fun v h2 L => Fr Z.heap.size L ∧ Keep h h2 ws' ∧ Q' v h2) (C hO hge l) hZ w4 w3 hf hl) qa qc (g := mkF m pc Ls st) rfl (hsz.trans hml.symm) (Steps.refl _) (argsL := argsL) (rest := rest) hlen hst (by show 2 * 0 + _ ≤ _; omega) (hb hby hd) (fun _ _ => ⟨has, eT, hc, hs⟩)
  subst hp
  exact ⟨v, B, X', ⟨L, q⟩, fun t r => stp.trans r⟩
end Objs2
section Objs3
variable {w : Bool} {Z : State} {EL : List (String × Nat)} {own nm : String} {bytes : ByteArray} {ml : Nat} {ret : Option FieldType} {R : Room} {hS : Heap} {ws : List Addr} {Q : Option Value → Heap → Prop} {os : List Addr} {cells slots : Nat} {h h' : Heap} {pc pc' : Nat} {Ls Ls' : Array Slot} {rest : List Value} {a0 : Array Value}
theorem Rn.instNull {ix : Nat} (hd : decode bytes pc = .ok (.instanceof ix, 3)) (hp : pc + 3 = pc') (k : Rn w Z EL own nm bytes ml ret R hS ws Q os cells slots h pc' Ls (.int 0 :: rest)) : Rn w Z EL own nm bytes ml ret R hS ws Q os cells slots h pc Ls (.null :: rest) :=
  k.pure fun p l e s m args below meth c T locs hx hby X hZ hown eT t r => by subst hp; exact Jvm.Stand.instanceofNull X hx (g := mkF m pc Ls (.null :: rest)) rfl rfl (hb hby hd) t r
theorem Rn.castNull {ix : Nat} (hd : decode bytes pc = .ok (.checkcast ix, 3)) (hp : pc + 3 = pc') (k : Rn w Z EL own nm bytes ml ret R hS ws Q os cells slots h pc' Ls (.null :: rest)) : Rn w Z EL own nm bytes ml ret R hS ws Q os cells slots h pc Ls (.null :: rest) :=
  k.pure fun p l e s m args below meth c T locs hx hby X hZ hown eT t r => by subst hp; exact Jvm.Stand.checkcastNull X hx (g := mkF m pc Ls (.null :: rest)) rfl rfl (hb hby hd) t r
theorem ni_of {C C0 : String} {y z : MethodName} (w5 : (Jvm.Cond.selects C y z).before a0 Z = true) (e : z.cls = C0) (s : State) (hZ : Z.Warmed39 s.vm) : ∃ c k, s.vm.findClass C0 = some c ∧ s.vm.classes[c]? = some k ∧ k.isInterface = false := by
  subst e
  obtain ⟨c2, r2, m2, -, -, q3, -, kP, hkP, hkPi⟩ := Cond.selects_spec (mvT (args := #[]) (s := s) hZ w5)
  exact ⟨_, kP, findClass_of_methodNamed q3, hkP, hkPi⟩
theorem Rn.callP {ix : Nat} {C0 : String} {y : MethodName} {yb : ByteArray} {yl : Nat} {yr : Option FieldType} {rm : Room} {as : Array Value} {ws' : List Addr} {Q' : Option Value → Heap → Prop} {a : Addr} {argsL : List Value} {st : List Value}
    (C : Ct Z y yb yl yr rm as h ws' Q') (E : Exa Z h a C0) (w1 : (Jvm.Cond.methodLink own ix y).before a0 Z = true) (w6 : (Jvm.Cond.instanceMethod y).before a0 Z = true) (w7 : (Jvm.Cond.privateMethod y).before a0 Z = true) (ni : ∀ s : State, Z.Warmed39 s.vm → ∃ c k, s.vm.findClass y.cls = some c ∧ s.vm.classes[c]? = some k ∧ k.isInterface = false) (w3 : (Jvm.Cond.initialized y.cls).before a0 Z = true) (w4 : (Jvm.Cond.code y yb yl yr).before a0 Z = true) (hy : y.cls ≠ "java/lang/invoke/MethodHandle" ∧ y.cls ≠ "java/lang/invoke/VarHandle")
    (hst : st = argsL.reverse ++ .ref a :: rest) (has : (.ref a :: argsL).toArray = as) (hlen : ∀ sig, parseMethodDescriptor y.desc = some sig → argsL.length = sig.parameters.length) (hsz : Ls.size = ml) (hd : decode bytes pc = .ok (.invokevirtual ix, 3)) (hp : pc + 3 = pc')
    (hf : rm.frames + 1 ≤ R.frames) (hl : (rest.map fun v => v.category).sum + (yl + 11) + rm.locals ≤ R.locals) (hc : cells + rm.cells ≤ R.cells) (hs : slots + rm.slots ≤ R.slots) (hws : ∀ x ∈ ws', x ∈ ws ∨ hS.size ≤ x) (hsf : ∀ x ∈ ws', Sf w Z EL os h x)
    (k : ∀ v h', Keep h h' ws' → Q' v h' → Rn w Z EL own nm bytes ml ret R hS ws Q os (cells + rm.cells) (slots + rm.slots) h' pc' Ls (v.toList ++ rest)) : Rn w Z EL own nm bytes ml ret R hS ws Q os cells slots h pc Ls st := by
  refine Rn.called hws hsf k fun p l e s m args below meth c T locs hx hby hml X hZ hown eT hO hge => ?_
  obtain ⟨cl, e1, e2⟩ := E.cell
  obtain ⟨c9, k9, z1, z2, z3⟩ := ni s hZ
  have hpv : s.PrivateAt y := Cond.privateMethod_at (mvP (args := #[]) hZ w7)
  have hin : (Jvm.Cond.instanceMethod y).before args s = true := mvT hZ w6
  have hsel : (Jvm.Cond.selects y.cls y y).before args s = true := selects_self_of_private z1 z2 z3 hpv hin hy
  obtain ⟨v, vm1, B, -, X', ⟨L, q⟩, stp⟩ := X.privateBack hx (y := y) hown (mvT hZ w1) hin hsel hpv (mvT hZ w4) hy (backOf (W := (rest.map fun v => v.category).sum) (Q := fun v h2 L => Fr Z.heap.size L ∧ Keep h h2 ws' ∧ Q' v h2) (C hO hge l) hZ w4 w3 hf hl) (g := mkF m pc Ls st) rfl (hsz.trans hml.symm) (Steps.refl _) (a := a) (cell := cl) (by rw [eT]; exact e1) e2 (argsL := argsL) (rest := rest) hlen hst (by show 2 * 0 + _ ≤ _; omega) (hb hby hd) (fun _ _ => ⟨has, eT, hc, hs⟩)
  subst hp
  exact ⟨v, B, X', ⟨L, q⟩, fun t r => stp.trans r⟩
/-- 'anewarray' of an array type -/
theorem Rn.newRA {ix : Nat} {n : Int32} {cap : Nat} {ty : FieldType} {C ad : String} (w1 : (Jvm.Cond.classLink own ix C).before a0 Z = true) (w2 : (Jvm.Cond.arrayOver (.array ty)).before a0 Z = true) (hC : (FieldType.array ty).toString = C) (had : "[" ++ C = ad) (hd : decode bytes pc = .ok (.anewarray ix, 3)) (hn : ¬ n < 0) (hcap : n.toNatClampNeg ≤ cap) (hb8 : cap * 8 ≤ 536870912) (hc : cells + 1 ≤ R.cells) (hs : slots + cap ≤ R.slots) (hp : pc + 3 = pc')
    (k : ∀ h' a, a = h.size → hS.size ≤ a → Ext h h' → (Ax Z h' a (.array ty) (List.replicate n.toNatClampNeg .null) ∧ Exa Z h' a ad ∧ ∀ y, ∀ {h2 : Heap} {vs : List Value}, Ax Z h2 a (.array ty) vs → (∃ cl, h2[a]? = some cl ∧ ∃ cl', h'[a]? = some cl' ∧ cl.cls = cl'.cls) → Ins Z h2 y C true → Sto Z h2 a (.ref y)) → Rn w Z EL own nm bytes ml ret R hS ws Q (a :: os) (cells + 1) (slots + cap) h' pc' Ls (.ref a :: rest)) : Rn w Z EL own nm bytes ml ret R hS ws Q os cells slots h pc Ls (.int n :: rest) := by
  refine Rn.made (G := fun h' a => Ax Z h' a (.array ty) (List.replicate n.toNatClampNeg .null) ∧ Exa Z h' a ad ∧ ∀ y, ∀ {h2 : Heap} {vs : List Value}, Ax Z h2 a (.array ty) vs → (∃ cl, h2[a]? = some cl ∧ ∃ cl', h'[a]? = some cl' ∧ cl.cls = cl'.cls) → Ins Z h2 y C true → Sto Z h2 a (.ref y)) (st' := fun a => .ref a :: rest) (st := fun _ => rest) k (fun h' g => g.1.lt) fun p l e s m args below meth c T locs hx hby X hZ hown eT => ?_
  subst hp
  obtain ⟨T', h', cA, X', e', E, A, B, O, st⟩ := Jvm.RoadKit.newRA X hx hZ hown hC w1 w2 eT (g := mkF m pc Ls (.int n :: rest)) rfl (hb hby hd) rfl hn hcap hb8 hc hs had
  refine ⟨T', h', X', e', E, ⟨Ax.new A hn, B, fun y h2 vs A2 ⟨cl, q1, cl', q2, q3⟩ I => ?_⟩, st⟩
  obtain ⟨c2, A3, -⟩ := A2
  cases q1.symm.trans A3.1
  cases q2.symm.trans A.1
  exact Sto.ofVA A3 q3 O I
/-- 'System.arraycopy' between arrays of one primitive type (or one array and itself) -/
theorem Rn.arraycopy {ix : Nat} {a b : Addr} {ty : FieldType} {vs vd vs' : List Value} {sp dp nn : Int32} (A : Ax Z h a ty vs) (B : Ax Z h b ty vd) (fa : ∀ x ∈ vs, fits ty x = true) (fb : ∀ x ∈ vd, fits ty x = true) (hty : refKind ty = false)
    (w1 : (Jvm.Cond.methodLink own ix Jvm.Stand.acN).before a0 Z = true) (w2 : (Jvm.Cond.native Jvm.Stand.acN).before a0 Z = true) (w3 : (Jvm.Cond.static Jvm.Stand.acN).before a0 Z = true) (w4 : (Jvm.Cond.initialized "java/lang/System").before a0 Z = true)
    (h1 : ¬ sp < 0) (h2 : ¬ dp < 0) (h3 : ¬ nn < 0) (h4 : sp.toNatClampNeg + nn.toNatClampNeg ≤ vs.length) (h5 : dp.toNatClampNeg + nn.toNatClampNeg ≤ vd.length)
    (hv : vd.take dp.toNatClampNeg ++ (List.range nn.toNatClampNeg).map (fun i => vs.getD (sp.toNatClampNeg + i) (.int 0)) ++ vd.drop (dp.toNatClampNeg + nn.toNatClampNeg) = vs')
    (hsz : Ls.size = ml) (hd : decode bytes pc = .ok (.invokestatic ix, 3)) (hf : 1 ≤ R.frames) (hl : (rest.map fun v => v.category).sum + 18 ≤ R.locals) (q : b ∈ ws ∨ hS.size ≤ b) (sf : Sf w Z EL os h b) (hp : pc + 3 = pc')
    (k : ∀ h', Keep h h' [b] → Ax Z h' b ty vs' → Rn w Z EL own nm bytes ml ret R hS ws Q os cells slots h' pc' Ls rest) : Rn w Z EL own nm bytes ml ret R hS ws Q os cells slots h pc Ls (.int nn :: .int dp :: .ref b :: .int sp :: .ref a :: rest) := by
  intro p l e s vm0 m args below meth c T locs ok X sn fr K O eT
  have hlen : ∀ {xs : List Value}, xs.length < 2 ^ 31 → (Int32.ofNat xs.length).toNatClampNeg = xs.length ∧ ¬ Int32.ofNat xs.length < 0 := fun {xs} hx => by
    have e1 : (Int32.ofNat xs.length).toInt = xs.length := Int32.toInt_ofNat_of_lt hx
    refine ⟨by simp [Int32.toNatClampNeg, e1], ?_⟩
    rw [Int32.lt_iff_toInt_lt, e1]; have : (0 : Int32).toInt = 0 := rfl; omega
  obtain ⟨la, na⟩ := hlen (xs := vs) (by obtain ⟨_, _, _, z⟩ := A; exact z)
  obtain ⟨lb, nb⟩ := hlen (xs := vd) (by obtain ⟨_, _, _, z⟩ := B; exact z)
  obtain ⟨ka, Aa⟩ := A.arv (d := .int 0) fa _ la na
  obtain ⟨kb, Bb⟩ := B.arv (d := .int 0) fb _ lb nb
  obtain ⟨T', h', L, X', e', N', K', A', stp⟩ := cpA X ok.1 ok.2.2.2.1 ok.2.2.2.2.1 w1 w2 w3 w4 eT Aa Bb (Or.inl ⟨rfl, hty⟩) h1 h2 h3 (by rw [la]; exact h4) (by rw [lb]; exact h5) rfl h5 fr (ge_of O q) (g := mkF m pc Ls (.int nn :: .int dp :: .ref b :: .int sp :: .ref a :: rest)) rfl (hsz.trans ok.2.2.1.symm) rfl (hb ok.2.1 hd) hf (W := (rest.map fun v => v.category).sum) (by show 2 * 0 + _ ≤ _; omega) hl
  have A2 : Ax Z h' b ty vs' := by
    rw [← hv]
    refine Ax.ofArv A' ?_
    simp only [List.length_append, List.length_take, List.length_map, List.length_range, List.length_drop]; omega
  subst hp
  exact (k h' K' A2 p l e s vm0 m args below meth c T' L ok X' (sn.keep ok.2.2.2.1 K' fun x hx => by cases List.mem_singleton.mp hx; exact sf) N' (K.trans K' fun x hx => by cases List.mem_singleton.mp hx; exact q) O e').pre stp
end Objs3
theorem ns_root {Z : State} {a0 : Array Value} {O K : String} {n : Nat} (w : (Jvm.Cond.noSuperclass O).before a0 Z = true) (wi : (Jvm.Cond.instantiable K n).before a0 Z = true) (hn : O ≠ K) : NS Z O K := by
  obtain ⟨c, k, h1, h2, h3, -, -⟩ := Cond.noSuperclass_spec w
  obtain ⟨t, kt, g1, -⟩ := Cond.instantiable_spec wi
  have ne := ids_ne h1 g1 hn
  refine ⟨c, t, h1, g1, fun fuel => ?_⟩
  cases fuel with
  | zero => rfl
  | succ f => simp [Vm.isSubclassAux, ne, h2, h3]
theorem ns_no {Z : State} {a0 : Array Value} {C S K : String} {n : Nat} (w : (Jvm.Cond.superclass C S).before a0 Z = true) (wi : (Jvm.Cond.instantiable K n).before a0 Z = true) (nn : NS Z C K) (hn : C ≠ K) : ∃ c t, Z.vm.findClass C = some c ∧ Z.vm.findClass K = some t ∧ Z.vm.assignable c t = false := by
  obtain ⟨c, t, h0, g0, n3⟩ := nn
  obtain ⟨p, k, kp, h1, h2, h3, h4, h5, -, h7⟩ := Cond.superclass_spec h0 w
  obtain ⟨t', k', g1, g2, g5, g7, -⟩ := Cond.instantiable_spec wi
  cases g0.symm.trans g1
  have g8 : k'.isInterface = false := by cases q : k'.isInterface <;> simp [q] at g7 ⊢
  have ne := ids_ne h0 g0 hn
  refine ⟨c, t, h0, g0, ?_⟩
  show Z.vm.assignableAux (255 + 1) c t = false
  simp [Vm.assignableAux, ne, h2, g2, h5, g5, g8, Vm.isSubclass, n3]
theorem pd_0 : parseMethodDescriptor "()V" = some ⟨[], none⟩ := by decide +kernel
theorem pd_1 : parseMethodDescriptor "(IIIIII)[D" = some ⟨[.int, .int, .int, .int, .int, .int], some (.array .double)⟩ := by decide +kernel
theorem pd_2 : parseMethodDescriptor "([DD[D)V" = some ⟨[(.array .double), .double, (.array .double)], none⟩ := by decide +kernel
theorem pd_3 : parseMethodDescriptor "()[D" = some ⟨[], some (.array .double)⟩ := by decide +kernel
theorem pn_0 : plainName "com/example/ratecraft/ratecraft/ValuationRelativeValuesPinLaw" = true := by first | (simp [plainName, overriddenIn]; done) | decide +kernel
theorem pn_1 : plainName "java/lang/Record" = true := by first | (simp [plainName, overriddenIn]; done) | decide +kernel
theorem pn_2 : plainName "com/example/ratecraft/ratecraft/OccupancyModel$Valuation" = true := by first | (simp [plainName, overriddenIn]; done) | decide +kernel
theorem own_b53 {s : Int64} (h : -34359738368 ≤ s.toInt ∧ s.toInt ≤ 34359738368) : B53 s := by unfold B53; omega
theorem own_dadd {s : Int64} {g : Int32} (h : -34359738368 ≤ s.toInt ∧ s.toInt ≤ 34359738368) : FP.dadd (FP.l2d s) (FP.i2d g) = FP.l2d (s + g.toInt64) := by
  rw [i2d_w g]; refine dadd_w (own_b53 h) (own_b53 ?_); rw [Int32.toInt_toInt64]; have := rng32 g; omega
theorem own_dadd0 (g : Int32) : FP.dadd (0 : UInt64) (FP.i2d g) = FP.l2d g.toInt64 := by
  rw [← l2d_zero, own_dadd (by decide)]; congr 1; exact Int64.zero_add _
theorem own_s1 (g : Int32) : -2147483648 ≤ g.toInt64.toInt ∧ g.toInt64.toInt ≤ 2147483648 := by rw [Int32.toInt_toInt64]; have := rng32 g; omega
theorem own_s {s : Int64} {g : Int32} {B : Int} (h : -B ≤ s.toInt ∧ s.toInt ≤ B) (hB : B < 34359738368) : -(B + 2147483648) ≤ (s + g.toInt64).toInt ∧ (s + g.toInt64).toInt ≤ B + 2147483648 := by
  have q := own_s1 g
  have c := c_ladd s g.toInt64
  have r := rng64 (s + g.toInt64)
  omega
theorem own_w {s : Int64} {B : Int} (h : -B ≤ s.toInt ∧ s.toInt ≤ B) (hB : B ≤ 34359738368) : -34359738368 ≤ s.toInt ∧ s.toInt ≤ 34359738368 := by omega
theorem own_self (x : Int64) (o : CmpOp) : cmpValue (FP.dcmp (FP.l2d x) (FP.l2d x)) o = 0 := dcmpV_self (Jvm.Free.Fl.l2d_fin x).noNaN o
theorem own_selfi (x : Int32) (o : CmpOp) : cmpValue (FP.dcmp (FP.i2d x) (FP.i2d x)) o = 0 := dcmpV_self (Jvm.Free.Fl.i2d_fin x).noNaN o
theorem own_self0 : cmpValue (FP.dcmp 0 (FP.l2d 0)) .l = 0 := by decide +kernel
theorem own_c4 (k : Int32) : ∃ c, (1 : Int32) + (k &&& (3 : Int32)) = c ∧ (c = 1 ∨ c = 2 ∨ c = 3 ∨ c = 4) := by
  refine ⟨_, rfl, ?_⟩
  have h := c_and k 3 (by decide)
  have e3 : (3 : Int32).toInt = 3 := rfl
  rw [e3] at h
  have t : ∀ j : Int32, (k &&& (3 : Int32)).toInt = j.toInt → (k &&& (3 : Int32)) = j := fun j q => Int32.toInt_inj.mp q
  rcases (by omega : (k &&& (3 : Int32)).toInt = 0 ∨ (k &&& (3 : Int32)).toInt = 1 ∨ (k &&& (3 : Int32)).toInt = 2 ∨ (k &&& (3 : Int32)).toInt = 3) with q | q | q | q
  · rw [t 0 q]; exact Or.inl rfl
  · rw [t 1 q]; exact Or.inr (Or.inl rfl)
  · rw [t 2 q]; exact Or.inr (Or.inr (Or.inl rfl))
  · rw [t 3 q]; exact Or.inr (Or.inr (Or.inr rfl))
theorem d0_0 : decode method_3_code 0 = .ok (.iload_n 0, 1) := by decide +kernel
theorem d0_1 : decode method_3_code 1 = .ok (.iconst 1, 1) := by decide +kernel
theorem d0_2 : decode method_3_code 2 = .ok (.if_icmp .ne 12, 3) := by decide +kernel
theorem d0_5 : decode method_3_code 5 = .ok (.iconst 1, 1) := by decide +kernel
theorem d0_6 : decode method_3_code 6 = .ok (.newarray .double, 2) := by decide +kernel
theorem d0_8 : decode method_3_code 8 = .ok (.dup, 1) := by decide +kernel
theorem d0_9 : decode method_3_code 9 = .ok (.iconst 0, 1) := by decide +kernel
theorem d0_10 : decode method_3_code 10 = .ok (.iload_n 1, 1) := by decide +kernel
theorem d0_11 : decode method_3_code 11 = .ok (.i2d, 1) := by decide +kernel
theorem d0_12 : decode method_3_code 12 = .ok (.dastore, 1) := by decide +kernel
theorem d0_13 : decode method_3_code 13 = .ok (.areturn, 1) := by decide +kernel
theorem d0_14 : decode method_3_code 14 = .ok (.iload_n 0, 1) := by decide +kernel
theorem d0_15 : decode method_3_code 15 = .ok (.iconst 2, 1) := by decide +kernel
theorem d0_16 : decode method_3_code 16 = .ok (.if_icmp .ne 17, 3) := by decide +kernel
theorem d0_19 : decode method_3_code 19 = .ok (.iconst 2, 1) := by decide +kernel
theorem d0_20 : decode method_3_code 20 = .ok (.newarray .double, 2) := by decide +kernel
theorem d0_22 : decode method_3_code 22 = .ok (.dup, 1) := by decide +kernel
theorem d0_23 : decode method_3_code 23 = .ok (.iconst 0, 1) := by decide +kernel
theorem d0_24 : decode method_3_code 24 = .ok (.iload_n 1, 1) := by decide +kernel
theorem d0_25 : decode method_3_code 25 = .ok (.i2d, 1) := by decide +kernel
theorem d0_26 : decode method_3_code 26 = .ok (.dastore, 1) := by decide +kernel
theorem d0_27 : decode method_3_code 27 = .ok (.dup, 1) := by decide +kernel
theorem d0_28 : decode method_3_code 28 = .ok (.iconst 1, 1) := by decide +kernel
theorem d0_29 : decode method_3_code 29 = .ok (.iload_n 2, 1) := by decide +kernel
theorem d0_30 : decode method_3_code 30 = .ok (.i2d, 1) := by decide +kernel
theorem d0_31 : decode method_3_code 31 = .ok (.dastore, 1) := by decide +kernel
theorem d0_32 : decode method_3_code 32 = .ok (.areturn, 1) := by decide +kernel
theorem d0_33 : decode method_3_code 33 = .ok (.iload_n 0, 1) := by decide +kernel
theorem d0_34 : decode method_3_code 34 = .ok (.iconst 3, 1) := by decide +kernel
theorem d0_35 : decode method_3_code 35 = .ok (.if_icmp .ne 22, 3) := by decide +kernel
theorem d0_38 : decode method_3_code 38 = .ok (.iconst 3, 1) := by decide +kernel
theorem d0_39 : decode method_3_code 39 = .ok (.newarray .double, 2) := by decide +kernel
theorem d0_41 : decode method_3_code 41 = .ok (.dup, 1) := by decide +kernel
theorem d0_42 : decode method_3_code 42 = .ok (.iconst 0, 1) := by decide +kernel
theorem d0_43 : decode method_3_code 43 = .ok (.iload_n 1, 1) := by decide +kernel
theorem d0_44 : decode method_3_code 44 = .ok (.i2d, 1) := by decide +kernel
theorem d0_45 : decode method_3_code 45 = .ok (.dastore, 1) := by decide +kernel
theorem d0_46 : decode method_3_code 46 = .ok (.dup, 1) := by decide +kernel
theorem d0_47 : decode method_3_code 47 = .ok (.iconst 1, 1) := by decide +kernel
theorem d0_48 : decode method_3_code 48 = .ok (.iload_n 2, 1) := by decide +kernel
theorem d0_49 : decode method_3_code 49 = .ok (.i2d, 1) := by decide +kernel
theorem d0_50 : decode method_3_code 50 = .ok (.dastore, 1) := by decide +kernel
theorem d0_51 : decode method_3_code 51 = .ok (.dup, 1) := by decide +kernel
theorem d0_52 : decode method_3_code 52 = .ok (.iconst 2, 1) := by decide +kernel
theorem d0_53 : decode method_3_code 53 = .ok (.iload_n 3, 1) := by decide +kernel
theorem d0_54 : decode method_3_code 54 = .ok (.i2d, 1) := by decide +kernel
theorem d0_55 : decode method_3_code 55 = .ok (.dastore, 1) := by decide +kernel
theorem d0_56 : decode method_3_code 56 = .ok (.areturn, 1) := by decide +kernel
theorem d0_57 : decode method_3_code 57 = .ok (.iload_n 0, 1) := by decide +kernel
theorem d0_58 : decode method_3_code 58 = .ok (.iconst 4, 1) := by decide +kernel
theorem d0_59 : decode method_3_code 59 = .ok (.if_icmp .ne 28, 3) := by decide +kernel
theorem d0_62 : decode method_3_code 62 = .ok (.iconst 4, 1) := by decide +kernel
theorem d0_63 : decode method_3_code 63 = .ok (.newarray .double, 2) := by decide +kernel
theorem d0_65 : decode method_3_code 65 = .ok (.dup, 1) := by decide +kernel
theorem d0_66 : decode method_3_code 66 = .ok (.iconst 0, 1) := by decide +kernel
theorem d0_67 : decode method_3_code 67 = .ok (.iload_n 1, 1) := by decide +kernel
theorem d0_68 : decode method_3_code 68 = .ok (.i2d, 1) := by decide +kernel
theorem d0_69 : decode method_3_code 69 = .ok (.dastore, 1) := by decide +kernel
theorem d0_70 : decode method_3_code 70 = .ok (.dup, 1) := by decide +kernel
theorem d0_71 : decode method_3_code 71 = .ok (.iconst 1, 1) := by decide +kernel
theorem d0_72 : decode method_3_code 72 = .ok (.iload_n 2, 1) := by decide +kernel
theorem d0_73 : decode method_3_code 73 = .ok (.i2d, 1) := by decide +kernel
theorem d0_74 : decode method_3_code 74 = .ok (.dastore, 1) := by decide +kernel
theorem d0_75 : decode method_3_code 75 = .ok (.dup, 1) := by decide +kernel
theorem d0_76 : decode method_3_code 76 = .ok (.iconst 2, 1) := by decide +kernel
theorem d0_77 : decode method_3_code 77 = .ok (.iload_n 3, 1) := by decide +kernel
theorem d0_78 : decode method_3_code 78 = .ok (.i2d, 1) := by decide +kernel
theorem d0_79 : decode method_3_code 79 = .ok (.dastore, 1) := by decide +kernel
theorem d0_80 : decode method_3_code 80 = .ok (.dup, 1) := by decide +kernel
theorem d0_81 : decode method_3_code 81 = .ok (.iconst 3, 1) := by decide +kernel
theorem d0_82 : decode method_3_code 82 = .ok (.iload 4, 2) := by decide +kernel
theorem d0_84 : decode method_3_code 84 = .ok (.i2d, 1) := by decide +kernel
theorem d0_85 : decode method_3_code 85 = .ok (.dastore, 1) := by decide +kernel
theorem d0_86 : decode method_3_code 86 = .ok (.areturn, 1) := by decide +kernel
theorem d0_87 : decode method_3_code 87 = .ok (.iconst 5, 1) := by decide +kernel
theorem d0_88 : decode method_3_code 88 = .ok (.newarray .double, 2) := by decide +kernel
theorem d0_90 : decode method_3_code 90 = .ok (.dup, 1) := by decide +kernel
theorem d0_91 : decode method_3_code 91 = .ok (.iconst 0, 1) := by decide +kernel
theorem d0_92 : decode method_3_code 92 = .ok (.iload_n 1, 1) := by decide +kernel
theorem d0_93 : decode method_3_code 93 = .ok (.i2d, 1) := by decide +kernel
theorem d0_94 : decode method_3_code 94 = .ok (.dastore, 1) := by decide +kernel
theorem d0_95 : decode method_3_code 95 = .ok (.dup, 1) := by decide +kernel
theorem d0_96 : decode method_3_code 96 = .ok (.iconst 1, 1) := by decide +kernel
theorem d0_97 : decode method_3_code 97 = .ok (.iload_n 2, 1) := by decide +kernel
theorem d0_98 : decode method_3_code 98 = .ok (.i2d, 1) := by decide +kernel
theorem d0_99 : decode method_3_code 99 = .ok (.dastore, 1) := by decide +kernel
theorem d0_100 : decode method_3_code 100 = .ok (.dup, 1) := by decide +kernel
theorem d0_101 : decode method_3_code 101 = .ok (.iconst 2, 1) := by decide +kernel
theorem d0_102 : decode method_3_code 102 = .ok (.iload_n 3, 1) := by decide +kernel
theorem d0_103 : decode method_3_code 103 = .ok (.i2d, 1) := by decide +kernel
theorem d0_104 : decode method_3_code 104 = .ok (.dastore, 1) := by decide +kernel
theorem d0_105 : decode method_3_code 105 = .ok (.dup, 1) := by decide +kernel
theorem d0_106 : decode method_3_code 106 = .ok (.iconst 3, 1) := by decide +kernel
theorem d0_107 : decode method_3_code 107 = .ok (.iload 4, 2) := by decide +kernel
theorem d0_109 : decode method_3_code 109 = .ok (.i2d, 1) := by decide +kernel
theorem d0_110 : decode method_3_code 110 = .ok (.dastore, 1) := by decide +kernel
theorem d0_111 : decode method_3_code 111 = .ok (.dup, 1) := by decide +kernel
theorem d0_112 : decode method_3_code 112 = .ok (.iconst 4, 1) := by decide +kernel
theorem d0_113 : decode method_3_code 113 = .ok (.iload 5, 2) := by decide +kernel
theorem d0_115 : decode method_3_code 115 = .ok (.i2d, 1) := by decide +kernel
theorem d0_116 : decode method_3_code 116 = .ok (.dastore, 1) := by decide +kernel
theorem d0_117 : decode method_3_code 117 = .ok (.areturn, 1) := by decide +kernel
set_option maxRecDepth 65536 in
set_option maxHeartbeats 40000000 in
theorem ct_mk1 (Z : State) (a0 : Array Value) (hw : ∀ d ∈ tables_1, d.before a0 Z = true) (g0 g1 g2 g3 g4 : Int32) (h0 : Heap) :
    Ct Z ⟨"com/example/ratecraft/ratecraft/ValuationRelativeValuesPinLaw", "make", "(IIIIII)[D"⟩ method_3_code 6 (Option.some (FieldType.array FieldType.double)) ({ frames := 0, cells := 1, slots := 1, locals := 0 } : Room) #[(.int (1 : Int32)), (.int g0), (.int g1), (.int g2), (.int g3), (.int g4)] h0 [] (fun v h => ∃ t, v = some (.ref t) ∧ h0.size ≤ t ∧ Ax Z h t .double [.double (FP.i2d g0)]) := by
  refine Ct.intro (Ls := #[.val (.int (1 : Int32)), .val (.int g0), .val (.int g1), .val (.int g2), .val (.int g3), .val (.int g4)]) pn_0 (by intro m; first | (simp [entryFrame, mkF, argsToLocals, Value.category]; done) | rfl) ?_
  refine Rn.iloadN (pc' := 1) d0_0 rfl rfl ?_
  refine Rn.iconst (pc' := 2) (v := (1 : Int32)) d0_1 rfl rfl ?_
  refine Rn.icmp_ne (pc' := 14) (pn := 5) d0_2 (by decide) (by decide) rfl (fun c1 => absurd c1 (by decide)) (fun c1 => ?_)
  refine Rn.iconst (pc' := 6) (v := (1 : Int32)) d0_5 rfl rfl ?_
  refine Rn.newP (pc' := 8) (cap := 1) (ty := .double) (ad := "[D") (hw _ (List.mem_of_getElem? (i := 4) rfl)) rfl rfl d0_6 (by decide) (Nat.le_of_ble_eq_true rfl) (by decide) (Nat.le_of_ble_eq_true rfl) (Nat.le_of_ble_eq_true rfl) rfl (fun h3 a2 e4 g5 E6 ⟨A7, B8⟩ => ?_)
  have A9 : Ax Z h3 a2 .double ([.double (0 : UInt64)]) := A7
  refine Rn.dup (pc' := 9) d0_8 rfl rfl ?_
  refine Rn.iconst (pc' := 10) (v := (0 : Int32)) d0_9 rfl rfl ?_
  refine Rn.iloadN (pc' := 11) d0_10 rfl rfl ?_
  refine Rn.i2d (pc' := 12) (v := (FP.i2d g0)) d0_11 rfl rfl ?_
  refine Rn.dastore (pc' := 13) (v := .double (FP.i2d g0)) A9 (by decide) (Nat.le_of_ble_eq_true rfl) rfl (Or.inr g5) Sf.no d0_12 rfl (fun h11 W10 A12 => ?_)
  have A13 : Ax Z h11 a2 .double ([.double (FP.i2d g0)]) := A12
  refine Rn.retA (t := (.array .double)) rfl rfl rfl d0_13 (Nat.le_of_ble_eq_true rfl) (Nat.le_of_ble_eq_true rfl) ?_
  exact ⟨_, rfl, g5, A13⟩
set_option maxRecDepth 65536 in
set_option maxHeartbeats 40000000 in
theorem ct_mk2 (Z : State) (a0 : Array Value) (hw : ∀ d ∈ tables_1, d.before a0 Z = true) (g0 g1 g2 g3 g4 : Int32) (h0 : Heap) :
    Ct Z ⟨"com/example/ratecraft/ratecraft/ValuationRelativeValuesPinLaw", "make", "(IIIIII)[D"⟩ method_3_code 6 (Option.some (FieldType.array FieldType.double)) ({ frames := 0, cells := 1, slots := 2, locals := 0 } : Room) #[(.int (2 : Int32)), (.int g0), (.int g1), (.int g2), (.int g3), (.int g4)] h0 [] (fun v h => ∃ t, v = some (.ref t) ∧ h0.size ≤ t ∧ Ax Z h t .double [.double (FP.i2d g0), .double (FP.i2d g1)]) := by
  refine Ct.intro (Ls := #[.val (.int (2 : Int32)), .val (.int g0), .val (.int g1), .val (.int g2), .val (.int g3), .val (.int g4)]) pn_0 (by intro m; first | (simp [entryFrame, mkF, argsToLocals, Value.category]; done) | rfl) ?_
  refine Rn.iloadN (pc' := 1) d0_0 rfl rfl ?_
  refine Rn.iconst (pc' := 2) (v := (1 : Int32)) d0_1 rfl rfl ?_
  refine Rn.icmp_ne (pc' := 14) (pn := 5) d0_2 (by decide) (by decide) rfl (fun c1 => ?_) (fun c1 => absurd c1 (by decide))
  refine Rn.iloadN (pc' := 15) d0_14 rfl rfl ?_
  refine Rn.iconst (pc' := 16) (v := (2 : Int32)) d0_15 rfl rfl ?_
  refine Rn.icmp_ne (pc' := 33) (pn := 19) d0_16 (by decide) (by decide) rfl (fun c2 => absurd c2 (by decide)) (fun c2 => ?_)
  refine Rn.iconst (pc' := 20) (v := (2 : Int32)) d0_19 rfl rfl ?_
  refine Rn.newP (pc' := 22) (cap := 2) (ty := .double) (ad := "[D") (hw _ (List.mem_of_getElem? (i := 4) rfl)) rfl rfl d0_20 (by decide) (Nat.le_of_ble_eq_true rfl) (by decide) (Nat.le_of_ble_eq_true rfl) (Nat.le_of_ble_eq_true rfl) rfl (fun h4 a3 e5 g6 E7 ⟨A8, B9⟩ => ?_)
  have A10 : Ax Z h4 a3 .double ([.double (0 : UInt64), .double (0 : UInt64)]) := A8
  refine Rn.dup (pc' := 23) d0_22 rfl rfl ?_
  refine Rn.iconst (pc' := 24) (v := (0 : Int32)) d0_23 rfl rfl ?_
  refine Rn.iloadN (pc' := 25) d0_24 rfl rfl ?_
  refine Rn.i2d (pc' := 26) (v := (FP.i2d g0)) d0_25 rfl rfl ?_
  refine Rn.dastore (pc' := 27) (v := .double (FP.i2d g0)) A10 (by decide) (Nat.le_of_ble_eq_true rfl) rfl (Or.inr g6) Sf.no d0_26 rfl (fun h12 W11 A13 => ?_)
  have A14 : Ax Z h12 a3 .double ([.double (FP.i2d g0), .double (0 : UInt64)]) := A13
  refine Rn.dup (pc' := 28) d0_27 rfl rfl ?_
  refine Rn.iconst (pc' := 29) (v := (1 : Int32)) d0_28 rfl rfl ?_
  refine Rn.iloadN (pc' := 30) d0_29 rfl rfl ?_
  refine Rn.i2d (pc' := 31) (v := (FP.i2d g1)) d0_30 rfl rfl ?_
  refine Rn.dastore (pc' := 32) (v := .double (FP.i2d g1)) A14 (by decide) (Nat.le_of_ble_eq_true rfl) rfl (Or.inr g6) Sf.no d0_31 rfl (fun h16 W15 A17 => ?_)
  have A18 : Ax Z h16 a3 .double ([.double (FP.i2d g0), .double (FP.i2d g1)]) := A17
  refine Rn.retA (t := (.array .double)) rfl rfl rfl d0_32 (Nat.le_of_ble_eq_true rfl) (Nat.le_of_ble_eq_true rfl) ?_
  exact ⟨_, rfl, g6, A18⟩
set_option maxRecDepth 65536 in
set_option maxHeartbeats 40000000 in
theorem ct_mk3 (Z : State) (a0 : Array Value) (hw : ∀ d ∈ tables_1, d.before a0 Z = true) (g0 g1 g2 g3 g4 : Int32) (h0 : Heap) :
    Ct Z ⟨"com/example/ratecraft/ratecraft/ValuationRelativeValuesPinLaw", "make", "(IIIIII)[D"⟩ method_3_code 6 (Option.some (FieldType.array FieldType.double)) ({ frames := 0, cells := 1, slots := 3, locals := 0 } : Room) #[(.int (3 : Int32)), (.int g0), (.int g1), (.int g2), (.int g3), (.int g4)] h0 [] (fun v h => ∃ t, v = some (.ref t) ∧ h0.size ≤ t ∧ Ax Z h t .double [.double (FP.i2d g0), .double (FP.i2d g1), .double (FP.i2d g2)]) := by
  refine Ct.intro (Ls := #[.val (.int (3 : Int32)), .val (.int g0), .val (.int g1), .val (.int g2), .val (.int g3), .val (.int g4)]) pn_0 (by intro m; first | (simp [entryFrame, mkF, argsToLocals, Value.category]; done) | rfl) ?_
  refine Rn.iloadN (pc' := 1) d0_0 rfl rfl ?_
  refine Rn.iconst (pc' := 2) (v := (1 : Int32)) d0_1 rfl rfl ?_
  refine Rn.icmp_ne (pc' := 14) (pn := 5) d0_2 (by decide) (by decide) rfl (fun c1 => ?_) (fun c1 => absurd c1 (by decide))
  refine Rn.iloadN (pc' := 15) d0_14 rfl rfl ?_
  refine Rn.iconst (pc' := 16) (v := (2 : Int32)) d0_15 rfl rfl ?_
  refine Rn.icmp_ne (pc' := 33) (pn := 19) d0_16 (by decide) (by decide) rfl (fun c2 => ?_) (fun c2 => absurd c2 (by decide))
  refine Rn.iloadN (pc' := 34) d0_33 rfl rfl ?_
  refine Rn.iconst (pc' := 35) (v := (3 : Int32)) d0_34 rfl rfl ?_
  refine Rn.icmp_ne (pc' := 57) (pn := 38) d0_35 (by decide) (by decide) rfl (fun c3 => absurd c3 (by decide)) (fun c3 => ?_)
  refine Rn.iconst (pc' := 39) (v := (3 : Int32)) d0_38 rfl rfl ?_
  refine Rn.newP (pc' := 41) (cap := 3) (ty := .double) (ad := "[D") (hw _ (List.mem_of_getElem? (i := 4) rfl)) rfl rfl d0_39 (by decide) (Nat.le_of_ble_eq_true rfl) (by decide) (Nat.le_of_ble_eq_true rfl) (Nat.le_of_ble_eq_true rfl) rfl (fun h5 a4 e6 g7 E8 ⟨A9, B10⟩ => ?_)
  have A11 : Ax Z h5 a4 .double ([.double (0 : UInt64), .double (0 : UInt64), .double (0 : UInt64)]) := A9
  refine Rn.dup (pc' := 42) d0_41 rfl rfl ?_
  refine Rn.iconst (pc' := 43) (v := (0 : Int32)) d0_42 rfl rfl ?_
  refine Rn.iloadN (pc' := 44) d0_43 rfl rfl ?_
  refine Rn.i2d (pc' := 45) (v := (FP.i2d g0)) d0_44 rfl rfl ?_
  refine Rn.dastore (pc' := 46) (v := .double (FP.i2d g0)) A11 (by decide) (Nat.le_of_ble_eq_true rfl) rfl (Or.inr g7) Sf.no d0_45 rfl (fun h13 W12 A14 => ?_)
  have A15 : Ax Z h13 a4 .double ([.double (FP.i2d g0), .double (0 : UInt64), .double (0 : UInt64)]) := A14
  refine Rn.dup (pc' := 47) d0_46 rfl rfl ?_
  refine Rn.iconst (pc' := 48) (v := (1 : Int32)) d0_47 rfl rfl ?_
  refine Rn.iloadN (pc' := 49) d0_48 rfl rfl ?_
  refine Rn.i2d (pc' := 50) (v := (FP.i2d g1)) d0_49 rfl rfl ?_
  refine Rn.dastore (pc' := 51) (v := .double (FP.i2d g1)) A15 (by decide) (Nat.le_of_ble_eq_true rfl) rfl (Or.inr g7) Sf.no d0_50 rfl (fun h17 W16 A18 => ?_)
  have A19 : Ax Z h17 a4 .double ([.double (FP.i2d g0), .double (FP.i2d g1), .double (0 : UInt64)]) := A18
  refine Rn.dup (pc' := 52) d0_51 rfl rfl ?_
  refine Rn.iconst (pc' := 53) (v := (2 : Int32)) d0_52 rfl rfl ?_
  refine Rn.iloadN (pc' := 54) d0_53 rfl rfl ?_
  refine Rn.i2d (pc' := 55) (v := (FP.i2d g2)) d0_54 rfl rfl ?_
  refine Rn.dastore (pc' := 56) (v := .double (FP.i2d g2)) A19 (by decide) (Nat.le_of_ble_eq_true rfl) rfl (Or.inr g7) Sf.no d0_55 rfl (fun h21 W20 A22 => ?_)
  have A23 : Ax Z h21 a4 .double ([.double (FP.i2d g0), .double (FP.i2d g1), .double (FP.i2d g2)]) := A22
  refine Rn.retA (t := (.array .double)) rfl rfl rfl d0_56 (Nat.le_of_ble_eq_true rfl) (Nat.le_of_ble_eq_true rfl) ?_
  exact ⟨_, rfl, g7, A23⟩
set_option maxRecDepth 65536 in
set_option maxHeartbeats 40000000 in
theorem ct_mk4 (Z : State) (a0 : Array Value) (hw : ∀ d ∈ tables_1, d.before a0 Z = true) (g0 g1 g2 g3 g4 : Int32) (h0 : Heap) :
    Ct Z ⟨"com/example/ratecraft/ratecraft/ValuationRelativeValuesPinLaw", "make", "(IIIIII)[D"⟩ method_3_code 6 (Option.some (FieldType.array FieldType.double)) ({ frames := 0, cells := 1, slots := 4, locals := 0 } : Room) #[(.int (4 : Int32)), (.int g0), (.int g1), (.int g2), (.int g3), (.int g4)] h0 [] (fun v h => ∃ t, v = some (.ref t) ∧ h0.size ≤ t ∧ Ax Z h t .double [.double (FP.i2d g0), .double (FP.i2d g1), .double (FP.i2d g2), .double (FP.i2d g3)]) := by
  refine Ct.intro (Ls := #[.val (.int (4 : Int32)), .val (.int g0), .val (.int g1), .val (.int g2), .val (.int g3), .val (.int g4)]) pn_0 (by intro m; first | (simp [entryFrame, mkF, argsToLocals, Value.category]; done) | rfl) ?_
  refine Rn.iloadN (pc' := 1) d0_0 rfl rfl ?_
  refine Rn.iconst (pc' := 2) (v := (1 : Int32)) d0_1 rfl rfl ?_
  refine Rn.icmp_ne (pc' := 14) (pn := 5) d0_2 (by decide) (by decide) rfl (fun c1 => ?_) (fun c1 => absurd c1 (by decide))
  refine Rn.iloadN (pc' := 15) d0_14 rfl rfl ?_
  refine Rn.iconst (pc' := 16) (v := (2 : Int32)) d0_15 rfl rfl ?_
  refine Rn.icmp_ne (pc' := 33) (pn := 19) d0_16 (by decide) (by decide) rfl (fun c2 => ?_) (fun c2 => absurd c2 (by decide))
  refine Rn.iloadN (pc' := 34) d0_33 rfl rfl ?_
  refine Rn.iconst (pc' := 35) (v := (3 : Int32)) d0_34 rfl rfl ?_
  refine Rn.icmp_ne (pc' := 57) (pn := 38) d0_35 (by decide) (by decide) rfl (fun c3 => ?_) (fun c3 => absurd c3 (by decide))
  refine Rn.iloadN (pc' := 58) d0_57 rfl rfl ?_
  refine Rn.iconst (pc' := 59) (v := (4 : Int32)) d0_58 rfl rfl ?_
  refine Rn.icmp_ne (pc' := 87) (pn := 62) d0_59 (by decide) (by decide) rfl (fun c4 => absurd c4 (by decide)) (fun c4 => ?_)
  refine Rn.iconst (pc' := 63) (v := (4 : Int32)) d0_62 rfl rfl ?_
  refine Rn.newP (pc' := 65) (cap := 4) (ty := .double) (ad := "[D") (hw _ (List.mem_of_getElem? (i := 4) rfl)) rfl rfl d0_63 (by decide) (Nat.le_of_ble_eq_true rfl) (by decide) (Nat.le_of_ble_eq_true rfl) (Nat.le_of_ble_eq_true rfl) rfl (fun h6 a5 e7 g8 E9 ⟨A10, B11⟩ => ?_)
  have A12 : Ax Z h6 a5 .double ([.double (0 : UInt64), .double (0 : UInt64), .double (0 : UInt64), .double (0 : UInt64)]) := A10
  refine Rn.dup (pc' := 66) d0_65 rfl rfl ?_
  refine Rn.iconst (pc' := 67) (v := (0 : Int32)) d0_66 rfl rfl ?_
  refine Rn.iloadN (pc' := 68) d0_67 rfl rfl ?_
  refine Rn.i2d (pc' := 69) (v := (FP.i2d g0)) d0_68 rfl rfl ?_
  refine Rn.dastore (pc' := 70) (v := .double (FP.i2d g0)) A12 (by decide) (Nat.le_of_ble_eq_true rfl) rfl (Or.inr g8) Sf.no d0_69 rfl (fun h14 W13 A15 => ?_)
  have A16 : Ax Z h14 a5 .double ([.double (FP.i2d g0), .double (0 : UInt64), .double (0 : UInt64), .double (0 : UInt64)]) := A15
  refine Rn.dup (pc' := 71) d0_70 rfl rfl ?_
  refine Rn.iconst (pc' := 72) (v := (1 : Int32)) d0_71 rfl rfl ?_
  refine Rn.iloadN (pc' := 73) d0_72 rfl rfl ?_
  refine Rn.i2d (pc' := 74) (v := (FP.i2d g1)) d0_73 rfl rfl ?_
  refine Rn.dastore (pc' := 75) (v := .double (FP.i2d g1)) A16 (by decide) (Nat.le_of_ble_eq_true rfl) rfl (Or.inr g8) Sf.no d0_74 rfl (fun h18 W17 A19 => ?_)
  have A20 : Ax Z h18 a5 .double ([.double (FP.i2d g0), .double (FP.i2d g1), .double (0 : UInt64), .double (0 : UInt64)]) := A19
  refine Rn.dup (pc' := 76) d0_75 rfl rfl ?_
  refine Rn.iconst (pc' := 77) (v := (2 : Int32)) d0_76 rfl rfl ?_
  refine Rn.iloadN (pc' := 78) d0_77 rfl rfl ?_
  refine Rn.i2d (pc' := 79) (v := (FP.i2d g2)) d0_78 rfl rfl ?_
  refine Rn.dastore (pc' := 80) (v := .double (FP.i2d g2)) A20 (by decide) (Nat.le_of_ble_eq_true rfl) rfl (Or.inr g8) Sf.no d0_79 rfl (fun h22 W21 A23 => ?_)
  have A24 : Ax Z h22 a5 .double ([.double (FP.i2d g0), .double (FP.i2d g1), .double (FP.i2d g2), .double (0 : UInt64)]) := A23
  refine Rn.dup (pc' := 81) d0_80 rfl rfl ?_
  refine Rn.iconst (pc' := 82) (v := (3 : Int32)) d0_81 rfl rfl ?_
  refine Rn.iload (pc' := 84) d0_82 rfl rfl ?_
  refine Rn.i2d (pc' := 85) (v := (FP.i2d g3)) d0_84 rfl rfl ?_
  refine Rn.dastore (pc' := 86) (v := .double (FP.i2d g3)) A24 (by decide) (Nat.le_of_ble_eq_true rfl) rfl (Or.inr g8) Sf.no d0_85 rfl (fun h26 W25 A27 => ?_)
  have A28 : Ax Z h26 a5 .double ([.double (FP.i2d g0), .double (FP.i2d g1), .double (FP.i2d g2), .double (FP.i2d g3)]) := A27
  refine Rn.retA (t := (.array .double)) rfl rfl rfl d0_86 (Nat.le_of_ble_eq_true rfl) (Nat.le_of_ble_eq_true rfl) ?_
  exact ⟨_, rfl, g8, A28⟩
set_option maxRecDepth 65536 in
set_option maxHeartbeats 40000000 in
theorem ct_mk5 (Z : State) (a0 : Array Value) (hw : ∀ d ∈ tables_1, d.before a0 Z = true) (g0 g1 g2 g3 g4 : Int32) (h0 : Heap) :
    Ct Z ⟨"com/example/ratecraft/ratecraft/ValuationRelativeValuesPinLaw", "make", "(IIIIII)[D"⟩ method_3_code 6 (Option.some (FieldType.array FieldType.double)) ({ frames := 0, cells := 1, slots := 5, locals := 0 } : Room) #[(.int (5 : Int32)), (.int g0), (.int g1), (.int g2), (.int g3), (.int g4)] h0 [] (fun v h => ∃ t, v = some (.ref t) ∧ h0.size ≤ t ∧ Ax Z h t .double [.double (FP.i2d g0), .double (FP.i2d g1), .double (FP.i2d g2), .double (FP.i2d g3), .double (FP.i2d g4)]) := by
  refine Ct.intro (Ls := #[.val (.int (5 : Int32)), .val (.int g0), .val (.int g1), .val (.int g2), .val (.int g3), .val (.int g4)]) pn_0 (by intro m; first | (simp [entryFrame, mkF, argsToLocals, Value.category]; done) | rfl) ?_
  refine Rn.iloadN (pc' := 1) d0_0 rfl rfl ?_
  refine Rn.iconst (pc' := 2) (v := (1 : Int32)) d0_1 rfl rfl ?_
  refine Rn.icmp_ne (pc' := 14) (pn := 5) d0_2 (by decide) (by decide) rfl (fun c1 => ?_) (fun c1 => absurd c1 (by decide))
  refine Rn.iloadN (pc' := 15) d0_14 rfl rfl ?_
  refine Rn.iconst (pc' := 16) (v := (2 : Int32)) d0_15 rfl rfl ?_
  refine Rn.icmp_ne (pc' := 33) (pn := 19) d0_16 (by decide) (by decide) rfl (fun c2 => ?_) (fun c2 => absurd c2 (by decide))
  refine Rn.iloadN (pc' := 34) d0_33 rfl rfl ?_
  refine Rn.iconst (pc' := 35) (v := (3 : Int32)) d0_34 rfl rfl ?_
  refine Rn.icmp_ne (pc' := 57) (pn := 38) d0_35 (by decide) (by decide) rfl (fun c3 => ?_) (fun c3 => absurd c3 (by decide))
  refine Rn.iloadN (pc' := 58) d0_57 rfl rfl ?_
  refine Rn.iconst (pc' := 59) (v := (4 : Int32)) d0_58 rfl rfl ?_
  refine Rn.icmp_ne (pc' := 87) (pn := 62) d0_59 (by decide) (by decide) rfl (fun c4 => ?_) (fun c4 => absurd c4 (by decide))
  refine Rn.iconst (pc' := 88) (v := (5 : Int32)) d0_87 rfl rfl ?_
  refine Rn.newP (pc' := 90) (cap := 5) (ty := .double) (ad := "[D") (hw _ (List.mem_of_getElem? (i := 4) rfl)) rfl rfl d0_88 (by decide) (Nat.le_of_ble_eq_true rfl) (by decide) (Nat.le_of_ble_eq_true rfl) (Nat.le_of_ble_eq_true rfl) rfl (fun h6 a5 e7 g8 E9 ⟨A10, B11⟩ => ?_)
  have A12 : Ax Z h6 a5 .double ([.double (0 : UInt64), .double (0 : UInt64), .double (0 : UInt64), .double (0 : UInt64), .double (0 : UInt64)]) := A10
  refine Rn.dup (pc' := 91) d0_90 rfl rfl ?_
  refine Rn.iconst (pc' := 92) (v := (0 : Int32)) d0_91 rfl rfl ?_
  refine Rn.iloadN (pc' := 93) d0_92 rfl rfl ?_
  refine Rn.i2d (pc' := 94) (v := (FP.i2d g0)) d0_93 rfl rfl ?_
  refine Rn.dastore (pc' := 95) (v := .double (FP.i2d g0)) A12 (by decide) (Nat.le_of_ble_eq_true rfl) rfl (Or.inr g8) Sf.no d0_94 rfl (fun h14 W13 A15 => ?_)
  have A16 : Ax Z h14 a5 .double ([.double (FP.i2d g0), .double (0 : UInt64), .double (0 : UInt64), .double (0 : UInt64), .double (0 : UInt64)]) := A15
  refine Rn.dup (pc' := 96) d0_95 rfl rfl ?_
  refine Rn.iconst (pc' := 97) (v := (1 : Int32)) d0_96 rfl rfl ?_
  refine Rn.iloadN (pc' := 98) d0_97 rfl rfl ?_
  refine Rn.i2d (pc' := 99) (v := (FP.i2d g1)) d0_98 rfl rfl ?_
  refine Rn.dastore (pc' := 100) (v := .double (FP.i2d g1)) A16 (by decide) (Nat.le_of_ble_eq_true rfl) rfl (Or.inr g8) Sf.no d0_99 rfl (fun h18 W17 A19 => ?_)
  have A20 : Ax Z h18 a5 .double ([.double (FP.i2d g0), .double (FP.i2d g1), .double (0 : UInt64), .double (0 : UInt64), .double (0 : UInt64)]) := A19
  refine Rn.dup (pc' := 101) d0_100 rfl rfl ?_
  refine Rn.iconst (pc' := 102) (v := (2 : Int32)) d0_101 rfl rfl ?_
  refine Rn.iloadN (pc' := 103) d0_102 rfl rfl ?_
  refine Rn.i2d (pc' := 104) (v := (FP.i2d g2)) d0_103 rfl rfl ?_
  refine Rn.dastore (pc' := 105) (v := .double (FP.i2d g2)) A20 (by decide) (Nat.le_of_ble_eq_true rfl) rfl (Or.inr g8) Sf.no d0_104 rfl (fun h22 W21 A23 => ?_)
  have A24 : Ax Z h22 a5 .double ([.double (FP.i2d g0), .double (FP.i2d g1), .double (FP.i2d g2), .double (0 : UInt64), .double (0 : UInt64)]) := A23
  refine Rn.dup (pc' := 106) d0_105 rfl rfl ?_
  refine Rn.iconst (pc' := 107) (v := (3 : Int32)) d0_106 rfl rfl ?_
  refine Rn.iload (pc' := 109) d0_107 rfl rfl ?_
  refine Rn.i2d (pc' := 110) (v := (FP.i2d g3)) d0_109 rfl rfl ?_
  refine Rn.dastore (pc' := 111) (v := .double (FP.i2d g3)) A24 (by decide) (Nat.le_of_ble_eq_true rfl) rfl (Or.inr g8) Sf.no d0_110 rfl (fun h26 W25 A27 => ?_)
  have A28 : Ax Z h26 a5 .double ([.double (FP.i2d g0), .double (FP.i2d g1), .double (FP.i2d g2), .double (FP.i2d g3), .double (0 : UInt64)]) := A27
  refine Rn.dup (pc' := 112) d0_111 rfl rfl ?_
  refine Rn.iconst (pc' := 113) (v := (4 : Int32)) d0_112 rfl rfl ?_
  refine Rn.iload (pc' := 115) d0_113 rfl rfl ?_
  refine Rn.i2d (pc' := 116) (v := (FP.i2d g4)) d0_115 rfl rfl ?_
  refine Rn.dastore (pc' := 117) (v := .double (FP.i2d g4)) A28 (by decide) (Nat.le_of_ble_eq_true rfl) rfl (Or.inr g8) Sf.no d0_116 rfl (fun h30 W29 A31 => ?_)
  have A32 : Ax Z h30 a5 .double ([.double (FP.i2d g0), .double (FP.i2d g1), .double (FP.i2d g2), .double (FP.i2d g3), .double (FP.i2d g4)]) := A31
  refine Rn.retA (t := (.array .double)) rfl rfl rfl d0_117 (Nat.le_of_ble_eq_true rfl) (Nat.le_of_ble_eq_true rfl) ?_
  exact ⟨_, rfl, g8, A32⟩
theorem d2_0 : decode jdk_30_method_1_code 0 = .ok (.aload_n 0, 1) := by decide +kernel
theorem d2_1 : decode jdk_30_method_1_code 1 = .ok (.invokespecial 1, 3) := by decide +kernel
theorem d2_4 : decode jdk_30_method_1_code 4 = .ok (.return_, 1) := by decide +kernel
set_option maxRecDepth 65536 in
set_option maxHeartbeats 40000000 in
theorem ct_rec (Z : State) (a0 : Array Value) (hw : ∀ d ∈ tables_1, d.before a0 Z = true) (a : Addr) (h0 : Heap) :
    Ct Z ⟨"java/lang/Record", "<init>", "()V"⟩ jdk_30_method_1_code 1 (Option.none : Option FieldType) ({ frames := 1, cells := 0, slots := 0, locals := 12 } : Room) #[(.ref a)] h0 [] (fun v h => v = none ∧ h0 = h) := by
  refine Ct.intro (Ls := #[.val (.ref a)]) pn_1 (by intro m; first | (simp [entryFrame, mkF, argsToLocals, Value.category]; done) | rfl) ?_
  refine Rn.aloadN (pc' := 1) d2_0 rfl rfl rfl ?_
  refine Rn.initO (pc' := 4) (hw _ (List.mem_of_getElem? (i := 16) rfl)) (hw _ (List.mem_of_getElem? (i := 17) rfl)) (hw _ (List.mem_of_getElem? (i := 18) rfl)) rfl d2_1 (Nat.le_of_ble_eq_true rfl) (Nat.le_of_ble_eq_true rfl) rfl ?_
  refine Rn.retV rfl d2_4 (Nat.le_of_ble_eq_true rfl) (Nat.le_of_ble_eq_true rfl) ?_
  exact ⟨rfl, rfl⟩
theorem d1_0 : decode prog_27_method_1_code 0 = .ok (.aload_n 0, 1) := by decide +kernel
theorem d1_1 : decode prog_27_method_1_code 1 = .ok (.invokespecial 1, 3) := by decide +kernel
theorem d1_4 : decode prog_27_method_1_code 4 = .ok (.aload_n 0, 1) := by decide +kernel
theorem d1_5 : decode prog_27_method_1_code 5 = .ok (.aload_n 1, 1) := by decide +kernel
theorem d1_6 : decode prog_27_method_1_code 6 = .ok (.putfield 7, 3) := by decide +kernel
theorem d1_9 : decode prog_27_method_1_code 9 = .ok (.aload_n 0, 1) := by decide +kernel
theorem d1_10 : decode prog_27_method_1_code 10 = .ok (.dload_n 2, 1) := by decide +kernel
theorem d1_11 : decode prog_27_method_1_code 11 = .ok (.putfield 13, 3) := by decide +kernel
theorem d1_14 : decode prog_27_method_1_code 14 = .ok (.aload_n 0, 1) := by decide +kernel
theorem d1_15 : decode prog_27_method_1_code 15 = .ok (.aload 4, 2) := by decide +kernel
theorem d1_17 : decode prog_27_method_1_code 17 = .ok (.putfield 17, 3) := by decide +kernel
theorem d1_20 : decode prog_27_method_1_code 20 = .ok (.return_, 1) := by decide +kernel
set_option maxRecDepth 65536 in
set_option maxHeartbeats 40000000 in
theorem ct_va (Z : State) (a0 : Array Value) (hw : ∀ d ∈ tables_1, d.before a0 Z = true) (x p g : Addr) (h0 : Heap) (E : Exa Z h0 x "com/example/ratecraft/ratecraft/OccupancyModel$Valuation") (F0 : Fld Z h0 x "com/example/ratecraft/ratecraft/OccupancyModel$Valuation" "prices" "[D" .null) (F1 : Fld Z h0 x "com/example/ratecraft/ratecraft/OccupancyModel$Valuation" "revenueRate" "D" (.double (0 : UInt64))) (F2 : Fld Z h0 x "com/example/ratecraft/ratecraft/OccupancyModel$Valuation" "gains" "[D" .null) :
    Ct Z ⟨"com/example/ratecraft/ratecraft/OccupancyModel$Valuation", "<init>", "([DD[D)V"⟩ prog_27_method_1_code 5 (Option.none : Option FieldType) ({ frames := 2, cells := 0, slots := 0, locals := 24 } : Room) #[(.ref x), (.ref p), (.double (FP.l2d 0)), (.ref g)] h0 [x] (fun v h => v = none ∧ Exa Z h x "com/example/ratecraft/ratecraft/OccupancyModel$Valuation" ∧ Fld Z h x "com/example/ratecraft/ratecraft/OccupancyModel$Valuation" "prices" "[D" (.ref p) ∧ Fld Z h x "com/example/ratecraft/ratecraft/OccupancyModel$Valuation" "gains" "[D" (.ref g)) := by
  refine Ct.intro (Ls := #[.val (.ref x), .val (.ref p), .val (.double (FP.l2d 0)), .second, .val (.ref g)]) pn_2 (by intro m; first | (simp [entryFrame, mkF, argsToLocals, Value.category]; done) | rfl) ?_
  refine Rn.aloadN (pc' := 1) d1_0 rfl rfl rfl ?_
  refine Rn.callI (pc' := 4) (argsL := []) (a := x) (rest := []) (ct_rec Z a0 hw x h0) rfl (hw _ (List.mem_of_getElem? (i := 11) rfl)) (hw _ (List.mem_of_getElem? (i := 12) rfl)) (hw _ (List.mem_of_getElem? (i := 14) rfl)) (hw _ (List.mem_of_getElem? (i := 15) rfl)) (by decide) rfl rfl (lenOf pd_0 rfl) rfl d1_1 rfl (Nat.le_of_ble_eq_true rfl) (Nat.le_of_ble_eq_true rfl) (Nat.le_of_ble_eq_true rfl) (Nat.le_of_ble_eq_true rfl) (fun _ z => nomatch z) (fun _ z => nomatch z) (fun v1 h2 K3 q4 => ?_)
  obtain ⟨rfl, rfl⟩ := q4
  simp only [Option.toList, List.cons_append, List.nil_append]
  refine Rn.aloadN (pc' := 5) d1_4 rfl rfl rfl ?_
  refine Rn.aloadN (pc' := 6) d1_5 rfl rfl rfl ?_
  refine Rn.putF (pc' := 9) (hw _ (List.mem_of_getElem? (i := 19) rfl)) Via.refl F0 E (Or.inr ⟨(hw _ (List.mem_of_getElem? (i := 20) rfl)), rfl, rfl⟩) (hw _ (List.mem_of_getElem? (i := 6) rfl)) (ty := (.array .double)) (by decide) rfl rfl (Or.inl (List.mem_of_getElem? (i := 0) rfl)) Sf.no d1_6 rfl (fun h6 W5 => ?_)
  have F7 := F0.same W5
  refine Rn.aloadN (pc' := 10) d1_9 rfl rfl rfl ?_
  refine Rn.dloadN (pc' := 11) d1_10 rfl rfl ?_
  have F8 := F1.other W5 (Or.inr (slot_ne (t := .double) (t' := (.array .double)) (Or.inr (hw _ (List.mem_of_getElem? (i := 22) rfl))) (Or.inr (hw _ (List.mem_of_getElem? (i := 20) rfl))) (by decide) (by decide) (by decide)))
  have F9 := E.wr W5
  refine Rn.putF (pc' := 14) (hw _ (List.mem_of_getElem? (i := 21) rfl)) Via.refl F8 F9 (Or.inr ⟨(hw _ (List.mem_of_getElem? (i := 22) rfl)), rfl, rfl⟩) (hw _ (List.mem_of_getElem? (i := 6) rfl)) (ty := .double) (by decide) rfl rfl (Or.inl (List.mem_of_getElem? (i := 0) rfl)) Sf.no d1_11 rfl (fun h11 W10 => ?_)
  have F12 := F8.same W10
  refine Rn.aloadN (pc' := 15) d1_14 rfl rfl rfl ?_
  refine Rn.aload (pc' := 17) d1_15 rfl rfl rfl ?_
  have F13 := F2.other W5 (Or.inr (slot_ne (t := (.array .double)) (t' := (.array .double)) (Or.inr (hw _ (List.mem_of_getElem? (i := 24) rfl))) (Or.inr (hw _ (List.mem_of_getElem? (i := 20) rfl))) (by decide) (by decide) (by decide)))
  have F14 := F13.other W10 (Or.inr (slot_ne (t := (.array .double)) (t' := .double) (Or.inr (hw _ (List.mem_of_getElem? (i := 24) rfl))) (Or.inr (hw _ (List.mem_of_getElem? (i := 22) rfl))) (by decide) (by decide) (by decide)))
  have F15 := F9.wr W10
  refine Rn.putF (pc' := 20) (hw _ (List.mem_of_getElem? (i := 23) rfl)) Via.refl F14 F15 (Or.inr ⟨(hw _ (List.mem_of_getElem? (i := 24) rfl)), rfl, rfl⟩) (hw _ (List.mem_of_getElem? (i := 6) rfl)) (ty := (.array .double)) (by decide) rfl rfl (Or.inl (List.mem_of_getElem? (i := 0) rfl)) Sf.no d1_17 rfl (fun h17 W16 => ?_)
  have F18 := F14.same W16
  refine Rn.retV rfl d1_20 (Nat.le_of_ble_eq_true rfl) (Nat.le_of_ble_eq_true rfl) ?_
  have F19 := F15.wr W16
  have F20 := F7.other W10 (Or.inr (slot_ne (t := (.array .double)) (t' := .double) (Or.inr (hw _ (List.mem_of_getElem? (i := 20) rfl))) (Or.inr (hw _ (List.mem_of_getElem? (i := 22) rfl))) (by decide) (by decide) (by decide)))
  have F21 := F20.other W16 (Or.inr (slot_ne (t := (.array .double)) (t' := (.array .double)) (Or.inr (hw _ (List.mem_of_getElem? (i := 20) rfl))) (Or.inr (hw _ (List.mem_of_getElem? (i := 24) rfl))) (by decide) (by decide) (by decide)))
  exact ⟨rfl, F19, F21, F18⟩
theorem d4_0 : decode prog_27_method_2_code 0 = .ok (.aload_n 0, 1) := by decide +kernel
theorem d4_1 : decode prog_27_method_2_code 1 = .ok (.getfield 7, 3) := by decide +kernel
theorem d4_4 : decode prog_27_method_2_code 4 = .ok (.arraylength, 1) := by decide +kernel
theorem d4_5 : decode prog_27_method_2_code 5 = .ok (.newarray .double, 2) := by decide +kernel
theorem d4_7 : decode prog_27_method_2_code 7 = .ok (.astore_n 1, 1) := by decide +kernel
theorem d4_8 : decode prog_27_method_2_code 8 = .ok (.iconst 0, 1) := by decide +kernel
theorem d4_9 : decode prog_27_method_2_code 9 = .ok (.istore_n 2, 1) := by decide +kernel
theorem d4_10 : decode prog_27_method_2_code 10 = .ok (.iload_n 2, 1) := by decide +kernel
theorem d4_11 : decode prog_27_method_2_code 11 = .ok (.aload_n 0, 1) := by decide +kernel
theorem d4_12 : decode prog_27_method_2_code 12 = .ok (.getfield 17, 3) := by decide +kernel
theorem d4_15 : decode prog_27_method_2_code 15 = .ok (.arraylength, 1) := by decide +kernel
theorem d4_16 : decode prog_27_method_2_code 16 = .ok (.if_icmp .ge 24, 3) := by decide +kernel
theorem d4_19 : decode prog_27_method_2_code 19 = .ok (.aload_n 1, 1) := by decide +kernel
theorem d4_20 : decode prog_27_method_2_code 20 = .ok (.iload_n 2, 1) := by decide +kernel
theorem d4_21 : decode prog_27_method_2_code 21 = .ok (.iconst 1, 1) := by decide +kernel
theorem d4_22 : decode prog_27_method_2_code 22 = .ok (.iadd, 1) := by decide +kernel
theorem d4_23 : decode prog_27_method_2_code 23 = .ok (.aload_n 1, 1) := by decide +kernel
theorem d4_24 : decode prog_27_method_2_code 24 = .ok (.iload_n 2, 1) := by decide +kernel
theorem d4_25 : decode prog_27_method_2_code 25 = .ok (.daload, 1) := by decide +kernel
theorem d4_26 : decode prog_27_method_2_code 26 = .ok (.aload_n 0, 1) := by decide +kernel
theorem d4_27 : decode prog_27_method_2_code 27 = .ok (.getfield 17, 3) := by decide +kernel
theorem d4_30 : decode prog_27_method_2_code 30 = .ok (.iload_n 2, 1) := by decide +kernel
theorem d4_31 : decode prog_27_method_2_code 31 = .ok (.daload, 1) := by decide +kernel
theorem d4_32 : decode prog_27_method_2_code 32 = .ok (.dadd, 1) := by decide +kernel
theorem d4_33 : decode prog_27_method_2_code 33 = .ok (.dastore, 1) := by decide +kernel
theorem d4_34 : decode prog_27_method_2_code 34 = .ok (.iinc 2 1, 3) := by decide +kernel
theorem d4_37 : decode prog_27_method_2_code 37 = .ok (.goto (-27), 3) := by decide +kernel
theorem d4_40 : decode prog_27_method_2_code 40 = .ok (.aload_n 1, 1) := by decide +kernel
theorem d4_41 : decode prog_27_method_2_code 41 = .ok (.areturn, 1) := by decide +kernel
set_option maxRecDepth 65536 in
set_option maxHeartbeats 40000000 in
theorem ct_rv1 (Z : State) (a0 : Array Value) (hw : ∀ d ∈ tables_1, d.before a0 Z = true) (x p g : Addr) (g0 g1 g2 g3 : Int32) (h0 : Heap) (F0 : Fld Z h0 x "com/example/ratecraft/ratecraft/OccupancyModel$Valuation" "prices" "[D" (.ref p)) (F2 : Fld Z h0 x "com/example/ratecraft/ratecraft/OccupancyModel$Valuation" "gains" "[D" (.ref g)) (A : Ax Z h0 p .double [.double (FP.i2d (0 : Int32)), .double (FP.i2d (0 : Int32))]) (B : Ax Z h0 g .double [.double (FP.i2d g0)]) :
    Ct Z ⟨"com/example/ratecraft/ratecraft/OccupancyModel$Valuation", "relativeValues", "()[D"⟩ prog_27_method_2_code 3 (Option.some (FieldType.array FieldType.double)) ({ frames := 0, cells := 1, slots := 2, locals := 0 } : Room) #[(.ref x)] h0 [] (fun v h => ∃ t, v = some (.ref t) ∧ h0.size ≤ t ∧ Ax Z h t .double [.double (0 : UInt64), .double (FP.l2d g0.toInt64)]) := by
  refine Ct.intro (Ls := #[.val (.ref x), .unset, .unset]) pn_2 (by intro m; first | (simp [entryFrame, mkF, argsToLocals, Value.category]; done) | rfl) ?_
  refine Rn.aloadN (pc' := 1) d4_0 rfl rfl rfl ?_
  refine Rn.getF (pc' := 4) (host := "") (Or.inl (hw _ (List.mem_of_getElem? (i := 19) rfl))) Via.refl F0 d4_1 rfl ?_
  refine Rn.arraylength (pc' := 5) (n := (2 : Int32)) A rfl d4_4 rfl ?_
  refine Rn.newP (pc' := 7) (cap := 2) (ty := .double) (ad := "[D") (hw _ (List.mem_of_getElem? (i := 4) rfl)) rfl rfl d4_5 (by decide) (Nat.le_of_ble_eq_true rfl) (by decide) (Nat.le_of_ble_eq_true rfl) (Nat.le_of_ble_eq_true rfl) rfl (fun h2 a1 e3 g4 E5 ⟨A6, B7⟩ => ?_)
  have n8 : x ≠ a1 := by rw [e3]; exact Nat.ne_of_lt (F0.lt)
  have n9 : p ≠ a1 := by rw [e3]; exact Nat.ne_of_lt (A.lt)
  have n10 : g ≠ a1 := by rw [e3]; exact Nat.ne_of_lt (B.lt)
  have A11 : Ax Z h2 a1 .double ([.double (0 : UInt64), .double (0 : UInt64)]) := A6
  refine Rn.astoreN (pc' := 8) (Ls' := #[.val (.ref x), .val (.ref a1), .unset]) d4_7 rfl rfl rfl ?_
  refine Rn.iconst (pc' := 9) (v := (0 : Int32)) d4_8 rfl rfl ?_
  refine Rn.istoreN (pc' := 10) (Ls' := #[.val (.ref x), .val (.ref a1), .val (.int (0 : Int32))]) d4_9 rfl rfl ?_
  refine Rn.iloadN (pc' := 11) d4_10 rfl rfl ?_
  refine Rn.aloadN (pc' := 12) d4_11 rfl rfl rfl ?_
  have F12 := F2.ext E5
  refine Rn.getF (pc' := 15) (host := "") (Or.inl (hw _ (List.mem_of_getElem? (i := 23) rfl))) Via.refl F12 d4_12 rfl ?_
  have F13 := B.ext E5
  refine Rn.arraylength (pc' := 16) (n := (1 : Int32)) F13 rfl d4_15 rfl ?_
  refine Rn.icmp_ge (pc' := 40) (pn := 19) d4_16 (by decide) (by decide) rfl (fun c14 => absurd c14 (by decide)) (fun c14 => ?_)
  refine Rn.aloadN (pc' := 20) d4_19 rfl rfl rfl ?_
  refine Rn.iloadN (pc' := 21) d4_20 rfl rfl ?_
  refine Rn.iconst (pc' := 22) (v := (1 : Int32)) d4_21 rfl rfl ?_
  refine Rn.iadd (pc' := 23) (v := (1 : Int32)) d4_22 rfl rfl ?_
  refine Rn.aloadN (pc' := 24) d4_23 rfl rfl rfl ?_
  refine Rn.iloadN (pc' := 25) d4_24 rfl rfl ?_
  refine Rn.daload (pc' := 26) (v := .double (0 : UInt64)) A11 (by decide) rfl d4_25 rfl ?_
  refine Rn.aloadN (pc' := 27) d4_26 rfl rfl rfl ?_
  refine Rn.getF (pc' := 30) (host := "") (Or.inl (hw _ (List.mem_of_getElem? (i := 23) rfl))) Via.refl F12 d4_27 rfl ?_
  refine Rn.iloadN (pc' := 31) d4_30 rfl rfl ?_
  refine Rn.daload (pc' := 32) (v := .double (FP.i2d g0)) F13 (by decide) rfl d4_31 rfl ?_
  refine Rn.dadd (pc' := 33) (v := (FP.l2d g0.toInt64)) d4_32 (Jvm.Free.Fl.l2d_fin _).noNaN (own_dadd0 g0) rfl ?_
  refine Rn.dastore (pc' := 34) (v := .double (FP.l2d g0.toInt64)) A11 (by decide) (Nat.le_of_ble_eq_true rfl) rfl (Or.inr g4) Sf.no d4_33 rfl (fun h16 W15 A17 => ?_)
  have A18 : Ax Z h16 a1 .double ([.double (0 : UInt64), .double (FP.l2d g0.toInt64)]) := A17
  refine Rn.iinc (pc' := 37) (v := (1 : Int32)) (Ls' := #[.val (.ref x), .val (.ref a1), .val (.int (1 : Int32))]) d4_34 rfl rfl rfl rfl ?_
  refine Rn.goto (pc' := 10) d4_37 (by decide) (by decide) ?_
  refine Rn.iloadN (pc' := 11) d4_10 rfl rfl ?_
  refine Rn.aloadN (pc' := 12) d4_11 rfl rfl rfl ?_
  have F19 := F12.other W15 (Or.inl n8)
  refine Rn.getF (pc' := 15) (host := "") (Or.inl (hw _ (List.mem_of_getElem? (i := 23) rfl))) Via.refl F19 d4_12 rfl ?_
  have F20 := F13.other W15 n10
  refine Rn.arraylength (pc' := 16) (n := (1 : Int32)) F20 rfl d4_15 rfl ?_
  refine Rn.icmp_ge (pc' := 40) (pn := 19) d4_16 (by decide) (by decide) rfl (fun c21 => ?_) (fun c21 => absurd c21 (by decide))
  refine Rn.aloadN (pc' := 41) d4_40 rfl rfl rfl ?_
  refine Rn.retA (t := (.array .double)) rfl rfl rfl d4_41 (Nat.le_of_ble_eq_true rfl) (Nat.le_of_ble_eq_true rfl) ?_
  exact ⟨_, rfl, g4, A18⟩
set_option maxRecDepth 65536 in
set_option maxHeartbeats 40000000 in
theorem ct_rv2 (Z : State) (a0 : Array Value) (hw : ∀ d ∈ tables_1, d.before a0 Z = true) (x p g : Addr) (g0 g1 g2 g3 : Int32) (h0 : Heap) (F0 : Fld Z h0 x "com/example/ratecraft/ratecraft/OccupancyModel$Valuation" "prices" "[D" (.ref p)) (F2 : Fld Z h0 x "com/example/ratecraft/ratecraft/OccupancyModel$Valuation" "gains" "[D" (.ref g)) (A : Ax Z h0 p .double [.double (FP.i2d (0 : Int32)), .double (FP.i2d (0 : Int32)), .double (FP.i2d (0 : Int32))]) (B : Ax Z h0 g .double [.double (FP.i2d g0), .double (FP.i2d g1)]) :
    Ct Z ⟨"com/example/ratecraft/ratecraft/OccupancyModel$Valuation", "relativeValues", "()[D"⟩ prog_27_method_2_code 3 (Option.some (FieldType.array FieldType.double)) ({ frames := 0, cells := 1, slots := 3, locals := 0 } : Room) #[(.ref x)] h0 [] (fun v h => ∃ t, v = some (.ref t) ∧ h0.size ≤ t ∧ Ax Z h t .double [.double (0 : UInt64), .double (FP.l2d g0.toInt64), .double (FP.l2d (g0.toInt64 + g1.toInt64))]) := by
  refine Ct.intro (Ls := #[.val (.ref x), .unset, .unset]) pn_2 (by intro m; first | (simp [entryFrame, mkF, argsToLocals, Value.category]; done) | rfl) ?_
  refine Rn.aloadN (pc' := 1) d4_0 rfl rfl rfl ?_
  refine Rn.getF (pc' := 4) (host := "") (Or.inl (hw _ (List.mem_of_getElem? (i := 19) rfl))) Via.refl F0 d4_1 rfl ?_
  refine Rn.arraylength (pc' := 5) (n := (3 : Int32)) A rfl d4_4 rfl ?_
  refine Rn.newP (pc' := 7) (cap := 3) (ty := .double) (ad := "[D") (hw _ (List.mem_of_getElem? (i := 4) rfl)) rfl rfl d4_5 (by decide) (Nat.le_of_ble_eq_true rfl) (by decide) (Nat.le_of_ble_eq_true rfl) (Nat.le_of_ble_eq_true rfl) rfl (fun h2 a1 e3 g4 E5 ⟨A6, B7⟩ => ?_)
  have n8 : x ≠ a1 := by rw [e3]; exact Nat.ne_of_lt (F0.lt)
  have n9 : p ≠ a1 := by rw [e3]; exact Nat.ne_of_lt (A.lt)
  have n10 : g ≠ a1 := by rw [e3]; exact Nat.ne_of_lt (B.lt)
  have A11 : Ax Z h2 a1 .double ([.double (0 : UInt64), .double (0 : UInt64), .double (0 : UInt64)]) := A6
  refine Rn.astoreN (pc' := 8) (Ls' := #[.val (.ref x), .val (.ref a1), .unset]) d4_7 rfl rfl rfl ?_
  refine Rn.iconst (pc' := 9) (v := (0 : Int32)) d4_8 rfl rfl ?_
  refine Rn.istoreN (pc' := 10) (Ls' := #[.val (.ref x), .val (.ref a1), .val (.int (0 : Int32))]) d4_9 rfl rfl ?_
  refine Rn.iloadN (pc' := 11) d4_10 rfl rfl ?_
  refine Rn.aloadN (pc' := 12) d4_11 rfl rfl rfl ?_
  have F12 := F2.ext E5
  refine Rn.getF (pc' := 15) (host := "") (Or.inl (hw _ (List.mem_of_getElem? (i := 23) rfl))) Via.refl F12 d4_12 rfl ?_
  have F13 := B.ext E5
  refine Rn.arraylength (pc' := 16) (n := (2 : Int32)) F13 rfl d4_15 rfl ?_
  refine Rn.icmp_ge (pc' := 40) (pn := 19) d4_16 (by decide) (by decide) rfl (fun c14 => absurd c14 (by decide)) (fun c14 => ?_)
  refine Rn.aloadN (pc' := 20) d4_19 rfl rfl rfl ?_
  refine Rn.iloadN (pc' := 21) d4_20 rfl rfl ?_
  refine Rn.iconst (pc' := 22) (v := (1 : Int32)) d4_21 rfl rfl ?_
  refine Rn.iadd (pc' := 23) (v := (1 : Int32)) d4_22 rfl rfl ?_
  refine Rn.aloadN (pc' := 24) d4_23 rfl rfl rfl ?_
  refine Rn.iloadN (pc' := 25) d4_24 rfl rfl ?_
  refine Rn.daload (pc' := 26) (v := .double (0 : UInt64)) A11 (by decide) rfl d4_25 rfl ?_
  refine Rn.aloadN (pc' := 27) d4_26 rfl rfl rfl ?_
  refine Rn.getF (pc' := 30) (host := "") (Or.inl (hw _ (List.mem_of_getElem? (i := 23) rfl))) Via.refl F12 d4_27 rfl ?_
  refine Rn.iloadN (pc' := 31) d4_30 rfl rfl ?_
  refine Rn.daload (pc' := 32) (v := .double (FP.i2d g0)) F13 (by decide) rfl d4_31 rfl ?_
  refine Rn.dadd (pc' := 33) (v := (FP.l2d g0.toInt64)) d4_32 (Jvm.Free.Fl.l2d_fin _).noNaN (own_dadd0 g0) rfl ?_
  refine Rn.dastore (pc' := 34) (v := .double (FP.l2d g0.toInt64)) A11 (by decide) (Nat.le_of_ble_eq_true rfl) rfl (Or.inr g4) Sf.no d4_33 rfl (fun h16 W15 A17 => ?_)
  have A18 : Ax Z h16 a1 .double ([.double (0 : UInt64), .double (FP.l2d g0.toInt64), .double (0 : UInt64)]) := A17
  refine Rn.iinc (pc' := 37) (v := (1 : Int32)) (Ls' := #[.val (.ref x), .val (.ref a1), .val (.int (1 : Int32))]) d4_34 rfl rfl rfl rfl ?_
  refine Rn.goto (pc' := 10) d4_37 (by decide) (by decide) ?_
  refine Rn.iloadN (pc' := 11) d4_10 rfl rfl ?_
  refine Rn.aloadN (pc' := 12) d4_11 rfl rfl rfl ?_
  have F19 := F12.other W15 (Or.inl n8)
  refine Rn.getF (pc' := 15) (host := "") (Or.inl (hw _ (List.mem_of_getElem? (i := 23) rfl))) Via.refl F19 d4_12 rfl ?_
  have F20 := F13.other W15 n10
  refine Rn.arraylength (pc' := 16) (n := (2 : Int32)) F20 rfl d4_15 rfl ?_
  refine Rn.icmp_ge (pc' := 40) (pn := 19) d4_16 (by decide) (by decide) rfl (fun c21 => absurd c21 (by decide)) (fun c21 => ?_)
  refine Rn.aloadN (pc' := 20) d4_19 rfl rfl rfl ?_
  refine Rn.iloadN (pc' := 21) d4_20 rfl rfl ?_
  refine Rn.iconst (pc' := 22) (v := (1 : Int32)) d4_21 rfl rfl ?_
  refine Rn.iadd (pc' := 23) (v := (2 : Int32)) d4_22 rfl rfl ?_
  refine Rn.aloadN (pc' := 24) d4_23 rfl rfl rfl ?_
  refine Rn.iloadN (pc' := 25) d4_24 rfl rfl ?_
  refine Rn.daload (pc' := 26) (v := .double (FP.l2d g0.toInt64)) A18 (by decide) rfl d4_25 rfl ?_
  refine Rn.aloadN (pc' := 27) d4_26 rfl rfl rfl ?_
  refine Rn.getF (pc' := 30) (host := "") (Or.inl (hw _ (List.mem_of_getElem? (i := 23) rfl))) Via.refl F19 d4_27 rfl ?_
  refine Rn.iloadN (pc' := 31) d4_30 rfl rfl ?_
  refine Rn.daload (pc' := 32) (v := .double (FP.i2d g1)) F20 (by decide) rfl d4_31 rfl ?_
  refine Rn.dadd (pc' := 33) (v := (FP.l2d (g0.toInt64 + g1.toInt64))) d4_32 (Jvm.Free.Fl.l2d_fin _).noNaN (own_dadd (own_w (own_s1 g0) (by decide))) rfl ?_
  refine Rn.dastore (pc' := 34) (v := .double (FP.l2d (g0.toInt64 + g1.toInt64))) A18 (by decide) (Nat.le_of_ble_eq_true rfl) rfl (Or.inr g4) Sf.no d4_33 rfl (fun h23 W22 A24 => ?_)
  have A25 : Ax Z h23 a1 .double ([.double (0 : UInt64), .double (FP.l2d g0.toInt64), .double (FP.l2d (g0.toInt64 + g1.toInt64))]) := A24
  refine Rn.iinc (pc' := 37) (v := (2 : Int32)) (Ls' := #[.val (.ref x), .val (.ref a1), .val (.int (2 : Int32))]) d4_34 rfl rfl rfl rfl ?_
  refine Rn.goto (pc' := 10) d4_37 (by decide) (by decide) ?_
  refine Rn.iloadN (pc' := 11) d4_10 rfl rfl ?_
  refine Rn.aloadN (pc' := 12) d4_11 rfl rfl rfl ?_
  have F26 := F19.other W22 (Or.inl n8)
  refine Rn.getF (pc' := 15) (host := "") (Or.inl (hw _ (List.mem_of_getElem? (i := 23) rfl))) Via.refl F26 d4_12 rfl ?_
  have F27 := F20.other W22 n10
  refine Rn.arraylength (pc' := 16) (n := (2 : Int32)) F27 rfl d4_15 rfl ?_
  refine Rn.icmp_ge (pc' := 40) (pn := 19) d4_16 (by decide) (by decide) rfl (fun c28 => ?_) (fun c28 => absurd c28 (by decide))
  refine Rn.aloadN (pc' := 41) d4_40 rfl rfl rfl ?_
  refine Rn.retA (t := (.array .double)) rfl rfl rfl d4_41 (Nat.le_of_ble_eq_true rfl) (Nat.le_of_ble_eq_true rfl) ?_
  exact ⟨_, rfl, g4, A25⟩
set_option maxRecDepth 65536 in
set_option maxHeartbeats 40000000 in
theorem ct_rv3 (Z : State) (a0 : Array Value) (hw : ∀ d ∈ tables_1, d.before a0 Z = true) (x p g : Addr) (g0 g1 g2 g3 : Int32) (h0 : Heap) (F0 : Fld Z h0 x "com/example/ratecraft/ratecraft/OccupancyModel$Valuation" "prices" "[D" (.ref p)) (F2 : Fld Z h0 x "com/example/ratecraft/ratecraft/OccupancyModel$Valuation" "gains" "[D" (.ref g)) (A : Ax Z h0 p .double [.double (FP.i2d (0 : Int32)), .double (FP.i2d (0 : Int32)), .double (FP.i2d (0 : Int32)), .double (FP.i2d (0 : Int32))]) (B : Ax Z h0 g .double [.double (FP.i2d g0), .double (FP.i2d g1), .double (FP.i2d g2)]) :
    Ct Z ⟨"com/example/ratecraft/ratecraft/OccupancyModel$Valuation", "relativeValues", "()[D"⟩ prog_27_method_2_code 3 (Option.some (FieldType.array FieldType.double)) ({ frames := 0, cells := 1, slots := 4, locals := 0 } : Room) #[(.ref x)] h0 [] (fun v h => ∃ t, v = some (.ref t) ∧ h0.size ≤ t ∧ Ax Z h t .double [.double (0 : UInt64), .double (FP.l2d g0.toInt64), .double (FP.l2d (g0.toInt64 + g1.toInt64)), .double (FP.l2d ((g0.toInt64 + g1.toInt64) + g2.toInt64))]) := by
  refine Ct.intro (Ls := #[.val (.ref x), .unset, .unset]) pn_2 (by intro m; first | (simp [entryFrame, mkF, argsToLocals, Value.category]; done) | rfl) ?_
  refine Rn.aloadN (pc' := 1) d4_0 rfl rfl rfl ?_
  refine Rn.getF (pc' := 4) (host := "") (Or.inl (hw _ (List.mem_of_getElem? (i := 19) rfl))) Via.refl F0 d4_1 rfl ?_
  refine Rn.arraylength (pc' := 5) (n := (4 : Int32)) A rfl d4_4 rfl ?_
  refine Rn.newP (pc' := 7) (cap := 4) (ty := .double) (ad := "[D") (hw _ (List.mem_of_getElem? (i := 4) rfl)) rfl rfl d4_5 (by decide) (Nat.le_of_ble_eq_true rfl) (by decide) (Nat.le_of_ble_eq_true rfl) (Nat.le_of_ble_eq_true rfl) rfl (fun h2 a1 e3 g4 E5 ⟨A6, B7⟩ => ?_)
  have n8 : x ≠ a1 := by rw [e3]; exact Nat.ne_of_lt (F0.lt)
  have n9 : p ≠ a1 := by rw [e3]; exact Nat.ne_of_lt (A.lt)
  have n10 : g ≠ a1 := by rw [e3]; exact Nat.ne_of_lt (B.lt)
  have A11 : Ax Z h2 a1 .double ([.double (0 : UInt64), .double (0 : UInt64), .double (0 : UInt64), .double (0 : UInt64)]) := A6
  refine Rn.astoreN (pc' := 8) (Ls' := #[.val (.ref x), .val (.ref a1), .unset]) d4_7 rfl rfl rfl ?_
  refine Rn.iconst (pc' := 9) (v := (0 : Int32)) d4_8 rfl rfl ?_
  refine Rn.istoreN (pc' := 10) (Ls' := #[.val (.ref x), .val (.ref a1), .val (.int (0 : Int32))]) d4_9 rfl rfl ?_
  refine Rn.iloadN (pc' := 11) d4_10 rfl rfl ?_
  refine Rn.aloadN (pc' := 12) d4_11 rfl rfl rfl ?_
  have F12 := F2.ext E5
  refine Rn.getF (pc' := 15) (host := "") (Or.inl (hw _ (List.mem_of_getElem? (i := 23) rfl))) Via.refl F12 d4_12 rfl ?_
  have F13 := B.ext E5
  refine Rn.arraylength (pc' := 16) (n := (3 : Int32)) F13 rfl d4_15 rfl ?_
  refine Rn.icmp_ge (pc' := 40) (pn := 19) d4_16 (by decide) (by decide) rfl (fun c14 => absurd c14 (by decide)) (fun c14 => ?_)
  refine Rn.aloadN (pc' := 20) d4_19 rfl rfl rfl ?_
  refine Rn.iloadN (pc' := 21) d4_20 rfl rfl ?_
  refine Rn.iconst (pc' := 22) (v := (1 : Int32)) d4_21 rfl rfl ?_
  refine Rn.iadd (pc' := 23) (v := (1 : Int32)) d4_22 rfl rfl ?_
  refine Rn.aloadN (pc' := 24) d4_23 rfl rfl rfl ?_
  refine Rn.iloadN (pc' := 25) d4_24 rfl rfl ?_
  refine Rn.daload (pc' := 26) (v := .double (0 : UInt64)) A11 (by decide) rfl d4_25 rfl ?_
  refine Rn.aloadN (pc' := 27) d4_26 rfl rfl rfl ?_
  refine Rn.getF (pc' := 30) (host := "") (Or.inl (hw _ (List.mem_of_getElem? (i := 23) rfl))) Via.refl F12 d4_27 rfl ?_
  refine Rn.iloadN (pc' := 31) d4_30 rfl rfl ?_
  refine Rn.daload (pc' := 32) (v := .double (FP.i2d g0)) F13 (by decide) rfl d4_31 rfl ?_
  refine Rn.dadd (pc' := 33) (v := (FP.l2d g0.toInt64)) d4_32 (Jvm.Free.Fl.l2d_fin _).noNaN (own_dadd0 g0) rfl ?_
  refine Rn.dastore (pc' := 34) (v := .double (FP.l2d g0.toInt64)) A11 (by decide) (Nat.le_of_ble_eq_true rfl) rfl (Or.inr g4) Sf.no d4_33 rfl (fun h16 W15 A17 => ?_)
  have A18 : Ax Z h16 a1 .double ([.double (0 : UInt64), .double (FP.l2d g0.toInt64), .double (0 : UInt64), .double (0 : UInt64)]) := A17
  refine Rn.iinc (pc' := 37) (v := (1 : Int32)) (Ls' := #[.val (.ref x), .val (.ref a1), .val (.int (1 : Int32))]) d4_34 rfl rfl rfl rfl ?_
  refine Rn.goto (pc' := 10) d4_37 (by decide) (by decide) ?_
  refine Rn.iloadN (pc' := 11) d4_10 rfl rfl ?_
  refine Rn.aloadN (pc' := 12) d4_11 rfl rfl rfl ?_
  have F19 := F12.other W15 (Or.inl n8)
  refine Rn.getF (pc' := 15) (host := "") (Or.inl (hw _ (List.mem_of_getElem? (i := 23) rfl))) Via.refl F19 d4_12 rfl ?_
  have F20 := F13.other W15 n10
  refine Rn.arraylength (pc' := 16) (n := (3 : Int32)) F20 rfl d4_15 rfl ?_
  refine Rn.icmp_ge (pc' := 40) (pn := 19) d4_16 (by decide) (by decide) rfl (fun c21 => absurd c21 (by decide)) (fun c21 => ?_)
  refine Rn.aloadN (pc' := 20) d4_19 rfl rfl rfl ?_
  refine Rn.iloadN (pc' := 21) d4_20 rfl rfl ?_
  refine Rn.iconst (pc' := 22) (v := (1 : Int32)) d4_21 rfl rfl ?_
  refine Rn.iadd (pc' := 23) (v := (2 : Int32)) d4_22 rfl rfl ?_
  refine Rn.aloadN (pc' := 24) d4_23 rfl rfl rfl ?_
  refine Rn.iloadN (pc' := 25) d4_24 rfl rfl ?_
  refine Rn.daload (pc' := 26) (v := .double (FP.l2d g0.toInt64)) A18 (by decide) rfl d4_25 rfl ?_
  refine Rn.aloadN (pc' := 27) d4_26 rfl rfl rfl ?_
  refine Rn.getF (pc' := 30) (host := "") (Or.inl (hw _ (List.mem_of_getElem? (i := 23) rfl))) Via.refl F19 d4_27 rfl ?_
  refine Rn.iloadN (pc' := 31) d4_30 rfl rfl ?_
  refine Rn.daload (pc' := 32) (v := .double (FP.i2d g1)) F20 (by decide) rfl d4_31 rfl ?_
  refine Rn.dadd (pc' := 33) (v := (FP.l2d (g0.toInt64 + g1.toInt64))) d4_32 (Jvm.Free.Fl.l2d_fin _).noNaN (own_dadd (own_w (own_s1 g0) (by decide))) rfl ?_
  refine Rn.dastore (pc' := 34) (v := .double (FP.l2d (g0.toInt64 + g1.toInt64))) A18 (by decide) (Nat.le_of_ble_eq_true rfl) rfl (Or.inr g4) Sf.no d4_33 rfl (fun h23 W22 A24 => ?_)
  have A25 : Ax Z h23 a1 .double ([.double (0 : UInt64), .double (FP.l2d g0.toInt64), .double (FP.l2d (g0.toInt64 + g1.toInt64)), .double (0 : UInt64)]) := A24
  refine Rn.iinc (pc' := 37) (v := (2 : Int32)) (Ls' := #[.val (.ref x), .val (.ref a1), .val (.int (2 : Int32))]) d4_34 rfl rfl rfl rfl ?_
  refine Rn.goto (pc' := 10) d4_37 (by decide) (by decide) ?_
  refine Rn.iloadN (pc' := 11) d4_10 rfl rfl ?_
  refine Rn.aloadN (pc' := 12) d4_11 rfl rfl rfl ?_
  have F26 := F19.other W22 (Or.inl n8)
  refine Rn.getF (pc' := 15) (host := "") (Or.inl (hw _ (List.mem_of_getElem? (i := 23) rfl))) Via.refl F26 d4_12 rfl ?_
  have F27 := F20.other W22 n10
  refine Rn.arraylength (pc' := 16) (n := (3 : Int32)) F27 rfl d4_15 rfl ?_
  refine Rn.icmp_ge (pc' := 40) (pn := 19) d4_16 (by decide) (by decide) rfl (fun c28 => absurd c28 (by decide)) (fun c28 => ?_)
  refine Rn.aloadN (pc' := 20) d4_19 rfl rfl rfl ?_
  refine Rn.iloadN (pc' := 21) d4_20 rfl rfl ?_
  refine Rn.iconst (pc' := 22) (v := (1 : Int32)) d4_21 rfl rfl ?_
  refine Rn.iadd (pc' := 23) (v := (3 : Int32)) d4_22 rfl rfl ?_
  refine Rn.aloadN (pc' := 24) d4_23 rfl rfl rfl ?_
  refine Rn.iloadN (pc' := 25) d4_24 rfl rfl ?_
  refine Rn.daload (pc' := 26) (v := .double (FP.l2d (g0.toInt64 + g1.toInt64))) A25 (by decide) rfl d4_25 rfl ?_
  refine Rn.aloadN (pc' := 27) d4_26 rfl rfl rfl ?_
  refine Rn.getF (pc' := 30) (host := "") (Or.inl (hw _ (List.mem_of_getElem? (i := 23) rfl))) Via.refl F26 d4_27 rfl ?_
  refine Rn.iloadN (pc' := 31) d4_30 rfl rfl ?_
  refine Rn.daload (pc' := 32) (v := .double (FP.i2d g2)) F27 (by decide) rfl d4_31 rfl ?_
  refine Rn.dadd (pc' := 33) (v := (FP.l2d ((g0.toInt64 + g1.toInt64) + g2.toInt64))) d4_32 (Jvm.Free.Fl.l2d_fin _).noNaN (own_dadd (own_w (own_s (g := g1) (own_s1 g0) (by decide)) (by decide))) rfl ?_
  refine Rn.dastore (pc' := 34) (v := .double (FP.l2d ((g0.toInt64 + g1.toInt64) + g2.toInt64))) A25 (by decide) (Nat.le_of_ble_eq_true rfl) rfl (Or.inr g4) Sf.no d4_33 rfl (fun h30 W29 A31 => ?_)
  have A32 : Ax Z h30 a1 .double ([.double (0 : UInt64), .double (FP.l2d g0.toInt64), .double (FP.l2d (g0.toInt64 + g1.toInt64)), .double (FP.l2d ((g0.toInt64 + g1.toInt64) + g2.toInt64))]) := A31
  refine Rn.iinc (pc' := 37) (v := (3 : Int32)) (Ls' := #[.val (.ref x), .val (.ref a1), .val (.int (3 : Int32))]) d4_34 rfl rfl rfl rfl ?_
  refine Rn.goto (pc' := 10) d4_37 (by decide) (by decide) ?_
  refine Rn.iloadN (pc' := 11) d4_10 rfl rfl ?_
  refine Rn.aloadN (pc' := 12) d4_11 rfl rfl rfl ?_
  have F33 := F26.other W29 (Or.inl n8)
  refine Rn.getF (pc' := 15) (host := "") (Or.inl (hw _ (List.mem_of_getElem? (i := 23) rfl))) Via.refl F33 d4_12 rfl ?_
  have F34 := F27.other W29 n10
  refine Rn.arraylength (pc' := 16) (n := (3 : Int32)) F34 rfl d4_15 rfl ?_
  refine Rn.icmp_ge (pc' := 40) (pn := 19) d4_16 (by decide) (by decide) rfl (fun c35 => ?_) (fun c35 => absurd c35 (by decide))
  refine Rn.aloadN (pc' := 41) d4_40 rfl rfl rfl ?_
  refine Rn.retA (t := (.array .double)) rfl rfl rfl d4_41 (Nat.le_of_ble_eq_true rfl) (Nat.le_of_ble_eq_true rfl) ?_
  exact ⟨_, rfl, g4, A32⟩
set_option maxRecDepth 65536 in
set_option maxHeartbeats 40000000 in
theorem ct_rv4 (Z : State) (a0 : Array Value) (hw : ∀ d ∈ tables_1, d.before a0 Z = true) (x p g : Addr) (g0 g1 g2 g3 : Int32) (h0 : Heap) (F0 : Fld Z h0 x "com/example/ratecraft/ratecraft/OccupancyModel$Valuation" "prices" "[D" (.ref p)) (F2 : Fld Z h0 x "com/example/ratecraft/ratecraft/OccupancyModel$Valuation" "gains" "[D" (.ref g)) (A : Ax Z h0 p .double [.double (FP.i2d (0 : Int32)), .double (FP.i2d (0 : Int32)), .double (FP.i2d (0 : Int32)), .double (FP.i2d (0 : Int32)), .double (FP.i2d (0 : Int32))]) (B : Ax Z h0 g .double [.double (FP.i2d g0), .double (FP.i2d g1), .double (FP.i2d g2), .double (FP.i2d g3)]) :
    Ct Z ⟨"com/example/ratecraft/ratecraft/OccupancyModel$Valuation", "relativeValues", "()[D"⟩ prog_27_method_2_code 3 (Option.some (FieldType.array FieldType.double)) ({ frames := 0, cells := 1, slots := 5, locals := 0 } : Room) #[(.ref x)] h0 [] (fun v h => ∃ t, v = some (.ref t) ∧ h0.size ≤ t ∧ Ax Z h t .double [.double (0 : UInt64), .double (FP.l2d g0.toInt64), .double (FP.l2d (g0.toInt64 + g1.toInt64)), .double (FP.l2d ((g0.toInt64 + g1.toInt64) + g2.toInt64)), .double (FP.l2d (((g0.toInt64 + g1.toInt64) + g2.toInt64) + g3.toInt64))]) := by
  refine Ct.intro (Ls := #[.val (.ref x), .unset, .unset]) pn_2 (by intro m; first | (simp [entryFrame, mkF, argsToLocals, Value.category]; done) | rfl) ?_
  refine Rn.aloadN (pc' := 1) d4_0 rfl rfl rfl ?_
  refine Rn.getF (pc' := 4) (host := "") (Or.inl (hw _ (List.mem_of_getElem? (i := 19) rfl))) Via.refl F0 d4_1 rfl ?_
  refine Rn.arraylength (pc' := 5) (n := (5 : Int32)) A rfl d4_4 rfl ?_
  refine Rn.newP (pc' := 7) (cap := 5) (ty := .double) (ad := "[D") (hw _ (List.mem_of_getElem? (i := 4) rfl)) rfl rfl d4_5 (by decide) (Nat.le_of_ble_eq_true rfl) (by decide) (Nat.le_of_ble_eq_true rfl) (Nat.le_of_ble_eq_true rfl) rfl (fun h2 a1 e3 g4 E5 ⟨A6, B7⟩ => ?_)
  have n8 : x ≠ a1 := by rw [e3]; exact Nat.ne_of_lt (F0.lt)
  have n9 : p ≠ a1 := by rw [e3]; exact Nat.ne_of_lt (A.lt)
  have n10 : g ≠ a1 := by rw [e3]; exact Nat.ne_of_lt (B.lt)
  have A11 : Ax Z h2 a1 .double ([.double (0 : UInt64), .double (0 : UInt64), .double (0 : UInt64), .double (0 : UInt64), .double (0 : UInt64)]) := A6
  refine Rn.astoreN (pc' := 8) (Ls' := #[.val (.ref x), .val (.ref a1), .unset]) d4_7 rfl rfl rfl ?_
  refine Rn.iconst (pc' := 9) (v := (0 : Int32)) d4_8 rfl rfl ?_
  refine Rn.istoreN (pc' := 10) (Ls' := #[.val (.ref x), .val (.ref a1), .val (.int (0 : Int32))]) d4_9 rfl rfl ?_
  refine Rn.iloadN (pc' := 11) d4_10 rfl rfl ?_
  refine Rn.aloadN (pc' := 12) d4_11 rfl rfl rfl ?_
  have F12 := F2.ext E5
  refine Rn.getF (pc' := 15) (host := "") (Or.inl (hw _ (List.mem_of_getElem? (i := 23) rfl))) Via.refl F12 d4_12 rfl ?_
  have F13 := B.ext E5
  refine Rn.arraylength (pc' := 16) (n := (4 : Int32)) F13 rfl d4_15 rfl ?_
  refine Rn.icmp_ge (pc' := 40) (pn := 19) d4_16 (by decide) (by decide) rfl (fun c14 => absurd c14 (by decide)) (fun c14 => ?_)
  refine Rn.aloadN (pc' := 20) d4_19 rfl rfl rfl ?_
  refine Rn.iloadN (pc' := 21) d4_20 rfl rfl ?_
  refine Rn.iconst (pc' := 22) (v := (1 : Int32)) d4_21 rfl rfl ?_
  refine Rn.iadd (pc' := 23) (v := (1 : Int32)) d4_22 rfl rfl ?_
  refine Rn.aloadN (pc' := 24) d4_23 rfl rfl rfl ?_
  refine Rn.iloadN (pc' := 25) d4_24 rfl rfl ?_
  refine Rn.daload (pc' := 26) (v := .double (0 : UInt64)) A11 (by decide) rfl d4_25 rfl ?_
  refine Rn.aloadN (pc' := 27) d4_26 rfl rfl rfl ?_
  refine Rn.getF (pc' := 30) (host := "") (Or.inl (hw _ (List.mem_of_getElem? (i := 23) rfl))) Via.refl F12 d4_27 rfl ?_
  refine Rn.iloadN (pc' := 31) d4_30 rfl rfl ?_
  refine Rn.daload (pc' := 32) (v := .double (FP.i2d g0)) F13 (by decide) rfl d4_31 rfl ?_
  refine Rn.dadd (pc' := 33) (v := (FP.l2d g0.toInt64)) d4_32 (Jvm.Free.Fl.l2d_fin _).noNaN (own_dadd0 g0) rfl ?_
  refine Rn.dastore (pc' := 34) (v := .double (FP.l2d g0.toInt64)) A11 (by decide) (Nat.le_of_ble_eq_true rfl) rfl (Or.inr g4) Sf.no d4_33 rfl (fun h16 W15 A17 => ?_)
  have A18 : Ax Z h16 a1 .double ([.double (0 : UInt64), .double (FP.l2d g0.toInt64), .double (0 : UInt64), .double (0 : UInt64), .double (0 : UInt64)]) := A17
  refine Rn.iinc (pc' := 37) (v := (1 : Int32)) (Ls' := #[.val (.ref x), .val (.ref a1), .val (.int (1 : Int32))]) d4_34 rfl rfl rfl rfl ?_
  refine Rn.goto (pc' := 10) d4_37 (by decide) (by decide) ?_
  refine Rn.iloadN (pc' := 11) d4_10 rfl rfl ?_
  refine Rn.aloadN (pc' := 12) d4_11 rfl rfl rfl ?_
  have F19 := F12.other W15 (Or.inl n8)
  refine Rn.getF (pc' := 15) (host := "") (Or.inl (hw _ (List.mem_of_getElem? (i := 23) rfl))) Via.refl F19 d4_12 rfl ?_
  have F20 := F13.other W15 n10
  refine Rn.arraylength (pc' := 16) (n := (4 : Int32)) F20 rfl d4_15 rfl ?_
  refine Rn.icmp_ge (pc' := 40) (pn := 19) d4_16 (by decide) (by decide) rfl (fun c21 => absurd c21 (by decide)) (fun c21 => ?_)
  refine Rn.aloadN (pc' := 20) d4_19 rfl rfl rfl ?_
  refine Rn.iloadN (pc' := 21) d4_20 rfl rfl ?_
  refine Rn.iconst (pc' := 22) (v := (1 : Int32)) d4_21 rfl rfl ?_
  refine Rn.iadd (pc' := 23) (v := (2 : Int32)) d4_22 rfl rfl ?_
  refine Rn.aloadN (pc' := 24) d4_23 rfl rfl rfl ?_
  refine Rn.iloadN (pc' := 25) d4_24 rfl rfl ?_
  refine Rn.daload (pc' := 26) (v := .double (FP.l2d g0.toInt64)) A18 (by decide) rfl d4_25 rfl ?_
  refine Rn.aloadN (pc' := 27) d4_26 rfl rfl rfl ?_
  refine Rn.getF (pc' := 30) (host := "") (Or.inl (hw _ (List.mem_of_getElem? (i := 23) rfl))) Via.refl F19 d4_27 rfl ?_
  refine Rn.iloadN (pc' := 31) d4_30 rfl rfl ?_
  refine Rn.daload (pc' := 32) (v := .double (FP.i2d g1)) F20 (by decide) rfl d4_31 rfl ?_
  refine Rn.dadd (pc' := 33) (v := (FP.l2d (g0.toInt64 + g1.toInt64))) d4_32 (Jvm.Free.Fl.l2d_fin _).noNaN (own_dadd (own_w (own_s1 g0) (by decide))) rfl ?_
  refine Rn.dastore (pc' := 34) (v := .double (FP.l2d (g0.toInt64 + g1.toInt64))) A18 (by decide) (Nat.le_of_ble_eq_true rfl) rfl (Or.inr g4) Sf.no d4_33 rfl (fun h23 W22 A24 => ?_)
  have A25 : Ax Z h23 a1 .double ([.double (0 : UInt64), .double (FP.l2d g0.toInt64), .double (FP.l2d (g0.toInt64 + g1.toInt64)), .double (0 : UInt64), .double (0 : UInt64)]) := A24
  refine Rn.iinc (pc' := 37) (v := (2 : Int32)) (Ls' := #[.val (.ref x), .val (.ref a1), .val (.int (2 : Int32))]) d4_34 rfl rfl rfl rfl ?_
  refine Rn.goto (pc' := 10) d4_37 (by decide) (by decide) ?_
  refine Rn.iloadN (pc' := 11) d4_10 rfl rfl ?_
  refine Rn.aloadN (pc' := 12) d4_11 rfl rfl rfl ?_
  have F26 := F19.other W22 (Or.inl n8)
  refine Rn.getF (pc' := 15) (host := "") (Or.inl (hw _ (List.mem_of_getElem? (i := 23) rfl))) Via.refl F26 d4_12 rfl ?_
  have F27 := F20.other W22 n10
  refine Rn.arraylength (pc' := 16) (n := (4 : Int32)) F27 rfl d4_15 rfl ?_
  refine Rn.icmp_ge (pc' := 40) (pn := 19) d4_16 (by decide) (by decide) rfl (fun c28 => absurd c28 (by decide)) (fun c28 => ?_)
  refine Rn.aloadN (pc' := 20) d4_19 rfl rfl rfl ?_
  refine Rn.iloadN (pc' := 21) d4_20 rfl rfl ?_
  refine Rn.iconst (pc' := 22) (v := (1 : Int32)) d4_21 rfl rfl ?_
  refine Rn.iadd (pc' := 23) (v := (3 : Int32)) d4_22 rfl rfl ?_
  refine Rn.aloadN (pc' := 24) d4_23 rfl rfl rfl ?_
  refine Rn.iloadN (pc' := 25) d4_24 rfl rfl ?_
  refine Rn.daload (pc' := 26) (v := .double (FP.l2d (g0.toInt64 + g1.toInt64))) A25 (by decide) rfl d4_25 rfl ?_
  refine Rn.aloadN (pc' := 27) d4_26 rfl rfl rfl ?_
  refine Rn.getF (pc' := 30) (host := "") (Or.inl (hw _ (List.mem_of_getElem? (i := 23) rfl))) Via.refl F26 d4_27 rfl ?_
  refine Rn.iloadN (pc' := 31) d4_30 rfl rfl ?_
  refine Rn.daload (pc' := 32) (v := .double (FP.i2d g2)) F27 (by decide) rfl d4_31 rfl ?_
  refine Rn.dadd (pc' := 33) (v := (FP.l2d ((g0.toInt64 + g1.toInt64) + g2.toInt64))) d4_32 (Jvm.Free.Fl.l2d_fin _).noNaN (own_dadd (own_w (own_s (g := g1) (own_s1 g0) (by decide)) (by decide))) rfl ?_
  refine Rn.dastore (pc' := 34) (v := .double (FP.l2d ((g0.toInt64 + g1.toInt64) + g2.toInt64))) A25 (by decide) (Nat.le_of_ble_eq_true rfl) rfl (Or.inr g4) Sf.no d4_33 rfl (fun h30 W29 A31 => ?_)
  have A32 : Ax Z h30 a1 .double ([.double (0 : UInt64), .double (FP.l2d g0.toInt64), .double (FP.l2d (g0.toInt64 + g1.toInt64)), .double (FP.l2d ((g0.toInt64 + g1.toInt64) + g2.toInt64)), .double (0 : UInt64)]) := A31
  refine Rn.iinc (pc' := 37) (v := (3 : Int32)) (Ls' := #[.val (.ref x), .val (.ref a1), .val (.int (3 : Int32))]) d4_34 rfl rfl rfl rfl ?_
  refine Rn.goto (pc' := 10) d4_37 (by decide) (by decide) ?_
  refine Rn.iloadN (pc' := 11) d4_10 rfl rfl ?_
  refine Rn.aloadN (pc' := 12) d4_11 rfl rfl rfl ?_
  have F33 := F26.other W29 (Or.inl n8)
  refine Rn.getF (pc' := 15) (host := "") (Or.inl (hw _ (List.mem_of_getElem? (i := 23) rfl))) Via.refl F33 d4_12 rfl ?_
  have F34 := F27.other W29 n10
  refine Rn.arraylength (pc' := 16) (n := (4 : Int32)) F34 rfl d4_15 rfl ?_
  refine Rn.icmp_ge (pc' := 40) (pn := 19) d4_16 (by decide) (by decide) rfl (fun c35 => absurd c35 (by decide)) (fun c35 => ?_)
  refine Rn.aloadN (pc' := 20) d4_19 rfl rfl rfl ?_
  refine Rn.iloadN (pc' := 21) d4_20 rfl rfl ?_
  refine Rn.iconst (pc' := 22) (v := (1 : Int32)) d4_21 rfl rfl ?_
  refine Rn.iadd (pc' := 23) (v := (4 : Int32)) d4_22 rfl rfl ?_
  refine Rn.aloadN (pc' := 24) d4_23 rfl rfl rfl ?_
  refine Rn.iloadN (pc' := 25) d4_24 rfl rfl ?_
  refine Rn.daload (pc' := 26) (v := .double (FP.l2d ((g0.toInt64 + g1.toInt64) + g2.toInt64))) A32 (by decide) rfl d4_25 rfl ?_
  refine Rn.aloadN (pc' := 27) d4_26 rfl rfl rfl ?_
  refine Rn.getF (pc' := 30) (host := "") (Or.inl (hw _ (List.mem_of_getElem? (i := 23) rfl))) Via.refl F33 d4_27 rfl ?_
  refine Rn.iloadN (pc' := 31) d4_30 rfl rfl ?_
  refine Rn.daload (pc' := 32) (v := .double (FP.i2d g3)) F34 (by decide) rfl d4_31 rfl ?_
  refine Rn.dadd (pc' := 33) (v := (FP.l2d (((g0.toInt64 + g1.toInt64) + g2.toInt64) + g3.toInt64))) d4_32 (Jvm.Free.Fl.l2d_fin _).noNaN (own_dadd (own_w (own_s (g := g2) (own_s (g := g1) (own_s1 g0) (by decide)) (by decide)) (by decide))) rfl ?_
  refine Rn.dastore (pc' := 34) (v := .double (FP.l2d (((g0.toInt64 + g1.toInt64) + g2.toInt64) + g3.toInt64))) A32 (by decide) (Nat.le_of_ble_eq_true rfl) rfl (Or.inr g4) Sf.no d4_33 rfl (fun h37 W36 A38 => ?_)
  have A39 : Ax Z h37 a1 .double ([.double (0 : UInt64), .double (FP.l2d g0.toInt64), .double (FP.l2d (g0.toInt64 + g1.toInt64)), .double (FP.l2d ((g0.toInt64 + g1.toInt64) + g2.toInt64)), .double (FP.l2d (((g0.toInt64 + g1.toInt64) + g2.toInt64) + g3.toInt64))]) := A38
  refine Rn.iinc (pc' := 37) (v := (4 : Int32)) (Ls' := #[.val (.ref x), .val (.ref a1), .val (.int (4 : Int32))]) d4_34 rfl rfl rfl rfl ?_
  refine Rn.goto (pc' := 10) d4_37 (by decide) (by decide) ?_
  refine Rn.iloadN (pc' := 11) d4_10 rfl rfl ?_
  refine Rn.aloadN (pc' := 12) d4_11 rfl rfl rfl ?_
  have F40 := F33.other W36 (Or.inl n8)
  refine Rn.getF (pc' := 15) (host := "") (Or.inl (hw _ (List.mem_of_getElem? (i := 23) rfl))) Via.refl F40 d4_12 rfl ?_
  have F41 := F34.other W36 n10
  refine Rn.arraylength (pc' := 16) (n := (4 : Int32)) F41 rfl d4_15 rfl ?_
  refine Rn.icmp_ge (pc' := 40) (pn := 19) d4_16 (by decide) (by decide) rfl (fun c42 => ?_) (fun c42 => absurd c42 (by decide))
  refine Rn.aloadN (pc' := 41) d4_40 rfl rfl rfl ?_
  refine Rn.retA (t := (.array .double)) rfl rfl rfl d4_41 (Nat.le_of_ble_eq_true rfl) (Nat.le_of_ble_eq_true rfl) ?_
  exact ⟨_, rfl, g4, A39⟩
set_option maxRecDepth 65536 in
set_option maxHeartbeats 40000000 in
theorem own_law (Z : State) (a0 : Array Value) (hw : ∀ d ∈ tables_1, d.before a0 Z = true) (k g0 g1 g2 g3 c : Int32) (ec : (1 : Int32) + (k &&& (3 : Int32)) = c) (hc : c = 1 ∨ c = 2 ∨ c = 3 ∨ c = 4) :
    Rn false Z [] "com/example/ratecraft/ratecraft/ValuationRelativeValuesPinLaw" "law" code 18 ret room_1 Z.heap [] (fun v _ => v = some (.int 1)) [] 0 0 Z.heap 0 #[.val (.int k), .val (.int g0), .val (.int g1), .val (.int g2), .val (.int g3), .unset, .unset, .unset, .unset, .unset, .unset, .unset, .unset, .unset, .unset, .unset, .unset, .unset] [] := by
  refine Rn.iconst (pc' := 1) (v := (1 : Int32)) at_0 rfl rfl ?_
  refine Rn.iloadN (pc' := 2) at_1 rfl rfl ?_
  refine Rn.iconst (pc' := 3) (v := (3 : Int32)) at_2 rfl rfl ?_
  refine Rn.iand (pc' := 4) (v := (k &&& (3 : Int32))) at_3 rfl rfl ?_
  refine Rn.iadd (pc' := 5) (v := c) at_4 ec rfl ?_
  rcases hc with rfl | rfl | rfl | rfl
  ·
    refine Rn.istore (pc' := 7) (Ls' := #[.val (.int k), .val (.int g0), .val (.int g1), .val (.int g2), .val (.int g3), .val (.int (1 : Int32)), .unset, .unset, .unset, .unset, .unset, .unset, .unset, .unset, .unset, .unset, .unset, .unset]) at_5 rfl rfl ?_
    refine Rn.iload (pc' := 9) at_7 rfl rfl ?_
    refine Rn.iconst (pc' := 10) (v := (1 : Int32)) at_9 rfl rfl ?_
    refine Rn.iadd (pc' := 11) (v := (2 : Int32)) at_10 rfl rfl ?_
    refine Rn.iconst (pc' := 12) (v := (0 : Int32)) at_11 rfl rfl ?_
    refine Rn.iconst (pc' := 13) (v := (0 : Int32)) at_12 rfl rfl ?_
    refine Rn.iconst (pc' := 14) (v := (0 : Int32)) at_13 rfl rfl ?_
    refine Rn.iconst (pc' := 15) (v := (0 : Int32)) at_14 rfl rfl ?_
    refine Rn.iconst (pc' := 16) (v := (0 : Int32)) at_15 rfl rfl ?_
    refine Rn.callS (pc' := 19) (argsL := [.int (2 : Int32), .int (0 : Int32), .int (0 : Int32), .int (0 : Int32), .int (0 : Int32), .int (0 : Int32)]) (rest := []) (ct_mk2 Z a0 hw (0 : Int32) (0 : Int32) (0 : Int32) (0 : Int32) (0 : Int32) Z.heap) (hw _ (List.mem_of_getElem? (i := 0) rfl)) (hw _ (List.mem_of_getElem? (i := 1) rfl)) (hw _ (List.mem_of_getElem? (i := 2) rfl)) (hw _ (List.mem_of_getElem? (i := 3) rfl)) (by decide) rfl rfl (lenOf pd_1 rfl) rfl at_16 rfl (Nat.le_of_ble_eq_true rfl) (Nat.le_of_ble_eq_true rfl) (Nat.le_of_ble_eq_true rfl) (Nat.le_of_ble_eq_true rfl) (fun _ z => nomatch z) (fun _ z => nomatch z) (fun v4 h5 K6 q7 => ?_)
    obtain ⟨t1, rfl, ht2, A3⟩ := q7
    simp only [Option.toList, List.cons_append, List.nil_append]
    refine Rn.astore (pc' := 21) (Ls' := #[.val (.int k), .val (.int g0), .val (.int g1), .val (.int g2), .val (.int g3), .val (.int (1 : Int32)), .val (.ref t1), .unset, .unset, .unset, .unset, .unset, .unset, .unset, .unset, .unset, .unset, .unset]) at_19 rfl rfl rfl ?_
    refine Rn.iload (pc' := 23) at_21 rfl rfl ?_
    refine Rn.iloadN (pc' := 24) at_23 rfl rfl ?_
    refine Rn.iloadN (pc' := 25) at_24 rfl rfl ?_
    refine Rn.iloadN (pc' := 26) at_25 rfl rfl ?_
    refine Rn.iload (pc' := 28) at_26 rfl rfl ?_
    refine Rn.iconst (pc' := 29) (v := (0 : Int32)) at_28 rfl rfl ?_
    refine Rn.callS (pc' := 32) (argsL := [.int (1 : Int32), .int g0, .int g1, .int g2, .int g3, .int (0 : Int32)]) (rest := []) (ct_mk1 Z a0 hw g0 g1 g2 g3 (0 : Int32) h5) (hw _ (List.mem_of_getElem? (i := 0) rfl)) (hw _ (List.mem_of_getElem? (i := 1) rfl)) (hw _ (List.mem_of_getElem? (i := 2) rfl)) (hw _ (List.mem_of_getElem? (i := 3) rfl)) (by decide) rfl rfl (lenOf pd_1 rfl) rfl at_29 rfl (Nat.le_of_ble_eq_true rfl) (Nat.le_of_ble_eq_true rfl) (Nat.le_of_ble_eq_true rfl) (Nat.le_of_ble_eq_true rfl) (fun _ z => nomatch z) (fun _ z => nomatch z) (fun v11 h12 K13 q14 => ?_)
    obtain ⟨t8, rfl, ht9, A10⟩ := q14
    simp only [Option.toList, List.cons_append, List.nil_append]
    have n15 : t1 ≠ t8 := Nat.ne_of_lt (Nat.lt_of_lt_of_le A3.lt ht9)
    refine Rn.astore (pc' := 34) (Ls' := #[.val (.int k), .val (.int g0), .val (.int g1), .val (.int g2), .val (.int g3), .val (.int (1 : Int32)), .val (.ref t1), .val (.ref t8), .unset, .unset, .unset, .unset, .unset, .unset, .unset, .unset, .unset, .unset]) at_32 rfl rfl rfl ?_
    refine Rn.newO (pc' := 37) (hw _ (List.mem_of_getElem? (i := 5) rfl)) (hw _ (List.mem_of_getElem? (i := 6) rfl)) (hw _ (List.mem_of_getElem? (i := 7) rfl)) at_34 (Nat.le_of_ble_eq_true rfl) (Nat.le_of_ble_eq_true rfl) rfl (fun h17 a16 e18 g19 E20 ⟨A21, D22, U23⟩ => ?_)
    have F24 := A3.keep K13 nin0
    have n25 : t1 ≠ a16 := by rw [e18]; exact Nat.ne_of_lt (F24.lt)
    have n26 : t8 ≠ a16 := by rw [e18]; exact Nat.ne_of_lt (A10.lt)
    have F27 : Fld Z h17 a16 "com/example/ratecraft/ratecraft/OccupancyModel$Valuation" "prices" "[D" (.null) := D22 (Or.inr (hw _ (List.mem_of_getElem? (i := 20) rfl))) (ty := (.array .double)) (by decide)
    have F28 : Fld Z h17 a16 "com/example/ratecraft/ratecraft/OccupancyModel$Valuation" "revenueRate" "D" (.double (0 : UInt64)) := D22 (Or.inr (hw _ (List.mem_of_getElem? (i := 22) rfl))) (ty := .double) (by decide)
    have F29 : Fld Z h17 a16 "com/example/ratecraft/ratecraft/OccupancyModel$Valuation" "gains" "[D" (.null) := D22 (Or.inr (hw _ (List.mem_of_getElem? (i := 24) rfl))) (ty := (.array .double)) (by decide)
    refine Rn.dup (pc' := 38) at_37 rfl rfl ?_
    refine Rn.aload (pc' := 40) at_38 rfl rfl rfl ?_
    refine Rn.dconst0 (pc' := 41) (v := FP.l2d 0) at_40 (by decide +kernel) rfl ?_
    refine Rn.aload (pc' := 43) at_41 rfl rfl rfl ?_
    refine Rn.callI (pc' := 46) (argsL := [.ref t1, .double (FP.l2d 0), .ref t8]) (a := a16) (rest := [.ref a16]) (ct_va Z a0 hw a16 t1 t8 h17 A21 F27 F28 F29) rfl (hw _ (List.mem_of_getElem? (i := 8) rfl)) (hw _ (List.mem_of_getElem? (i := 9) rfl)) (hw _ (List.mem_of_getElem? (i := 7) rfl)) (hw _ (List.mem_of_getElem? (i := 10) rfl)) (by decide) rfl rfl (lenOf pd_2 rfl) rfl at_43 rfl (Nat.le_of_ble_eq_true rfl) (Nat.le_of_ble_eq_true rfl) (Nat.le_of_ble_eq_true rfl) (Nat.le_of_ble_eq_true rfl) (allS (Or.inr g19) all0) (allS Sf.no (all0)) (fun v30 h31 K32 q33 => ?_)
    obtain ⟨rfl, Ex, Fp, Fg⟩ := q33
    simp only [Option.toList, List.cons_append, List.nil_append]
    refine Rn.astore (pc' := 48) (Ls' := #[.val (.int k), .val (.int g0), .val (.int g1), .val (.int g2), .val (.int g3), .val (.int (1 : Int32)), .val (.ref t1), .val (.ref t8), .val (.ref a16), .unset, .unset, .unset, .unset, .unset, .unset, .unset, .unset, .unset]) at_46 rfl rfl rfl ?_
    refine Rn.aload (pc' := 50) at_48 rfl rfl rfl ?_
    have F34 := F24.ext E20
    have F35 := F34.keep K32 (ninS n25 nin0)
    have F36 := A10.ext E20
    have F37 := F36.keep K32 (ninS n26 nin0)
    refine Rn.callV (pc' := 53) (argsL := []) (a := a16) (rest := []) (ct_rv1 Z a0 hw a16 t1 t8 g0 g1 g2 g3 h31 Fp Fg F35 F37) Ex (hw _ (List.mem_of_getElem? (i := 25) rfl)) (hw _ (List.mem_of_getElem? (i := 26) rfl)) (fun _ hZ => notFace_of_selects (args := #[]) (mvT hZ (hw _ (List.mem_of_getElem? (i := 28) rfl)))) (hw _ (List.mem_of_getElem? (i := 28) rfl)) (hw _ (List.mem_of_getElem? (i := 27) rfl)) (hw _ (List.mem_of_getElem? (i := 7) rfl)) (hw _ (List.mem_of_getElem? (i := 29) rfl)) (by decide) rfl rfl (lenOf pd_3 rfl) rfl at_50 rfl (Nat.le_of_ble_eq_true rfl) (Nat.le_of_ble_eq_true rfl) (Nat.le_of_ble_eq_true rfl) (Nat.le_of_ble_eq_true rfl) (fun _ z => nomatch z) (fun _ z => nomatch z) (fun v38 h39 K40 q41 => ?_)
    obtain ⟨th, rfl, hth, Ah⟩ := q41
    simp only [Option.toList, List.cons_append, List.nil_append]
    refine Rn.astore (pc' := 55) (Ls' := #[.val (.int k), .val (.int g0), .val (.int g1), .val (.int g2), .val (.int g3), .val (.int (1 : Int32)), .val (.ref t1), .val (.ref t8), .val (.ref a16), .val (.ref th), .unset, .unset, .unset, .unset, .unset, .unset, .unset, .unset]) at_53 rfl rfl rfl ?_
    refine Rn.aload (pc' := 57) at_55 rfl rfl rfl ?_
    refine Rn.ifnull_n (pc' := 60) at_57 rfl ?_
    refine Rn.aload (pc' := 62) at_60 rfl rfl rfl ?_
    refine Rn.arraylength (pc' := 63) (n := (2 : Int32)) Ah rfl at_62 rfl ?_
    refine Rn.iload (pc' := 65) at_63 rfl rfl ?_
    refine Rn.iconst (pc' := 66) (v := (1 : Int32)) at_65 rfl rfl ?_
    refine Rn.iadd (pc' := 67) (v := (2 : Int32)) at_66 rfl rfl ?_
    refine Rn.icmp_eq (pc' := 72) (pn := 70) at_67 (by decide) (by decide) rfl (fun c42 => ?_) (fun c42 => absurd c42 (by decide))
    refine Rn.iloadN (pc' := 73) at_72 rfl rfl ?_
    refine Rn.i2l (pc' := 74) (v := (g0.toInt64)) at_73 rfl rfl ?_
    refine Rn.lstore (pc' := 76) (Ls' := #[.val (.int k), .val (.int g0), .val (.int g1), .val (.int g2), .val (.int g3), .val (.int (1 : Int32)), .val (.ref t1), .val (.ref t8), .val (.ref a16), .val (.ref th), .val (.long (g0.toInt64)), .second, .unset, .unset, .unset, .unset, .unset, .unset]) at_74 rfl rfl ?_
    refine Rn.lload (pc' := 78) at_76 rfl rfl ?_
    refine Rn.iloadN (pc' := 79) at_78 rfl rfl ?_
    refine Rn.i2l (pc' := 80) (v := (g1.toInt64)) at_79 rfl rfl ?_
    refine Rn.ladd (pc' := 81) (v := ((g0.toInt64) + (g1.toInt64))) at_80 rfl rfl ?_
    refine Rn.lstore (pc' := 83) (Ls' := #[.val (.int k), .val (.int g0), .val (.int g1), .val (.int g2), .val (.int g3), .val (.int (1 : Int32)), .val (.ref t1), .val (.ref t8), .val (.ref a16), .val (.ref th), .val (.long (g0.toInt64)), .second, .val (.long ((g0.toInt64) + (g1.toInt64))), .second, .unset, .unset, .unset, .unset]) at_81 rfl rfl ?_
    refine Rn.lload (pc' := 85) at_83 rfl rfl ?_
    refine Rn.iloadN (pc' := 86) at_85 rfl rfl ?_
    refine Rn.i2l (pc' := 87) (v := (g2.toInt64)) at_86 rfl rfl ?_
    refine Rn.ladd (pc' := 88) (v := (((g0.toInt64) + (g1.toInt64)) + (g2.toInt64))) at_87 rfl rfl ?_
    refine Rn.lstore (pc' := 90) (Ls' := #[.val (.int k), .val (.int g0), .val (.int g1), .val (.int g2), .val (.int g3), .val (.int (1 : Int32)), .val (.ref t1), .val (.ref t8), .val (.ref a16), .val (.ref th), .val (.long (g0.toInt64)), .second, .val (.long ((g0.toInt64) + (g1.toInt64))), .second, .val (.long (((g0.toInt64) + (g1.toInt64)) + (g2.toInt64))), .second, .unset, .unset]) at_88 rfl rfl ?_
    refine Rn.lload (pc' := 92) at_90 rfl rfl ?_
    refine Rn.iload (pc' := 94) at_92 rfl rfl ?_
    refine Rn.i2l (pc' := 95) (v := (g3.toInt64)) at_94 rfl rfl ?_
    refine Rn.ladd (pc' := 96) (v := ((((g0.toInt64) + (g1.toInt64)) + (g2.toInt64)) + (g3.toInt64))) at_95 rfl rfl ?_
    refine Rn.lstore (pc' := 98) (Ls' := #[.val (.int k), .val (.int g0), .val (.int g1), .val (.int g2), .val (.int g3), .val (.int (1 : Int32)), .val (.ref t1), .val (.ref t8), .val (.ref a16), .val (.ref th), .val (.long (g0.toInt64)), .second, .val (.long ((g0.toInt64) + (g1.toInt64))), .second, .val (.long (((g0.toInt64) + (g1.toInt64)) + (g2.toInt64))), .second, .val (.long ((((g0.toInt64) + (g1.toInt64)) + (g2.toInt64)) + (g3.toInt64))), .second]) at_96 rfl rfl ?_
    refine Rn.aload (pc' := 100) at_98 rfl rfl rfl ?_
    refine Rn.iconst (pc' := 101) (v := (0 : Int32)) at_100 rfl rfl ?_
    refine Rn.daload (pc' := 102) (v := .double (0 : UInt64)) Ah (by decide) rfl at_101 rfl ?_
    refine Rn.dconst0 (pc' := 103) (v := FP.l2d 0) at_102 (by decide +kernel) rfl ?_
    refine Rn.dcmp (pc' := 104) (v := (0 : Int32)) at_103 own_self0 rfl ?_
    refine Rn.if_eq (pc' := 109) (pn := 107) at_104 (by decide) (by decide) rfl (fun c43 => ?_) (fun c43 => absurd c43 (by decide))
    refine Rn.aload (pc' := 111) at_109 rfl rfl rfl ?_
    refine Rn.iconst (pc' := 112) (v := (1 : Int32)) at_111 rfl rfl ?_
    refine Rn.daload (pc' := 113) (v := .double (FP.l2d g0.toInt64)) Ah (by decide) rfl at_112 rfl ?_
    refine Rn.lload (pc' := 115) at_113 rfl rfl ?_
    refine Rn.l2d (pc' := 116) (v := (FP.l2d (g0.toInt64))) at_115 rfl rfl ?_
    refine Rn.dcmp (pc' := 117) (v := (0 : Int32)) at_116 (own_self _ _) rfl ?_
    refine Rn.if_ne (pc' := 130) (pn := 120) at_117 (by decide) (by decide) rfl (fun c44 => absurd c44 (by decide)) (fun c44 => ?_)
    refine Rn.aload (pc' := 122) at_120 rfl rfl rfl ?_
    refine Rn.iconst (pc' := 123) (v := (0 : Int32)) at_122 rfl rfl ?_
    have F45 := F37.keep K40 nin0
    refine Rn.daload (pc' := 124) (v := .double (FP.i2d g0)) F45 (by decide) rfl at_123 rfl ?_
    refine Rn.iloadN (pc' := 125) at_124 rfl rfl ?_
    refine Rn.i2d (pc' := 126) (v := (FP.i2d g0)) at_125 rfl rfl ?_
    refine Rn.dcmp (pc' := 127) (v := (0 : Int32)) at_126 (own_selfi _ _) rfl ?_
    refine Rn.if_eq (pc' := 132) (pn := 130) at_127 (by decide) (by decide) rfl (fun c46 => ?_) (fun c46 => absurd c46 (by decide))
    refine Rn.iload (pc' := 134) at_132 rfl rfl ?_
    refine Rn.iconst (pc' := 135) (v := (2 : Int32)) at_134 rfl rfl ?_
    refine Rn.icmp_lt (pc' := 161) (pn := 138) at_135 (by decide) (by decide) rfl (fun c47 => ?_) (fun c47 => absurd c47 (by decide))
    refine Rn.iload (pc' := 163) at_161 rfl rfl ?_
    refine Rn.iconst (pc' := 164) (v := (3 : Int32)) at_163 rfl rfl ?_
    refine Rn.icmp_lt (pc' := 190) (pn := 167) at_164 (by decide) (by decide) rfl (fun c48 => ?_) (fun c48 => absurd c48 (by decide))
    refine Rn.iload (pc' := 192) at_190 rfl rfl ?_
    refine Rn.iconst (pc' := 193) (v := (4 : Int32)) at_192 rfl rfl ?_
    refine Rn.icmp_lt (pc' := 220) (pn := 196) at_193 (by decide) (by decide) rfl (fun c49 => ?_) (fun c49 => absurd c49 (by decide))
    refine Rn.iconst (pc' := 221) (v := (1 : Int32)) at_220 rfl rfl ?_
    refine Rn.retN (t := .boolean) rfl (by simp) at_221 (Nat.le_of_ble_eq_true rfl) (Nat.le_of_ble_eq_true rfl) ?_
    rfl
  ·
    refine Rn.istore (pc' := 7) (Ls' := #[.val (.int k), .val (.int g0), .val (.int g1), .val (.int g2), .val (.int g3), .val (.int (2 : Int32)), .unset, .unset, .unset, .unset, .unset, .unset, .unset, .unset, .unset, .unset, .unset, .unset]) at_5 rfl rfl ?_
    refine Rn.iload (pc' := 9) at_7 rfl rfl ?_
    refine Rn.iconst (pc' := 10) (v := (1 : Int32)) at_9 rfl rfl ?_
    refine Rn.iadd (pc' := 11) (v := (3 : Int32)) at_10 rfl rfl ?_
    refine Rn.iconst (pc' := 12) (v := (0 : Int32)) at_11 rfl rfl ?_
    refine Rn.iconst (pc' := 13) (v := (0 : Int32)) at_12 rfl rfl ?_
    refine Rn.iconst (pc' := 14) (v := (0 : Int32)) at_13 rfl rfl ?_
    refine Rn.iconst (pc' := 15) (v := (0 : Int32)) at_14 rfl rfl ?_
    refine Rn.iconst (pc' := 16) (v := (0 : Int32)) at_15 rfl rfl ?_
    refine Rn.callS (pc' := 19) (argsL := [.int (3 : Int32), .int (0 : Int32), .int (0 : Int32), .int (0 : Int32), .int (0 : Int32), .int (0 : Int32)]) (rest := []) (ct_mk3 Z a0 hw (0 : Int32) (0 : Int32) (0 : Int32) (0 : Int32) (0 : Int32) Z.heap) (hw _ (List.mem_of_getElem? (i := 0) rfl)) (hw _ (List.mem_of_getElem? (i := 1) rfl)) (hw _ (List.mem_of_getElem? (i := 2) rfl)) (hw _ (List.mem_of_getElem? (i := 3) rfl)) (by decide) rfl rfl (lenOf pd_1 rfl) rfl at_16 rfl (Nat.le_of_ble_eq_true rfl) (Nat.le_of_ble_eq_true rfl) (Nat.le_of_ble_eq_true rfl) (Nat.le_of_ble_eq_true rfl) (fun _ z => nomatch z) (fun _ z => nomatch z) (fun v53 h54 K55 q56 => ?_)
    obtain ⟨t50, rfl, ht51, A52⟩ := q56
    simp only [Option.toList, List.cons_append, List.nil_append]
    refine Rn.astore (pc' := 21) (Ls' := #[.val (.int k), .val (.int g0), .val (.int g1), .val (.int g2), .val (.int g3), .val (.int (2 : Int32)), .val (.ref t50), .unset, .unset, .unset, .unset, .unset, .unset, .unset, .unset, .unset, .unset, .unset]) at_19 rfl rfl rfl ?_
    refine Rn.iload (pc' := 23) at_21 rfl rfl ?_
    refine Rn.iloadN (pc' := 24) at_23 rfl rfl ?_
    refine Rn.iloadN (pc' := 25) at_24 rfl rfl ?_
    refine Rn.iloadN (pc' := 26) at_25 rfl rfl ?_
    refine Rn.iload (pc' := 28) at_26 rfl rfl ?_
    refine Rn.iconst (pc' := 29) (v := (0 : Int32)) at_28 rfl rfl ?_
    refine Rn.callS (pc' := 32) (argsL := [.int (2 : Int32), .int g0, .int g1, .int g2, .int g3, .int (0 : Int32)]) (rest := []) (ct_mk2 Z a0 hw g0 g1 g2 g3 (0 : Int32) h54) (hw _ (List.mem_of_getElem? (i := 0) rfl)) (hw _ (List.mem_of_getElem? (i := 1) rfl)) (hw _ (List.mem_of_getElem? (i := 2) rfl)) (hw _ (List.mem_of_getElem? (i := 3) rfl)) (by decide) rfl rfl (lenOf pd_1 rfl) rfl at_29 rfl (Nat.le_of_ble_eq_true rfl) (Nat.le_of_ble_eq_true rfl) (Nat.le_of_ble_eq_true rfl) (Nat.le_of_ble_eq_true rfl) (fun _ z => nomatch z) (fun _ z => nomatch z) (fun v60 h61 K62 q63 => ?_)
    obtain ⟨t57, rfl, ht58, A59⟩ := q63
    simp only [Option.toList, List.cons_append, List.nil_append]
    have n64 : t50 ≠ t57 := Nat.ne_of_lt (Nat.lt_of_lt_of_le A52.lt ht58)
    refine Rn.astore (pc' := 34) (Ls' := #[.val (.int k), .val (.int g0), .val (.int g1), .val (.int g2), .val (.int g3), .val (.int (2 : Int32)), .val (.ref t50), .val (.ref t57), .unset, .unset, .unset, .unset, .unset, .unset, .unset, .unset, .unset, .unset]) at_32 rfl rfl rfl ?_
    refine Rn.newO (pc' := 37) (hw _ (List.mem_of_getElem? (i := 5) rfl)) (hw _ (List.mem_of_getElem? (i := 6) rfl)) (hw _ (List.mem_of_getElem? (i := 7) rfl)) at_34 (Nat.le_of_ble_eq_true rfl) (Nat.le_of_ble_eq_true rfl) rfl (fun h66 a65 e67 g68 E69 ⟨A70, D71, U72⟩ => ?_)
    have F73 := A52.keep K62 nin0
    have n74 : t50 ≠ a65 := by rw [e67]; exact Nat.ne_of_lt (F73.lt)
    have n75 : t57 ≠ a65 := by rw [e67]; exact Nat.ne_of_lt (A59.lt)
    have F76 : Fld Z h66 a65 "com/example/ratecraft/ratecraft/OccupancyModel$Valuation" "prices" "[D" (.null) := D71 (Or.inr (hw _ (List.mem_of_getElem? (i := 20) rfl))) (ty := (.array .double)) (by decide)
    have F77 : Fld Z h66 a65 "com/example/ratecraft/ratecraft/OccupancyModel$Valuation" "revenueRate" "D" (.double (0 : UInt64)) := D71 (Or.inr (hw _ (List.mem_of_getElem? (i := 22) rfl))) (ty := .double) (by decide)
    have F78 : Fld Z h66 a65 "com/example/ratecraft/ratecraft/OccupancyModel$Valuation" "gains" "[D" (.null) := D71 (Or.inr (hw _ (List.mem_of_getElem? (i := 24) rfl))) (ty := (.array .double)) (by decide)
    refine Rn.dup (pc' := 38) at_37 rfl rfl ?_
    refine Rn.aload (pc' := 40) at_38 rfl rfl rfl ?_
    refine Rn.dconst0 (pc' := 41) (v := FP.l2d 0) at_40 (by decide +kernel) rfl ?_
    refine Rn.aload (pc' := 43) at_41 rfl rfl rfl ?_
    refine Rn.callI (pc' := 46) (argsL := [.ref t50, .double (FP.l2d 0), .ref t57]) (a := a65) (rest := [.ref a65]) (ct_va Z a0 hw a65 t50 t57 h66 A70 F76 F77 F78) rfl (hw _ (List.mem_of_getElem? (i := 8) rfl)) (hw _ (List.mem_of_getElem? (i := 9) rfl)) (hw _ (List.mem_of_getElem? (i := 7) rfl)) (hw _ (List.mem_of_getElem? (i := 10) rfl)) (by decide) rfl rfl (lenOf pd_2 rfl) rfl at_43 rfl (Nat.le_of_ble_eq_true rfl) (Nat.le_of_ble_eq_true rfl) (Nat.le_of_ble_eq_true rfl) (Nat.le_of_ble_eq_true rfl) (allS (Or.inr g68) all0) (allS Sf.no (all0)) (fun v79 h80 K81 q82 => ?_)
    obtain ⟨rfl, Ex, Fp, Fg⟩ := q82
    simp only [Option.toList, List.cons_append, List.nil_append]
    refine Rn.astore (pc' := 48) (Ls' := #[.val (.int k), .val (.int g0), .val (.int g1), .val (.int g2), .val (.int g3), .val (.int (2 : Int32)), .val (.ref t50), .val (.ref t57), .val (.ref a65), .unset, .unset, .unset, .unset, .unset, .unset, .unset, .unset, .unset]) at_46 rfl rfl rfl ?_
    refine Rn.aload (pc' := 50) at_48 rfl rfl rfl ?_
    have F83 := F73.ext E69
    have F84 := F83.keep K81 (ninS n74 nin0)
    have F85 := A59.ext E69
    have F86 := F85.keep K81 (ninS n75 nin0)
    refine Rn.callV (pc' := 53) (argsL := []) (a := a65) (rest := []) (ct_rv2 Z a0 hw a65 t50 t57 g0 g1 g2 g3 h80 Fp Fg F84 F86) Ex (hw _ (List.mem_of_getElem? (i := 25) rfl)) (hw _ (List.mem_of_getElem? (i := 26) rfl)) (fun _ hZ => notFace_of_selects (args := #[]) (mvT hZ (hw _ (List.mem_of_getElem? (i := 28) rfl)))) (hw _ (List.mem_of_getElem? (i := 28) rfl)) (hw _ (List.mem_of_getElem? (i := 27) rfl)) (hw _ (List.mem_of_getElem? (i := 7) rfl)) (hw _ (List.mem_of_getElem? (i := 29) rfl)) (by decide) rfl rfl (lenOf pd_3 rfl) rfl at_50 rfl (Nat.le_of_ble_eq_true rfl) (Nat.le_of_ble_eq_true rfl) (Nat.le_of_ble_eq_true rfl) (Nat.le_of_ble_eq_true rfl) (fun _ z => nomatch z) (fun _ z => nomatch z) (fun v87 h88 K89 q90 => ?_)
    obtain ⟨th, rfl, hth, Ah⟩ := q90
    simp only [Option.toList, List.cons_append, List.nil_append]
    refine Rn.astore (pc' := 55) (Ls' := #[.val (.int k), .val (.int g0), .val (.int g1), .val (.int g2), .val (.int g3), .val (.int (2 : Int32)), .val (.ref t50), .val (.ref t57), .val (.ref a65), .val (.ref th), .unset, .unset, .unset, .unset, .unset, .unset, .unset, .unset]) at_53 rfl rfl rfl ?_
    refine Rn.aload (pc' := 57) at_55 rfl rfl rfl ?_
    refine Rn.ifnull_n (pc' := 60) at_57 rfl ?_
    refine Rn.aload (pc' := 62) at_60 rfl rfl rfl ?_
    refine Rn.arraylength (pc' := 63) (n := (3 : Int32)) Ah rfl at_62 rfl ?_
    refine Rn.iload (pc' := 65) at_63 rfl rfl ?_
    refine Rn.iconst (pc' := 66) (v := (1 : Int32)) at_65 rfl rfl ?_
    refine Rn.iadd (pc' := 67) (v := (3 : Int32)) at_66 rfl rfl ?_
    refine Rn.icmp_eq (pc' := 72) (pn := 70) at_67 (by decide) (by decide) rfl (fun c91 => ?_) (fun c91 => absurd c91 (by decide))
    refine Rn.iloadN (pc' := 73) at_72 rfl rfl ?_
    refine Rn.i2l (pc' := 74) (v := (g0.toInt64)) at_73 rfl rfl ?_
    refine Rn.lstore (pc' := 76) (Ls' := #[.val (.int k), .val (.int g0), .val (.int g1), .val (.int g2), .val (.int g3), .val (.int (2 : Int32)), .val (.ref t50), .val (.ref t57), .val (.ref a65), .val (.ref th), .val (.long (g0.toInt64)), .second, .unset, .unset, .unset, .unset, .unset, .unset]) at_74 rfl rfl ?_
    refine Rn.lload (pc' := 78) at_76 rfl rfl ?_
    refine Rn.iloadN (pc' := 79) at_78 rfl rfl ?_
    refine Rn.i2l (pc' := 80) (v := (g1.toInt64)) at_79 rfl rfl ?_
    refine Rn.ladd (pc' := 81) (v := ((g0.toInt64) + (g1.toInt64))) at_80 rfl rfl ?_
    refine Rn.lstore (pc' := 83) (Ls' := #[.val (.int k), .val (.int g0), .val (.int g1), .val (.int g2), .val (.int g3), .val (.int (2 : Int32)), .val (.ref t50), .val (.ref t57), .val (.ref a65), .val (.ref th), .val (.long (g0.toInt64)), .second, .val (.long ((g0.toInt64) + (g1.toInt64))), .second, .unset, .unset, .unset, .unset]) at_81 rfl rfl ?_
    refine Rn.lload (pc' := 85) at_83 rfl rfl ?_
    refine Rn.iloadN (pc' := 86) at_85 rfl rfl ?_
    refine Rn.i2l (pc' := 87) (v := (g2.toInt64)) at_86 rfl rfl ?_
    refine Rn.ladd (pc' := 88) (v := (((g0.toInt64) + (g1.toInt64)) + (g2.toInt64))) at_87 rfl rfl ?_
    refine Rn.lstore (pc' := 90) (Ls' := #[.val (.int k), .val (.int g0), .val (.int g1), .val (.int g2), .val (.int g3), .val (.int (2 : Int32)), .val (.ref t50), .val (.ref t57), .val (.ref a65), .val (.ref th), .val (.long (g0.toInt64)), .second, .val (.long ((g0.toInt64) + (g1.toInt64))), .second, .val (.long (((g0.toInt64) + (g1.toInt64)) + (g2.toInt64))), .second, .unset, .unset]) at_88 rfl rfl ?_
    refine Rn.lload (pc' := 92) at_90 rfl rfl ?_
    refine Rn.iload (pc' := 94) at_92 rfl rfl ?_
    refine Rn.i2l (pc' := 95) (v := (g3.toInt64)) at_94 rfl rfl ?_
    refine Rn.ladd (pc' := 96) (v := ((((g0.toInt64) + (g1.toInt64)) + (g2.toInt64)) + (g3.toInt64))) at_95 rfl rfl ?_
    refine Rn.lstore (pc' := 98) (Ls' := #[.val (.int k), .val (.int g0), .val (.int g1), .val (.int g2), .val (.int g3), .val (.int (2 : Int32)), .val (.ref t50), .val (.ref t57), .val (.ref a65), .val (.ref th), .val (.long (g0.toInt64)), .second, .val (.long ((g0.toInt64) + (g1.toInt64))), .second, .val (.long (((g0.toInt64) + (g1.toInt64)) + (g2.toInt64))), .second, .val (.long ((((g0.toInt64) + (g1.toInt64)) + (g2.toInt64)) + (g3.toInt64))), .second]) at_96 rfl rfl ?_
    refine Rn.aload (pc' := 100) at_98 rfl rfl rfl ?_
    refine Rn.iconst (pc' := 101) (v := (0 : Int32)) at_100 rfl rfl ?_
    refine Rn.daload (pc' := 102) (v := .double (0 : UInt64)) Ah (by decide) rfl at_101 rfl ?_
    refine Rn.dconst0 (pc' := 103) (v := FP.l2d 0) at_102 (by decide +kernel) rfl ?_
    refine Rn.dcmp (pc' := 104) (v := (0 : Int32)) at_103 own_self0 rfl ?_
    refine Rn.if_eq (pc' := 109) (pn := 107) at_104 (by decide) (by decide) rfl (fun c92 => ?_) (fun c92 => absurd c92 (by decide))
    refine Rn.aload (pc' := 111) at_109 rfl rfl rfl ?_
    refine Rn.iconst (pc' := 112) (v := (1 : Int32)) at_111 rfl rfl ?_
    refine Rn.daload (pc' := 113) (v := .double (FP.l2d g0.toInt64)) Ah (by decide) rfl at_112 rfl ?_
    refine Rn.lload (pc' := 115) at_113 rfl rfl ?_
    refine Rn.l2d (pc' := 116) (v := (FP.l2d (g0.toInt64))) at_115 rfl rfl ?_
    refine Rn.dcmp (pc' := 117) (v := (0 : Int32)) at_116 (own_self _ _) rfl ?_
    refine Rn.if_ne (pc' := 130) (pn := 120) at_117 (by decide) (by decide) rfl (fun c93 => absurd c93 (by decide)) (fun c93 => ?_)
    refine Rn.aload (pc' := 122) at_120 rfl rfl rfl ?_
    refine Rn.iconst (pc' := 123) (v := (0 : Int32)) at_122 rfl rfl ?_
    have F94 := F86.keep K89 nin0
    refine Rn.daload (pc' := 124) (v := .double (FP.i2d g0)) F94 (by decide) rfl at_123 rfl ?_
    refine Rn.iloadN (pc' := 125) at_124 rfl rfl ?_
    refine Rn.i2d (pc' := 126) (v := (FP.i2d g0)) at_125 rfl rfl ?_
    refine Rn.dcmp (pc' := 127) (v := (0 : Int32)) at_126 (own_selfi _ _) rfl ?_
    refine Rn.if_eq (pc' := 132) (pn := 130) at_127 (by decide) (by decide) rfl (fun c95 => ?_) (fun c95 => absurd c95 (by decide))
    refine Rn.iload (pc' := 134) at_132 rfl rfl ?_
    refine Rn.iconst (pc' := 135) (v := (2 : Int32)) at_134 rfl rfl ?_
    refine Rn.icmp_lt (pc' := 161) (pn := 138) at_135 (by decide) (by decide) rfl (fun c96 => absurd c96 (by decide)) (fun c96 => ?_)
    refine Rn.aload (pc' := 140) at_138 rfl rfl rfl ?_
    refine Rn.iconst (pc' := 141) (v := (2 : Int32)) at_140 rfl rfl ?_
    refine Rn.daload (pc' := 142) (v := .double (FP.l2d (g0.toInt64 + g1.toInt64))) Ah (by decide) rfl at_141 rfl ?_
    refine Rn.lload (pc' := 144) at_142 rfl rfl ?_
    refine Rn.l2d (pc' := 145) (v := (FP.l2d ((g0.toInt64) + (g1.toInt64)))) at_144 rfl rfl ?_
    refine Rn.dcmp (pc' := 146) (v := (0 : Int32)) at_145 (own_self _ _) rfl ?_
    refine Rn.if_ne (pc' := 159) (pn := 149) at_146 (by decide) (by decide) rfl (fun c97 => absurd c97 (by decide)) (fun c97 => ?_)
    refine Rn.aload (pc' := 151) at_149 rfl rfl rfl ?_
    refine Rn.iconst (pc' := 152) (v := (1 : Int32)) at_151 rfl rfl ?_
    refine Rn.daload (pc' := 153) (v := .double (FP.i2d g1)) F94 (by decide) rfl at_152 rfl ?_
    refine Rn.iloadN (pc' := 154) at_153 rfl rfl ?_
    refine Rn.i2d (pc' := 155) (v := (FP.i2d g1)) at_154 rfl rfl ?_
    refine Rn.dcmp (pc' := 156) (v := (0 : Int32)) at_155 (own_selfi _ _) rfl ?_
    refine Rn.if_eq (pc' := 161) (pn := 159) at_156 (by decide) (by decide) rfl (fun c98 => ?_) (fun c98 => absurd c98 (by decide))
    refine Rn.iload (pc' := 163) at_161 rfl rfl ?_
    refine Rn.iconst (pc' := 164) (v := (3 : Int32)) at_163 rfl rfl ?_
    refine Rn.icmp_lt (pc' := 190) (pn := 167) at_164 (by decide) (by decide) rfl (fun c99 => ?_) (fun c99 => absurd c99 (by decide))
    refine Rn.iload (pc' := 192) at_190 rfl rfl ?_
    refine Rn.iconst (pc' := 193) (v := (4 : Int32)) at_192 rfl rfl ?_
    refine Rn.icmp_lt (pc' := 220) (pn := 196) at_193 (by decide) (by decide) rfl (fun c100 => ?_) (fun c100 => absurd c100 (by decide))
    refine Rn.iconst (pc' := 221) (v := (1 : Int32)) at_220 rfl rfl ?_
    refine Rn.retN (t := .boolean) rfl (by simp) at_221 (Nat.le_of_ble_eq_true rfl) (Nat.le_of_ble_eq_true rfl) ?_
    rfl
  ·
    refine Rn.istore (pc' := 7) (Ls' := #[.val (.int k), .val (.int g0), .val (.int g1), .val (.int g2), .val (.int g3), .val (.int (3 : Int32)), .unset, .unset, .unset, .unset, .unset, .unset, .unset, .unset, .unset, .unset, .unset, .unset]) at_5 rfl rfl ?_
    refine Rn.iload (pc' := 9) at_7 rfl rfl ?_
    refine Rn.iconst (pc' := 10) (v := (1 : Int32)) at_9 rfl rfl ?_
    refine Rn.iadd (pc' := 11) (v := (4 : Int32)) at_10 rfl rfl ?_
    refine Rn.iconst (pc' := 12) (v := (0 : Int32)) at_11 rfl rfl ?_
    refine Rn.iconst (pc' := 13) (v := (0 : Int32)) at_12 rfl rfl ?_
    refine Rn.iconst (pc' := 14) (v := (0 : Int32)) at_13 rfl rfl ?_
    refine Rn.iconst (pc' := 15) (v := (0 : Int32)) at_14 rfl rfl ?_
    refine Rn.iconst (pc' := 16) (v := (0 : Int32)) at_15 rfl rfl ?_
    refine Rn.callS (pc' := 19) (argsL := [.int (4 : Int32), .int (0 : Int32), .int (0 : Int32), .int (0 : Int32), .int (0 : Int32), .int (0 : Int32)]) (rest := []) (ct_mk4 Z a0 hw (0 : Int32) (0 : Int32) (0 : Int32) (0 : Int32) (0 : Int32) Z.heap) (hw _ (List.mem_of_getElem? (i := 0) rfl)) (hw _ (List.mem_of_getElem? (i := 1) rfl)) (hw _ (List.mem_of_getElem? (i := 2) rfl)) (hw _ (List.mem_of_getElem? (i := 3) rfl)) (by decide) rfl rfl (lenOf pd_1 rfl) rfl at_16 rfl (Nat.le_of_ble_eq_true rfl) (Nat.le_of_ble_eq_true rfl) (Nat.le_of_ble_eq_true rfl) (Nat.le_of_ble_eq_true rfl) (fun _ z => nomatch z) (fun _ z => nomatch z) (fun v104 h105 K106 q107 => ?_)
    obtain ⟨t101, rfl, ht102, A103⟩ := q107
    simp only [Option.toList, List.cons_append, List.nil_append]
    refine Rn.astore (pc' := 21) (Ls' := #[.val (.int k), .val (.int g0), .val (.int g1), .val (.int g2), .val (.int g3), .val (.int (3 : Int32)), .val (.ref t101), .unset, .unset, .unset, .unset, .unset, .unset, .unset, .unset, .unset, .unset, .unset]) at_19 rfl rfl rfl ?_
    refine Rn.iload (pc' := 23) at_21 rfl rfl ?_
    refine Rn.iloadN (pc' := 24) at_23 rfl rfl ?_
    refine Rn.iloadN (pc' := 25) at_24 rfl rfl ?_
    refine Rn.iloadN (pc' := 26) at_25 rfl rfl ?_
    refine Rn.iload (pc' := 28) at_26 rfl rfl ?_
    refine Rn.iconst (pc' := 29) (v := (0 : Int32)) at_28 rfl rfl ?_
    refine Rn.callS (pc' := 32) (argsL := [.int (3 : Int32), .int g0, .int g1, .int g2, .int g3, .int (0 : Int32)]) (rest := []) (ct_mk3 Z a0 hw g0 g1 g2 g3 (0 : Int32) h105) (hw _ (List.mem_of_getElem? (i := 0) rfl)) (hw _ (List.mem_of_getElem? (i := 1) rfl)) (hw _ (List.mem_of_getElem? (i := 2) rfl)) (hw _ (List.mem_of_getElem? (i := 3) rfl)) (by decide) rfl rfl (lenOf pd_1 rfl) rfl at_29 rfl (Nat.le_of_ble_eq_true rfl) (Nat.le_of_ble_eq_true rfl) (Nat.le_of_ble_eq_true rfl) (Nat.le_of_ble_eq_true rfl) (fun _ z => nomatch z) (fun _ z => nomatch z) (fun v111 h112 K113 q114 => ?_)
    obtain ⟨t108, rfl, ht109, A110⟩ := q114
    simp only [Option.toList, List.cons_append, List.nil_append]
    have n115 : t101 ≠ t108 := Nat.ne_of_lt (Nat.lt_of_lt_of_le A103.lt ht109)
    refine Rn.astore (pc' := 34) (Ls' := #[.val (.int k), .val (.int g0), .val (.int g1), .val (.int g2), .val (.int g3), .val (.int (3 : Int32)), .val (.ref t101), .val (.ref t108), .unset, .unset, .unset, .unset, .unset, .unset, .unset, .unset, .unset, .unset]) at_32 rfl rfl rfl ?_
    refine Rn.newO (pc' := 37) (hw _ (List.mem_of_getElem? (i := 5) rfl)) (hw _ (List.mem_of_getElem? (i := 6) rfl)) (hw _ (List.mem_of_getElem? (i := 7) rfl)) at_34 (Nat.le_of_ble_eq_true rfl) (Nat.le_of_ble_eq_true rfl) rfl (fun h117 a116 e118 g119 E120 ⟨A121, D122, U123⟩ => ?_)
    have F124 := A103.keep K113 nin0
    have n125 : t101 ≠ a116 := by rw [e118]; exact Nat.ne_of_lt (F124.lt)
    have n126 : t108 ≠ a116 := by rw [e118]; exact Nat.ne_of_lt (A110.lt)
    have F127 : Fld Z h117 a116 "com/example/ratecraft/ratecraft/OccupancyModel$Valuation" "prices" "[D" (.null) := D122 (Or.inr (hw _ (List.mem_of_getElem? (i := 20) rfl))) (ty := (.array .double)) (by decide)
    have F128 : Fld Z h117 a116 "com/example/ratecraft/ratecraft/OccupancyModel$Valuation" "revenueRate" "D" (.double (0 : UInt64)) := D122 (Or.inr (hw _ (List.mem_of_getElem? (i := 22) rfl))) (ty := .double) (by decide)
    have F129 : Fld Z h117 a116 "com/example/ratecraft/ratecraft/OccupancyModel$Valuation" "gains" "[D" (.null) := D122 (Or.inr (hw _ (List.mem_of_getElem? (i := 24) rfl))) (ty := (.array .double)) (by decide)
    refine Rn.dup (pc' := 38) at_37 rfl rfl ?_
    refine Rn.aload (pc' := 40) at_38 rfl rfl rfl ?_
    refine Rn.dconst0 (pc' := 41) (v := FP.l2d 0) at_40 (by decide +kernel) rfl ?_
    refine Rn.aload (pc' := 43) at_41 rfl rfl rfl ?_
    refine Rn.callI (pc' := 46) (argsL := [.ref t101, .double (FP.l2d 0), .ref t108]) (a := a116) (rest := [.ref a116]) (ct_va Z a0 hw a116 t101 t108 h117 A121 F127 F128 F129) rfl (hw _ (List.mem_of_getElem? (i := 8) rfl)) (hw _ (List.mem_of_getElem? (i := 9) rfl)) (hw _ (List.mem_of_getElem? (i := 7) rfl)) (hw _ (List.mem_of_getElem? (i := 10) rfl)) (by decide) rfl rfl (lenOf pd_2 rfl) rfl at_43 rfl (Nat.le_of_ble_eq_true rfl) (Nat.le_of_ble_eq_true rfl) (Nat.le_of_ble_eq_true rfl) (Nat.le_of_ble_eq_true rfl) (allS (Or.inr g119) all0) (allS Sf.no (all0)) (fun v130 h131 K132 q133 => ?_)
    obtain ⟨rfl, Ex, Fp, Fg⟩ := q133
    simp only [Option.toList, List.cons_append, List.nil_append]
    refine Rn.astore (pc' := 48) (Ls' := #[.val (.int k), .val (.int g0), .val (.int g1), .val (.int g2), .val (.int g3), .val (.int (3 : Int32)), .val (.ref t101), .val (.ref t108), .val (.ref a116), .unset, .unset, .unset, .unset, .unset, .unset, .unset, .unset, .unset]) at_46 rfl rfl rfl ?_
    refine Rn.aload (pc' := 50) at_48 rfl rfl rfl ?_
    have F134 := F124.ext E120
    have F135 := F134.keep K132 (ninS n125 nin0)
    have F136 := A110.ext E120
    have F137 := F136.keep K132 (ninS n126 nin0)
    refine Rn.callV (pc' := 53) (argsL := []) (a := a116) (rest := []) (ct_rv3 Z a0 hw a116 t101 t108 g0 g1 g2 g3 h131 Fp Fg F135 F137) Ex (hw _ (List.mem_of_getElem? (i := 25) rfl)) (hw _ (List.mem_of_getElem? (i := 26) rfl)) (fun _ hZ => notFace_of_selects (args := #[]) (mvT hZ (hw _ (List.mem_of_getElem? (i := 28) rfl)))) (hw _ (List.mem_of_getElem? (i := 28) rfl)) (hw _ (List.mem_of_getElem? (i := 27) rfl)) (hw _ (List.mem_of_getElem? (i := 7) rfl)) (hw _ (List.mem_of_getElem? (i := 29) rfl)) (by decide) rfl rfl (lenOf pd_3 rfl) rfl at_50 rfl (Nat.le_of_ble_eq_true rfl) (Nat.le_of_ble_eq_true rfl) (Nat.le_of_ble_eq_true rfl) (Nat.le_of_ble_eq_true rfl) (fun _ z => nomatch z) (fun _ z => nomatch z) (fun v138 h139 K140 q141 => ?_)
    obtain ⟨th, rfl, hth, Ah⟩ := q141
    simp only [Option.toList, List.cons_append, List.nil_append]
    refine Rn.astore (pc' := 55) (Ls' := #[.val (.int k), .val (.int g0), .val (.int g1), .val (.int g2), .val (.int g3), .val (.int (3 : Int32)), .val (.ref t101), .val (.ref t108), .val (.ref a116), .val (.ref th), .unset, .unset, .unset, .unset, .unset, .unset, .unset, .unset]) at_53 rfl rfl rfl ?_
    refine Rn.aload (pc' := 57) at_55 rfl rfl rfl ?_
    refine Rn.ifnull_n (pc' := 60) at_57 rfl ?_
    refine Rn.aload (pc' := 62) at_60 rfl rfl rfl ?_
    refine Rn.arraylength (pc' := 63) (n := (4 : Int32)) Ah rfl at_62 rfl ?_
    refine Rn.iload (pc' := 65) at_63 rfl rfl ?_
    refine Rn.iconst (pc' := 66) (v := (1 : Int32)) at_65 rfl rfl ?_
    refine Rn.iadd (pc' := 67) (v := (4 : Int32)) at_66 rfl rfl ?_
    refine Rn.icmp_eq (pc' := 72) (pn := 70) at_67 (by decide) (by decide) rfl (fun c142 => ?_) (fun c142 => absurd c142 (by decide))
    refine Rn.iloadN (pc' := 73) at_72 rfl rfl ?_
    refine Rn.i2l (pc' := 74) (v := (g0.toInt64)) at_73 rfl rfl ?_
    refine Rn.lstore (pc' := 76) (Ls' := #[.val (.int k), .val (.int g0), .val (.int g1), .val (.int g2), .val (.int g3), .val (.int (3 : Int32)), .val (.ref t101), .val (.ref t108), .val (.ref a116), .val (.ref th), .val (.long (g0.toInt64)), .second, .unset, .unset, .unset, .unset, .unset, .unset]) at_74 rfl rfl ?_
    refine Rn.lload (pc' := 78) at_76 rfl rfl ?_
    refine Rn.iloadN (pc' := 79) at_78 rfl rfl ?_
    refine Rn.i2l (pc' := 80) (v := (g1.toInt64)) at_79 rfl rfl ?_
    refine Rn.ladd (pc' := 81) (v := ((g0.toInt64) + (g1.toInt64))) at_80 rfl rfl ?_
    refine Rn.lstore (pc' := 83) (Ls' := #[.val (.int k), .val (.int g0), .val (.int g1), .val (.int g2), .val (.int g3), .val (.int (3 : Int32)), .val (.ref t101), .val (.ref t108), .val (.ref a116), .val (.ref th), .val (.long (g0.toInt64)), .second, .val (.long ((g0.toInt64) + (g1.toInt64))), .second, .unset, .unset, .unset, .unset]) at_81 rfl rfl ?_
    refine Rn.lload (pc' := 85) at_83 rfl rfl ?_
    refine Rn.iloadN (pc' := 86) at_85 rfl rfl ?_
    refine Rn.i2l (pc' := 87) (v := (g2.toInt64)) at_86 rfl rfl ?_
    refine Rn.ladd (pc' := 88) (v := (((g0.toInt64) + (g1.toInt64)) + (g2.toInt64))) at_87 rfl rfl ?_
    refine Rn.lstore (pc' := 90) (Ls' := #[.val (.int k), .val (.int g0), .val (.int g1), .val (.int g2), .val (.int g3), .val (.int (3 : Int32)), .val (.ref t101), .val (.ref t108), .val (.ref a116), .val (.ref th), .val (.long (g0.toInt64)), .second, .val (.long ((g0.toInt64) + (g1.toInt64))), .second, .val (.long (((g0.toInt64) + (g1.toInt64)) + (g2.toInt64))), .second, .unset, .unset]) at_88 rfl rfl ?_
    refine Rn.lload (pc' := 92) at_90 rfl rfl ?_
    refine Rn.iload (pc' := 94) at_92 rfl rfl ?_
    refine Rn.i2l (pc' := 95) (v := (g3.toInt64)) at_94 rfl rfl ?_
    refine Rn.ladd (pc' := 96) (v := ((((g0.toInt64) + (g1.toInt64)) + (g2.toInt64)) + (g3.toInt64))) at_95 rfl rfl ?_
    refine Rn.lstore (pc' := 98) (Ls' := #[.val (.int k), .val (.int g0), .val (.int g1), .val (.int g2), .val (.int g3), .val (.int (3 : Int32)), .val (.ref t101), .val (.ref t108), .val (.ref a116), .val (.ref th), .val (.long (g0.toInt64)), .second, .val (.long ((g0.toInt64) + (g1.toInt64))), .second, .val (.long (((g0.toInt64) + (g1.toInt64)) + (g2.toInt64))), .second, .val (.long ((((g0.toInt64) + (g1.toInt64)) + (g2.toInt64)) + (g3.toInt64))), .second]) at_96 rfl rfl ?_
    refine Rn.aload (pc' := 100) at_98 rfl rfl rfl ?_
    refine Rn.iconst (pc' := 101) (v := (0 : Int32)) at_100 rfl rfl ?_
    refine Rn.daload (pc' := 102) (v := .double (0 : UInt64)) Ah (by decide) rfl at_101 rfl ?_
    refine Rn.dconst0 (pc' := 103) (v := FP.l2d 0) at_102 (by decide +kernel) rfl ?_
    refine Rn.dcmp (pc' := 104) (v := (0 : Int32)) at_103 own_self0 rfl ?_
    refine Rn.if_eq (pc' := 109) (pn := 107) at_104 (by decide) (by decide) rfl (fun c143 => ?_) (fun c143 => absurd c143 (by decide))
    refine Rn.aload (pc' := 111) at_109 rfl rfl rfl ?_
    refine Rn.iconst (pc' := 112) (v := (1 : Int32)) at_111 rfl rfl ?_
    refine Rn.daload (pc' := 113) (v := .double (FP.l2d g0.toInt64)) Ah (by decide) rfl at_112 rfl ?_
    refine Rn.lload (pc' := 115) at_113 rfl rfl ?_
    refine Rn.l2d (pc' := 116) (v := (FP.l2d (g0.toInt64))) at_115 rfl rfl ?_
    refine Rn.dcmp (pc' := 117) (v := (0 : Int32)) at_116 (own_self _ _) rfl ?_
    refine Rn.if_ne (pc' := 130) (pn := 120) at_117 (by decide) (by decide) rfl (fun c144 => absurd c144 (by decide)) (fun c144 => ?_)
    refine Rn.aload (pc' := 122) at_120 rfl rfl rfl ?_
    refine Rn.iconst (pc' := 123) (v := (0 : Int32)) at_122 rfl rfl ?_
    have F145 := F137.keep K140 nin0
    refine Rn.daload (pc' := 124) (v := .double (FP.i2d g0)) F145 (by decide) rfl at_123 rfl ?_
    refine Rn.iloadN (pc' := 125) at_124 rfl rfl ?_
    refine Rn.i2d (pc' := 126) (v := (FP.i2d g0)) at_125 rfl rfl ?_
    refine Rn.dcmp (pc' := 127) (v := (0 : Int32)) at_126 (own_selfi _ _) rfl ?_
    refine Rn.if_eq (pc' := 132) (pn := 130) at_127 (by decide) (by decide) rfl (fun c146 => ?_) (fun c146 => absurd c146 (by decide))
    refine Rn.iload (pc' := 134) at_132 rfl rfl ?_
    refine Rn.iconst (pc' := 135) (v := (2 : Int32)) at_134 rfl rfl ?_
    refine Rn.icmp_lt (pc' := 161) (pn := 138) at_135 (by decide) (by decide) rfl (fun c147 => absurd c147 (by decide)) (fun c147 => ?_)
    refine Rn.aload (pc' := 140) at_138 rfl rfl rfl ?_
    refine Rn.iconst (pc' := 141) (v := (2 : Int32)) at_140 rfl rfl ?_
    refine Rn.daload (pc' := 142) (v := .double (FP.l2d (g0.toInt64 + g1.toInt64))) Ah (by decide) rfl at_141 rfl ?_
    refine Rn.lload (pc' := 144) at_142 rfl rfl ?_
    refine Rn.l2d (pc' := 145) (v := (FP.l2d ((g0.toInt64) + (g1.toInt64)))) at_144 rfl rfl ?_
    refine Rn.dcmp (pc' := 146) (v := (0 : Int32)) at_145 (own_self _ _) rfl ?_
    refine Rn.if_ne (pc' := 159) (pn := 149) at_146 (by decide) (by decide) rfl (fun c148 => absurd c148 (by decide)) (fun c148 => ?_)
    refine Rn.aload (pc' := 151) at_149 rfl rfl rfl ?_
    refine Rn.iconst (pc' := 152) (v := (1 : Int32)) at_151 rfl rfl ?_
    refine Rn.daload (pc' := 153) (v := .double (FP.i2d g1)) F145 (by decide) rfl at_152 rfl ?_
    refine Rn.iloadN (pc' := 154) at_153 rfl rfl ?_
    refine Rn.i2d (pc' := 155) (v := (FP.i2d g1)) at_154 rfl rfl ?_
    refine Rn.dcmp (pc' := 156) (v := (0 : Int32)) at_155 (own_selfi _ _) rfl ?_
    refine Rn.if_eq (pc' := 161) (pn := 159) at_156 (by decide) (by decide) rfl (fun c149 => ?_) (fun c149 => absurd c149 (by decide))
    refine Rn.iload (pc' := 163) at_161 rfl rfl ?_
    refine Rn.iconst (pc' := 164) (v := (3 : Int32)) at_163 rfl rfl ?_
    refine Rn.icmp_lt (pc' := 190) (pn := 167) at_164 (by decide) (by decide) rfl (fun c150 => absurd c150 (by decide)) (fun c150 => ?_)
    refine Rn.aload (pc' := 169) at_167 rfl rfl rfl ?_
    refine Rn.iconst (pc' := 170) (v := (3 : Int32)) at_169 rfl rfl ?_
    refine Rn.daload (pc' := 171) (v := .double (FP.l2d ((g0.toInt64 + g1.toInt64) + g2.toInt64))) Ah (by decide) rfl at_170 rfl ?_
    refine Rn.lload (pc' := 173) at_171 rfl rfl ?_
    refine Rn.l2d (pc' := 174) (v := (FP.l2d (((g0.toInt64) + (g1.toInt64)) + (g2.toInt64)))) at_173 rfl rfl ?_
    refine Rn.dcmp (pc' := 175) (v := (0 : Int32)) at_174 (own_self _ _) rfl ?_
    refine Rn.if_ne (pc' := 188) (pn := 178) at_175 (by decide) (by decide) rfl (fun c151 => absurd c151 (by decide)) (fun c151 => ?_)
    refine Rn.aload (pc' := 180) at_178 rfl rfl rfl ?_
    refine Rn.iconst (pc' := 181) (v := (2 : Int32)) at_180 rfl rfl ?_
    refine Rn.daload (pc' := 182) (v := .double (FP.i2d g2)) F145 (by decide) rfl at_181 rfl ?_
    refine Rn.iloadN (pc' := 183) at_182 rfl rfl ?_
    refine Rn.i2d (pc' := 184) (v := (FP.i2d g2)) at_183 rfl rfl ?_
    refine Rn.dcmp (pc' := 185) (v := (0 : Int32)) at_184 (own_selfi _ _) rfl ?_
    refine Rn.if_eq (pc' := 190) (pn := 188) at_185 (by decide) (by decide) rfl (fun c152 => ?_) (fun c152 => absurd c152 (by decide))
    refine Rn.iload (pc' := 192) at_190 rfl rfl ?_
    refine Rn.iconst (pc' := 193) (v := (4 : Int32)) at_192 rfl rfl ?_
    refine Rn.icmp_lt (pc' := 220) (pn := 196) at_193 (by decide) (by decide) rfl (fun c153 => ?_) (fun c153 => absurd c153 (by decide))
    refine Rn.iconst (pc' := 221) (v := (1 : Int32)) at_220 rfl rfl ?_
    refine Rn.retN (t := .boolean) rfl (by simp) at_221 (Nat.le_of_ble_eq_true rfl) (Nat.le_of_ble_eq_true rfl) ?_
    rfl
  ·
    refine Rn.istore (pc' := 7) (Ls' := #[.val (.int k), .val (.int g0), .val (.int g1), .val (.int g2), .val (.int g3), .val (.int (4 : Int32)), .unset, .unset, .unset, .unset, .unset, .unset, .unset, .unset, .unset, .unset, .unset, .unset]) at_5 rfl rfl ?_
    refine Rn.iload (pc' := 9) at_7 rfl rfl ?_
    refine Rn.iconst (pc' := 10) (v := (1 : Int32)) at_9 rfl rfl ?_
    refine Rn.iadd (pc' := 11) (v := (5 : Int32)) at_10 rfl rfl ?_
    refine Rn.iconst (pc' := 12) (v := (0 : Int32)) at_11 rfl rfl ?_
    refine Rn.iconst (pc' := 13) (v := (0 : Int32)) at_12 rfl rfl ?_
    refine Rn.iconst (pc' := 14) (v := (0 : Int32)) at_13 rfl rfl ?_
    refine Rn.iconst (pc' := 15) (v := (0 : Int32)) at_14 rfl rfl ?_
    refine Rn.iconst (pc' := 16) (v := (0 : Int32)) at_15 rfl rfl ?_
    refine Rn.callS (pc' := 19) (argsL := [.int (5 : Int32), .int (0 : Int32), .int (0 : Int32), .int (0 : Int32), .int (0 : Int32), .int (0 : Int32)]) (rest := []) (ct_mk5 Z a0 hw (0 : Int32) (0 : Int32) (0 : Int32) (0 : Int32) (0 : Int32) Z.heap) (hw _ (List.mem_of_getElem? (i := 0) rfl)) (hw _ (List.mem_of_getElem? (i := 1) rfl)) (hw _ (List.mem_of_getElem? (i := 2) rfl)) (hw _ (List.mem_of_getElem? (i := 3) rfl)) (by decide) rfl rfl (lenOf pd_1 rfl) rfl at_16 rfl (Nat.le_of_ble_eq_true rfl) (Nat.le_of_ble_eq_true rfl) (Nat.le_of_ble_eq_true rfl) (Nat.le_of_ble_eq_true rfl) (fun _ z => nomatch z) (fun _ z => nomatch z) (fun v157 h158 K159 q160 => ?_)
    obtain ⟨t154, rfl, ht155, A156⟩ := q160
    simp only [Option.toList, List.cons_append, List.nil_append]
    refine Rn.astore (pc' := 21) (Ls' := #[.val (.int k), .val (.int g0), .val (.int g1), .val (.int g2), .val (.int g3), .val (.int (4 : Int32)), .val (.ref t154), .unset, .unset, .unset, .unset, .unset, .unset, .unset, .unset, .unset, .unset, .unset]) at_19 rfl rfl rfl ?_
    refine Rn.iload (pc' := 23) at_21 rfl rfl ?_
    refine Rn.iloadN (pc' := 24) at_23 rfl rfl ?_
    refine Rn.iloadN (pc' := 25) at_24 rfl rfl ?_
    refine Rn.iloadN (pc' := 26) at_25 rfl rfl ?_
    refine Rn.iload (pc' := 28) at_26 rfl rfl ?_
    refine Rn.iconst (pc' := 29) (v := (0 : Int32)) at_28 rfl rfl ?_
    refine Rn.callS (pc' := 32) (argsL := [.int (4 : Int32), .int g0, .int g1, .int g2, .int g3, .int (0 : Int32)]) (rest := []) (ct_mk4 Z a0 hw g0 g1 g2 g3 (0 : Int32) h158) (hw _ (List.mem_of_getElem? (i := 0) rfl)) (hw _ (List.mem_of_getElem? (i := 1) rfl)) (hw _ (List.mem_of_getElem? (i := 2) rfl)) (hw _ (List.mem_of_getElem? (i := 3) rfl)) (by decide) rfl rfl (lenOf pd_1 rfl) rfl at_29 rfl (Nat.le_of_ble_eq_true rfl) (Nat.le_of_ble_eq_true rfl) (Nat.le_of_ble_eq_true rfl) (Nat.le_of_ble_eq_true rfl) (fun _ z => nomatch z) (fun _ z => nomatch z) (fun v164 h165 K166 q167 => ?_)
    obtain ⟨t161, rfl, ht162, A163⟩ := q167
    simp only [Option.toList, List.cons_append, List.nil_append]
    have n168 : t154 ≠ t161 := Nat.ne_of_lt (Nat.lt_of_lt_of_le A156.lt ht162)
    refine Rn.astore (pc' := 34) (Ls' := #[.val (.int k), .val (.int g0), .val (.int g1), .val (.int g2), .val (.int g3), .val (.int (4 : Int32)), .val (.ref t154), .val (.ref t161), .unset, .unset, .unset, .unset, .unset, .unset, .unset, .unset, .unset, .unset]) at_32 rfl rfl rfl ?_
    refine Rn.newO (pc' := 37) (hw _ (List.mem_of_getElem? (i := 5) rfl)) (hw _ (List.mem_of_getElem? (i := 6) rfl)) (hw _ (List.mem_of_getElem? (i := 7) rfl)) at_34 (Nat.le_of_ble_eq_true rfl) (Nat.le_of_ble_eq_true rfl) rfl (fun h170 a169 e171 g172 E173 ⟨A174, D175, U176⟩ => ?_)
    have F177 := A156.keep K166 nin0
    have n178 : t154 ≠ a169 := by rw [e171]; exact Nat.ne_of_lt (F177.lt)
    have n179 : t161 ≠ a169 := by rw [e171]; exact Nat.ne_of_lt (A163.lt)
    have F180 : Fld Z h170 a169 "com/example/ratecraft/ratecraft/OccupancyModel$Valuation" "prices" "[D" (.null) := D175 (Or.inr (hw _ (List.mem_of_getElem? (i := 20) rfl))) (ty := (.array .double)) (by decide)
    have F181 : Fld Z h170 a169 "com/example/ratecraft/ratecraft/OccupancyModel$Valuation" "revenueRate" "D" (.double (0 : UInt64)) := D175 (Or.inr (hw _ (List.mem_of_getElem? (i := 22) rfl))) (ty := .double) (by decide)
    have F182 : Fld Z h170 a169 "com/example/ratecraft/ratecraft/OccupancyModel$Valuation" "gains" "[D" (.null) := D175 (Or.inr (hw _ (List.mem_of_getElem? (i := 24) rfl))) (ty := (.array .double)) (by decide)
    refine Rn.dup (pc' := 38) at_37 rfl rfl ?_
    refine Rn.aload (pc' := 40) at_38 rfl rfl rfl ?_
    refine Rn.dconst0 (pc' := 41) (v := FP.l2d 0) at_40 (by decide +kernel) rfl ?_
    refine Rn.aload (pc' := 43) at_41 rfl rfl rfl ?_
    refine Rn.callI (pc' := 46) (argsL := [.ref t154, .double (FP.l2d 0), .ref t161]) (a := a169) (rest := [.ref a169]) (ct_va Z a0 hw a169 t154 t161 h170 A174 F180 F181 F182) rfl (hw _ (List.mem_of_getElem? (i := 8) rfl)) (hw _ (List.mem_of_getElem? (i := 9) rfl)) (hw _ (List.mem_of_getElem? (i := 7) rfl)) (hw _ (List.mem_of_getElem? (i := 10) rfl)) (by decide) rfl rfl (lenOf pd_2 rfl) rfl at_43 rfl (Nat.le_of_ble_eq_true rfl) (Nat.le_of_ble_eq_true rfl) (Nat.le_of_ble_eq_true rfl) (Nat.le_of_ble_eq_true rfl) (allS (Or.inr g172) all0) (allS Sf.no (all0)) (fun v183 h184 K185 q186 => ?_)
    obtain ⟨rfl, Ex, Fp, Fg⟩ := q186
    simp only [Option.toList, List.cons_append, List.nil_append]
    refine Rn.astore (pc' := 48) (Ls' := #[.val (.int k), .val (.int g0), .val (.int g1), .val (.int g2), .val (.int g3), .val (.int (4 : Int32)), .val (.ref t154), .val (.ref t161), .val (.ref a169), .unset, .unset, .unset, .unset, .unset, .unset, .unset, .unset, .unset]) at_46 rfl rfl rfl ?_
    refine Rn.aload (pc' := 50) at_48 rfl rfl rfl ?_
    have F187 := F177.ext E173
    have F188 := F187.keep K185 (ninS n178 nin0)
    have F189 := A163.ext E173
    have F190 := F189.keep K185 (ninS n179 nin0)
    refine Rn.callV (pc' := 53) (argsL := []) (a := a169) (rest := []) (ct_rv4 Z a0 hw a169 t154 t161 g0 g1 g2 g3 h184 Fp Fg F188 F190) Ex (hw _ (List.mem_of_getElem? (i := 25) rfl)) (hw _ (List.mem_of_getElem? (i := 26) rfl)) (fun _ hZ => notFace_of_selects (args := #[]) (mvT hZ (hw _ (List.mem_of_getElem? (i := 28) rfl)))) (hw _ (List.mem_of_getElem? (i := 28) rfl)) (hw _ (List.mem_of_getElem? (i := 27) rfl)) (hw _ (List.mem_of_getElem? (i := 7) rfl)) (hw _ (List.mem_of_getElem? (i := 29) rfl)) (by decide) rfl rfl (lenOf pd_3 rfl) rfl at_50 rfl (Nat.le_of_ble_eq_true rfl) (Nat.le_of_ble_eq_true rfl) (Nat.le_of_ble_eq_true rfl) (Nat.le_of_ble_eq_true rfl) (fun _ z => nomatch z) (fun _ z => nomatch z) (fun v191 h192 K193 q194 => ?_)
    obtain ⟨th, rfl, hth, Ah⟩ := q194
    simp only [Option.toList, List.cons_append, List.nil_append]
    refine Rn.astore (pc' := 55) (Ls' := #[.val (.int k), .val (.int g0), .val (.int g1), .val (.int g2), .val (.int g3), .val (.int (4 : Int32)), .val (.ref t154), .val (.ref t161), .val (.ref a169), .val (.ref th), .unset, .unset, .unset, .unset, .unset, .unset, .unset, .unset]) at_53 rfl rfl rfl ?_
    refine Rn.aload (pc' := 57) at_55 rfl rfl rfl ?_
    refine Rn.ifnull_n (pc' := 60) at_57 rfl ?_
    refine Rn.aload (pc' := 62) at_60 rfl rfl rfl ?_
    refine Rn.arraylength (pc' := 63) (n := (5 : Int32)) Ah rfl at_62 rfl ?_
    refine Rn.iload (pc' := 65) at_63 rfl rfl ?_
    refine Rn.iconst (pc' := 66) (v := (1 : Int32)) at_65 rfl rfl ?_
    refine Rn.iadd (pc' := 67) (v := (5 : Int32)) at_66 rfl rfl ?_
    refine Rn.icmp_eq (pc' := 72) (pn := 70) at_67 (by decide) (by decide) rfl (fun c195 => ?_) (fun c195 => absurd c195 (by decide))
    refine Rn.iloadN (pc' := 73) at_72 rfl rfl ?_
    refine Rn.i2l (pc' := 74) (v := (g0.toInt64)) at_73 rfl rfl ?_
    refine Rn.lstore (pc' := 76) (Ls' := #[.val (.int k), .val (.int g0), .val (.int g1), .val (.int g2), .val (.int g3), .val (.int (4 : Int32)), .val (.ref t154), .val (.ref t161), .val (.ref a169), .val (.ref th), .val (.long (g0.toInt64)), .second, .unset, .unset, .unset, .unset, .unset, .unset]) at_74 rfl rfl ?_
    refine Rn.lload (pc' := 78) at_76 rfl rfl ?_
    refine Rn.iloadN (pc' := 79) at_78 rfl rfl ?_
    refine Rn.i2l (pc' := 80) (v := (g1.toInt64)) at_79 rfl rfl ?_
    refine Rn.ladd (pc' := 81) (v := ((g0.toInt64) + (g1.toInt64))) at_80 rfl rfl ?_
    refine Rn.lstore (pc' := 83) (Ls' := #[.val (.int k), .val (.int g0), .val (.int g1), .val (.int g2), .val (.int g3), .val (.int (4 : Int32)), .val (.ref t154), .val (.ref t161), .val (.ref a169), .val (.ref th), .val (.long (g0.toInt64)), .second, .val (.long ((g0.toInt64) + (g1.toInt64))), .second, .unset, .unset, .unset, .unset]) at_81 rfl rfl ?_
    refine Rn.lload (pc' := 85) at_83 rfl rfl ?_
    refine Rn.iloadN (pc' := 86) at_85 rfl rfl ?_
    refine Rn.i2l (pc' := 87) (v := (g2.toInt64)) at_86 rfl rfl ?_
    refine Rn.ladd (pc' := 88) (v := (((g0.toInt64) + (g1.toInt64)) + (g2.toInt64))) at_87 rfl rfl ?_
    refine Rn.lstore (pc' := 90) (Ls' := #[.val (.int k), .val (.int g0), .val (.int g1), .val (.int g2), .val (.int g3), .val (.int (4 : Int32)), .val (.ref t154), .val (.ref t161), .val (.ref a169), .val (.ref th), .val (.long (g0.toInt64)), .second, .val (.long ((g0.toInt64) + (g1.toInt64))), .second, .val (.long (((g0.toInt64) + (g1.toInt64)) + (g2.toInt64))), .second, .unset, .unset]) at_88 rfl rfl ?_
    refine Rn.lload (pc' := 92) at_90 rfl rfl ?_
    refine Rn.iload (pc' := 94) at_92 rfl rfl ?_
    refine Rn.i2l (pc' := 95) (v := (g3.toInt64)) at_94 rfl rfl ?_
    refine Rn.ladd (pc' := 96) (v := ((((g0.toInt64) + (g1.toInt64)) + (g2.toInt64)) + (g3.toInt64))) at_95 rfl rfl ?_
    refine Rn.lstore (pc' := 98) (Ls' := #[.val (.int k), .val (.int g0), .val (.int g1), .val (.int g2), .val (.int g3), .val (.int (4 : Int32)), .val (.ref t154), .val (.ref t161), .val (.ref a169), .val (.ref th), .val (.long (g0.toInt64)), .second, .val (.long ((g0.toInt64) + (g1.toInt64))), .second, .val (.long (((g0.toInt64) + (g1.toInt64)) + (g2.toInt64))), .second, .val (.long ((((g0.toInt64) + (g1.toInt64)) + (g2.toInt64)) + (g3.toInt64))), .second]) at_96 rfl rfl ?_
    refine Rn.aload (pc' := 100) at_98 rfl rfl rfl ?_
    refine Rn.iconst (pc' := 101) (v := (0 : Int32)) at_100 rfl rfl ?_
    refine Rn.daload (pc' := 102) (v := .double (0 : UInt64)) Ah (by decide) rfl at_101 rfl ?_
    refine Rn.dconst0 (pc' := 103) (v := FP.l2d 0) at_102 (by decide +kernel) rfl ?_
    refine Rn.dcmp (pc' := 104) (v := (0 : Int32)) at_103 own_self0 rfl ?_
    refine Rn.if_eq (pc' := 109) (pn := 107) at_104 (by decide) (by decide) rfl (fun c196 => ?_) (fun c196 => absurd c196 (by decide))
    refine Rn.aload (pc' := 111) at_109 rfl rfl rfl ?_
    refine Rn.iconst (pc' := 112) (v := (1 : Int32)) at_111 rfl rfl ?_
    refine Rn.daload (pc' := 113) (v := .double (FP.l2d g0.toInt64)) Ah (by decide) rfl at_112 rfl ?_
    refine Rn.lload (pc' := 115) at_113 rfl rfl ?_
    refine Rn.l2d (pc' := 116) (v := (FP.l2d (g0.toInt64))) at_115 rfl rfl ?_
    refine Rn.dcmp (pc' := 117) (v := (0 : Int32)) at_116 (own_self _ _) rfl ?_
    refine Rn.if_ne (pc' := 130) (pn := 120) at_117 (by decide) (by decide) rfl (fun c197 => absurd c197 (by decide)) (fun c197 => ?_)
    refine Rn.aload (pc' := 122) at_120 rfl rfl rfl ?_
    refine Rn.iconst (pc' := 123) (v := (0 : Int32)) at_122 rfl rfl ?_
    have F198 := F190.keep K193 nin0
    refine Rn.daload (pc' := 124) (v := .double (FP.i2d g0)) F198 (by decide) rfl at_123 rfl ?_
    refine Rn.iloadN (pc' := 125) at_124 rfl rfl ?_
    refine Rn.i2d (pc' := 126) (v := (FP.i2d g0)) at_125 rfl rfl ?_
    refine Rn.dcmp (pc' := 127) (v := (0 : Int32)) at_126 (own_selfi _ _) rfl ?_
    refine Rn.if_eq (pc' := 132) (pn := 130) at_127 (by decide) (by decide) rfl (fun c199 => ?_) (fun c199 => absurd c199 (by decide))
    refine Rn.iload (pc' := 134) at_132 rfl rfl ?_
    refine Rn.iconst (pc' := 135) (v := (2 : Int32)) at_134 rfl rfl ?_
    refine Rn.icmp_lt (pc' := 161) (pn := 138) at_135 (by decide) (by decide) rfl (fun c200 => absurd c200 (by decide)) (fun c200 => ?_)
    refine Rn.aload (pc' := 140) at_138 rfl rfl rfl ?_
    refine Rn.iconst (pc' := 141) (v := (2 : Int32)) at_140 rfl rfl ?_
    refine Rn.daload (pc' := 142) (v := .double (FP.l2d (g0.toInt64 + g1.toInt64))) Ah (by decide) rfl at_141 rfl ?_
    refine Rn.lload (pc' := 144) at_142 rfl rfl ?_
    refine Rn.l2d (pc' := 145) (v := (FP.l2d ((g0.toInt64) + (g1.toInt64)))) at_144 rfl rfl ?_
    refine Rn.dcmp (pc' := 146) (v := (0 : Int32)) at_145 (own_self _ _) rfl ?_
    refine Rn.if_ne (pc' := 159) (pn := 149) at_146 (by decide) (by decide) rfl (fun c201 => absurd c201 (by decide)) (fun c201 => ?_)
    refine Rn.aload (pc' := 151) at_149 rfl rfl rfl ?_
    refine Rn.iconst (pc' := 152) (v := (1 : Int32)) at_151 rfl rfl ?_
    refine Rn.daload (pc' := 153) (v := .double (FP.i2d g1)) F198 (by decide) rfl at_152 rfl ?_
    refine Rn.iloadN (pc' := 154) at_153 rfl rfl ?_
    refine Rn.i2d (pc' := 155) (v := (FP.i2d g1)) at_154 rfl rfl ?_
    refine Rn.dcmp (pc' := 156) (v := (0 : Int32)) at_155 (own_selfi _ _) rfl ?_
    refine Rn.if_eq (pc' := 161) (pn := 159) at_156 (by decide) (by decide) rfl (fun c202 => ?_) (fun c202 => absurd c202 (by decide))
    refine Rn.iload (pc' := 163) at_161 rfl rfl ?_
    refine Rn.iconst (pc' := 164) (v := (3 : Int32)) at_163 rfl rfl ?_
    refine Rn.icmp_lt (pc' := 190) (pn := 167) at_164 (by decide) (by decide) rfl (fun c203 => absurd c203 (by decide)) (fun c203 => ?_)
    refine Rn.aload (pc' := 169) at_167 rfl rfl rfl ?_
    refine Rn.iconst (pc' := 170) (v := (3 : Int32)) at_169 rfl rfl ?_
    refine Rn.daload (pc' := 171) (v := .double (FP.l2d ((g0.toInt64 + g1.toInt64) + g2.toInt64))) Ah (by decide) rfl at_170 rfl ?_
    refine Rn.lload (pc' := 173) at_171 rfl rfl ?_
    refine Rn.l2d (pc' := 174) (v := (FP.l2d (((g0.toInt64) + (g1.toInt64)) + (g2.toInt64)))) at_173 rfl rfl ?_
    refine Rn.dcmp (pc' := 175) (v := (0 : Int32)) at_174 (own_self _ _) rfl ?_
    refine Rn.if_ne (pc' := 188) (pn := 178) at_175 (by decide) (by decide) rfl (fun c204 => absurd c204 (by decide)) (fun c204 => ?_)
    refine Rn.aload (pc' := 180) at_178 rfl rfl rfl ?_
    refine Rn.iconst (pc' := 181) (v := (2 : Int32)) at_180 rfl rfl ?_
    refine Rn.daload (pc' := 182) (v := .double (FP.i2d g2)) F198 (by decide) rfl at_181 rfl ?_
    refine Rn.iloadN (pc' := 183) at_182 rfl rfl ?_
    refine Rn.i2d (pc' := 184) (v := (FP.i2d g2)) at_183 rfl rfl ?_
    refine Rn.dcmp (pc' := 185) (v := (0 : Int32)) at_184 (own_selfi _ _) rfl ?_
    refine Rn.if_eq (pc' := 190) (pn := 188) at_185 (by decide) (by decide) rfl (fun c205 => ?_) (fun c205 => absurd c205 (by decide))
    refine Rn.iload (pc' := 192) at_190 rfl rfl ?_
    refine Rn.iconst (pc' := 193) (v := (4 : Int32)) at_192 rfl rfl ?_
    refine Rn.icmp_lt (pc' := 220) (pn := 196) at_193 (by decide) (by decide) rfl (fun c206 => absurd c206 (by decide)) (fun c206 => ?_)
    refine Rn.aload (pc' := 198) at_196 rfl rfl rfl ?_
    refine Rn.iconst (pc' := 199) (v := (4 : Int32)) at_198 rfl rfl ?_
    refine Rn.daload (pc' := 200) (v := .double (FP.l2d (((g0.toInt64 + g1.toInt64) + g2.toInt64) + g3.toInt64))) Ah (by decide) rfl at_199 rfl ?_
    refine Rn.lload (pc' := 202) at_200 rfl rfl ?_
    refine Rn.l2d (pc' := 203) (v := (FP.l2d ((((g0.toInt64) + (g1.toInt64)) + (g2.toInt64)) + (g3.toInt64)))) at_202 rfl rfl ?_
    refine Rn.dcmp (pc' := 204) (v := (0 : Int32)) at_203 (own_self _ _) rfl ?_
    refine Rn.if_ne (pc' := 218) (pn := 207) at_204 (by decide) (by decide) rfl (fun c207 => absurd c207 (by decide)) (fun c207 => ?_)
    refine Rn.aload (pc' := 209) at_207 rfl rfl rfl ?_
    refine Rn.iconst (pc' := 210) (v := (3 : Int32)) at_209 rfl rfl ?_
    refine Rn.daload (pc' := 211) (v := .double (FP.i2d g3)) F198 (by decide) rfl at_210 rfl ?_
    refine Rn.iload (pc' := 213) at_211 rfl rfl ?_
    refine Rn.i2d (pc' := 214) (v := (FP.i2d g3)) at_213 rfl rfl ?_
    refine Rn.dcmp (pc' := 215) (v := (0 : Int32)) at_214 (own_selfi _ _) rfl ?_
    refine Rn.if_eq (pc' := 220) (pn := 218) at_215 (by decide) (by decide) rfl (fun c208 => ?_) (fun c208 => absurd c208 (by decide))
    refine Rn.iconst (pc' := 221) (v := (1 : Int32)) at_220 rfl rfl ?_
    refine Rn.retN (t := .boolean) rfl (by simp) at_221 (Nat.le_of_ble_eq_true rfl) (Nat.le_of_ble_eq_true rfl) ?_
    rfl
set_option maxRecDepth 65536 in
set_option maxHeartbeats 40000000 in
theorem comes_1 {Post : Tables → Env → Array Value → State → Outcome → State → Prop} (hpost : ∀ tb e args s v u, (limb_1_1.after args s (.returned v) u = true ∧ limb_1_2.after args s (.returned v) u = true ∧ True) → FrameEnd s (.returned v) u (Jvm.fieldLocs frame_1_writes args s ++ Jvm.arrayLocs frame_1_arrays args s ++ Jvm.staticLocs frame_1_statics s) 16 128 → Post tb e args s (.returned v) u) :
    ArmFor flags0 classFile x code maxLocals ret World_1 tables_1 room_1 Calls_1 rest_1 Pre_1 Post := by
  intro l hfl _ _ p e ha hc hk s m args below hf hA hF happ hP
  obtain ⟨hcalls, hrest, hpre⟩ := hP
  obtain ⟨-, -, -, hnamed, -, -, -, hat⟩ := (Spec.applies_iff hf).mp happ
  obtain ⟨hg, hn⟩ := and_e (Cond.before_iff.mp (show (Jvm.Cond.and given_1 narrow_1).before args s = true from hpre))
  obtain ⟨hn1, hg1⟩ := and_e hg
  obtain ⟨w0, w1, w2, w3, w4, rfl⟩ : ∃ w0 w1 w2 w3 w4 : Value, args = #[w0, w1, w2, w3, w4] := by
    have hs : args.size = 5 := by simpa [Cond.value, given_1] using hn1
    obtain ⟨L⟩ := args
    match L, hs with
    | [w0, w1, w2, w3, w4], _ => exact ⟨w0, w1, w2, w3, w4, rfl⟩
  have hw := fun d (hd : d ∈ tables_1) => atoms_spec (ws := Jvm.Cond.code x code maxLocals ret :: tables_1) hat d (List.mem_cons_of_mem _ hd)
  have hfit : Fit s := fun {y c} hc i hi => by
    obtain ⟨ha, rfl⟩ := Array.getElem?_eq_some_iff.mp hc
    have q := List.all_eq_true.mp ((Array.all_eq_true_iff_forall_mem.mp hF) _ (Array.getElem_mem ha)) i (List.mem_range.mpr hi)
    simpa [Array.getElem?_eq_getElem hi] using q
  obtain ⟨ka0, kb0⟩ := and_e hg1
  obtain ⟨x0, e0⟩ := is_v ka0
  obtain rfl : w0 = (.int x0) := Option.some.inj e0
  obtain ⟨ka1, kb1⟩ := and_e kb0
  obtain ⟨x1, e1⟩ := is_v ka1
  obtain rfl : w1 = (.int x1) := Option.some.inj e1
  obtain ⟨ka2, kb2⟩ := and_e kb1
  obtain ⟨x2, e2⟩ := is_v ka2
  obtain rfl : w2 = (.int x2) := Option.some.inj e2
  obtain ⟨ka3, kb3⟩ := and_e kb2
  obtain ⟨x3, e3⟩ := is_v ka3
  obtain rfl : w3 = (.int x3) := Option.some.inj e3
  obtain ⟨x4, e4⟩ := is_v kb3
  obtain rfl : w4 = (.int x4) := Option.some.inj e4
  obtain ⟨c, ec, hc4⟩ := own_c4 x0
  have M := met_of (ws := []) (wsT := tables_1) (as := #[(.int x0), (.int x1), (.int x2), (.int x3), (.int x4)]) (Ls := #[.val (.int x0), .val (.int x1), .val (.int x2), .val (.int x3), .val (.int x4), .unset, .unset, .unset, .unset, .unset, .unset, .unset, .unset, .unset, .unset, .unset, .unset, .unset]) (d := "(IIIII)Z") pn_0 (by intro m; first | (simp [entryFrame, mkF, argsToLocals, Value.category, maxLocals]; done) | rfl) ⟨Nat.le_refl _, fun _ _ q => q⟩ (fun _ z => nomatch z) l (own_law s _ hw x0 x1 x2 x3 x4 c ec hc4)
  obtain ⟨n, o, h1, h2, h3, v, L, rfl, ⟨N, -, rfl⟩, hq⟩ := M p e ha hc hk s m _ below hf ((Spec.applies_iff_loose hf).mp happ).1 ⟨rfl, State.Warmed39.refl s, rfl⟩ trivial
  refine ⟨n, _, h1, h2, h3, hpost _ _ _ _ _ _ ⟨Cond.after_iff.mpr rfl, Cond.after_iff.mpr (eq_i res_at (Term.int_eval (1)) rfl), trivial⟩ ⟨hq.1, hq.2.1, (hq.2.2.sift fun y hy => Or.inr (N y hy)).mono (by decide) (by decide)⟩⟩
theorem main_1_1 : Claimed_1_1 := comes_1 fun _ _ _ _ _ _ h hF => ⟨h.1, hF⟩
theorem main_1_2 : Claimed_1_2 := comes_1 fun _ _ _ _ _ _ h hF => ⟨h.2.1, hF⟩
end Jvm.Pilot.@@N@@
namespace Jvm.Pilot.@@N@@
open Jvm Jvm.ClassFile Sem Op Lib Jvm.Free Jvm.Stand Jvm.Pilot.@@N@@.Jvm.D
/-! MADE BY PROGRAM (witnessworld.py) out of the Statement's table words and the real class files: 12 classes; the members and pool entries that the words name. The judged class is class 1, her method 1. -/
namespace start1
open Jvm.ClassFile
def u (s : String) : CpInfo := .utf8 (stringToUtf16 s)
/-- a pool by its gaps: so many unusable entries, then the entry; so many at the end -/
def gap : Nat → List CpInfo → List CpInfo
  | 0, r => r
  | n + 1, r => .unusable :: gap n r
def poolList (es : List (Nat × CpInfo)) (last : Nat) : List CpInfo := es.foldr (fun e r => gap e.1 (e.2 :: r)) (gap last [])
def pool (es : List (Nat × CpInfo)) (last : Nat) : Array CpInfo := ⟨poolList es last⟩
def fileOf (pool : Array CpInfo) (this : Nat) (attrs : Array Attribute := #[]) (ms : Array MethodInfo := #[]) (fl : Nat := 33) (sup : Nat := 0) (ifs : Array Nat := #[]) (fds : Array FieldInfo := #[]) : ClassFile where
  minorVersion := 0
  majorVersion := 65
  constantPool := pool
  accessFlags := fl
  thisClass := this
  superClass := sup
  interfaces := ifs
  fields := fds
  methods := ms
  attributes := attrs
def plain (name : String) (sup : Option ClassId) : Class where
  name := name
  kind := .ordinary
  loader := none
  accessFlags := 33
  super := sup
  interfaces := #[]
  cf := none
  fields := #[]
  methods := #[]
  instanceTypes := #[]
  staticTypes := #[]
  resolved := #[]
  callSites := []
  init := .initialized
  statics := none
  mirror := none

def pool0 : Array CpInfo := pool [(5, u "<init>"), (0, u "()V"), (1, .class_ 10), (1, u "java/lang/Object")] 113

def k0c0 : Code := { maxStack := 0, maxLocals := 1, code := object_method_1_code, exceptionTable := #[], attributes := #[] }
def k0m0 : Method := { name := "<init>", desc := "()V", sig := { parameters := [], returnType := none }, accessFlags := 1, code := some k0c0 }
/-- java/lang/Object -/
def k0 : Class := { plain "java/lang/Object" none with
  accessFlags := 33
  interfaces := #[]
  cf := some (fileOf pool0 8 #[] #[{ accessFlags := 1, nameIndex := 5, descriptorIndex := 6, attributes := #[] }] 33 0 #[] #[])
  fields := #[]
  methods := #[k0m0]
  instanceTypes := #[]
  staticTypes := #[]
  resolved := Array.replicate 124 none
  statics := none }

def pool1 : Array CpInfo := pool [(2, .class_ 4), (1, u "java/lang/Object"), (0, u "<init>"), (0, u "()V"), (0, .methodref 8 9), (0, .class_ 10), (0, .nameAndType 11 12), (0, u "com/example/ratecraft/ratecraft/ValuationRelativeValuesPinLaw"), (0, u "make"), (0, u "(IIIIII)[D"), (0, .class_ 14), (0, u "com/example/ratecraft/ratecraft/OccupancyModel$Valuation"), (0, .methodref 13 16), (0, .nameAndType 5 17), (0, u "([DD[D)V"), (0, .methodref 13 19), (0, .nameAndType 20 21), (0, u "relativeValues"), (0, u "()[D"), (2, u "law"), (0, u "(IIIII)Z")] 9

def k1m0 : Method := { name := "<init>", desc := "()V", sig := { parameters := [], returnType := none }, accessFlags := 1, code := none }
def k1c1 : Code := { maxStack := 6, maxLocals := 18, code := code, exceptionTable := #[], attributes := #[] }
def k1m1 : Method := { name := "law", desc := "(IIIII)Z", sig := { parameters := [.int, .int, .int, .int, .int], returnType := some .boolean }, accessFlags := 9, code := some k1c1 }
def k1c2 : Code := { maxStack := 5, maxLocals := 6, code := method_3_code, exceptionTable := #[], attributes := #[] }
def k1m2 : Method := { name := "make", desc := "(IIIIII)[D", sig := { parameters := [.int, .int, .int, .int, .int, .int], returnType := some (.array .double) }, accessFlags := 10, code := some k1c2 }
/-- com/example/ratecraft/ratecraft/ValuationRelativeValuesPinLaw -/
def k1 : Class := { plain "com/example/ratecraft/ratecraft/ValuationRelativeValuesPinLaw" (some 0) with
  accessFlags := 49
  interfaces := #[]
  cf := some (fileOf pool1 8 #[] #[{ accessFlags := 1, nameIndex := 5, descriptorIndex := 6, attributes := #[] }, { accessFlags := 9, nameIndex := 24, descriptorIndex := 25, attributes := #[] }, { accessFlags := 10, nameIndex := 11, descriptorIndex := 12, attributes := #[] }] 49 2 #[] #[])
  fields := #[]
  methods := #[k1m0, k1m1, k1m2]
  instanceTypes := #[]
  staticTypes := #[]
  resolved := Array.replicate 35 none
  statics := none }

def pool2 : Array CpInfo := pool [(1, .methodref 2 3), (0, .class_ 4), (0, .nameAndType 5 6), (0, u "java/lang/Object"), (0, u "<init>"), (0, u "()V"), (0, .class_ 8), (0, u "java/lang/Record")] 13

def k2c0 : Code := { maxStack := 1, maxLocals := 1, code := jdk_30_method_1_code, exceptionTable := #[], attributes := #[] }
def k2m0 : Method := { name := "<init>", desc := "()V", sig := { parameters := [], returnType := none }, accessFlags := 4, code := some k2c0 }
/-- java/lang/Record -/
def k2 : Class := { plain "java/lang/Record" (some 0) with
  accessFlags := 1057
  interfaces := #[]
  cf := some (fileOf pool2 7 #[] #[{ accessFlags := 4, nameIndex := 5, descriptorIndex := 6, attributes := #[] }] 1057 2 #[] #[])
  fields := #[]
  methods := #[k2m0]
  instanceTypes := #[]
  staticTypes := #[]
  resolved := Array.replicate 22 none
  statics := none }

def pool3 : Array CpInfo := pool [(1, .methodref 2 3), (0, .class_ 4), (0, .nameAndType 5 6), (0, u "java/lang/Record"), (0, u "<init>"), (0, u "()V"), (0, .fieldref 8 9), (0, .class_ 10), (0, .nameAndType 11 12), (0, u "com/example/ratecraft/ratecraft/OccupancyModel$Valuation"), (0, u "prices"), (0, u "[D"), (0, .fieldref 8 14), (0, .nameAndType 15 16), (0, u "revenueRate"), (0, u "D"), (0, .fieldref 8 18), (0, .nameAndType 19 12), (0, u "gains"), (12, u "([DD[D)V"), (3, u "relativeValues"), (0, u "()[D"), (9, .class_ 48), (0, u "com/example/ratecraft/ratecraft/OccupancyModel")] 21

def k3c0 : Code := { maxStack := 3, maxLocals := 5, code := prog_27_method_1_code, exceptionTable := #[], attributes := #[] }
def k3m0 : Method := { name := "<init>", desc := "([DD[D)V", sig := { parameters := [(.array .double), .double, (.array .double)], returnType := none }, accessFlags := 0, code := some k3c0 }
def k3c1 : Code := { maxStack := 6, maxLocals := 3, code := prog_27_method_2_code, exceptionTable := #[], attributes := #[] }
def k3m1 : Method := { name := "relativeValues", desc := "()[D", sig := { parameters := [], returnType := some (.array .double) }, accessFlags := 0, code := some k3c1 }
/-- com/example/ratecraft/ratecraft/OccupancyModel$Valuation -/
def k3 : Class := { plain "com/example/ratecraft/ratecraft/OccupancyModel$Valuation" (some 2) with
  accessFlags := 48
  interfaces := #[]
  cf := some (fileOf pool3 8 #[.nestHost 47] #[{ accessFlags := 0, nameIndex := 5, descriptorIndex := 32, attributes := #[] }, { accessFlags := 0, nameIndex := 36, descriptorIndex := 37, attributes := #[] }] 48 2 #[] #[{ accessFlags := 18, nameIndex := 11, descriptorIndex := 12, attributes := #[] }, { accessFlags := 18, nameIndex := 15, descriptorIndex := 16, attributes := #[] }, { accessFlags := 18, nameIndex := 19, descriptorIndex := 12, attributes := #[] }])
  fields := #[{ name := "prices", type := (.array .double), accessFlags := 18, slot := 0, constantValue := 0 }, { name := "revenueRate", type := .double, accessFlags := 18, slot := 1, constantValue := 0 }, { name := "gains", type := (.array .double), accessFlags := 18, slot := 2, constantValue := 0 }]
  methods := #[k3m0, k3m1]
  instanceTypes := #[(.array .double), .double, (.array .double)]
  staticTypes := #[]
  resolved := Array.replicate 70 none
  statics := none }

def pool4 : Array CpInfo := pool [(1, u "java/lang/Cloneable"), (0, .class_ 1), (0, u "java/lang/Object"), (0, .class_ 3)] 3

/-- java/lang/Cloneable -/
def k4 : Class := { plain "java/lang/Cloneable" (some 0) with
  accessFlags := 1537
  interfaces := #[]
  cf := some (fileOf pool4 2 #[] #[] 1537 4 #[] #[])
  fields := #[]
  methods := #[]
  instanceTypes := #[]
  staticTypes := #[]
  resolved := Array.replicate 8 none
  statics := none }

def pool5 : Array CpInfo := pool [(1, u "java/io/Serializable"), (0, .class_ 1), (0, u "java/lang/Object"), (0, .class_ 3)] 3

/-- java/io/Serializable -/
def k5 : Class := { plain "java/io/Serializable" (some 0) with
  accessFlags := 1537
  interfaces := #[]
  cf := some (fileOf pool5 2 #[] #[] 1537 4 #[] #[])
  fields := #[]
  methods := #[]
  instanceTypes := #[]
  staticTypes := #[]
  resolved := Array.replicate 8 none
  statics := none }

/-- the primitive byte -/
def k6 : Class := { plain "byte" none with kind := .primitive 'B', accessFlags := 0x411 }
/-- [B -/
def k7 : Class := { plain "[B" (some 0) with kind := .array 6 .byte, interfaces := #[4, 5], accessFlags := 1041 }

/-- the primitive double -/
def k8 : Class := { plain "double" none with kind := .primitive 'D', accessFlags := 0x411 }
/-- [D -/
def k9 : Class := { plain "[D" (some 0) with kind := .array 8 .double, interfaces := #[4, 5], accessFlags := 1041 }

/-- the primitive int -/
def k10 : Class := { plain "int" none with kind := .primitive 'I', accessFlags := 0x411 }
/-- [I -/
def k11 : Class := { plain "[I" (some 0) with kind := .array 10 .int, interfaces := #[4, 5], accessFlags := 1041 }

def heap : Heap := #[]
def classes : Array Class := #[k0, k1, k2, k3, k4, k5, k6, k7, k8, k9, k10, k11]
def interned : List (Array UInt16 × Addr) := []
def slotsUsed : Nat := 0
def theMethod : MethodId := ⟨1, 1⟩
def args0 : Array Value := #[.int 5, .int 3, .int 4, .int 1, .int 2]
def aboutOver (below : List Frame) : State where
  vm := { classes := classes, interned := interned.toArray }
  heap := heap
  slotsUsed := slotsUsed
  threads := #[{ frames := .invoking theMethod args0 :: below }]
def below0 : List Frame := [.native { method := ⟨0, 0⟩, args := #[] }]
def about1 : State := aboutOver below0
def p0 : Program := .bare "" "" ""
def e0 : Env := launch0.env 0 0 0
theorem w_frames : about1.frames = Frame.invoking theMethod args0 :: below0 := rfl
set_option maxRecDepth 65536 in
theorem w_args : argsFit about1.vm theMethod args0 = true := by decide +kernel
set_option maxRecDepth 65536 in
theorem w_heap : heapFits about1 = true := by decide +kernel
set_option maxRecDepth 65536 in
theorem w_runnable : about1.curStatus? = some .runnable := by decide +kernel
set_option maxRecDepth 65536 in
theorem w_alone : about1.alone = true := by decide +kernel
set_option maxRecDepth 65536 in
theorem w_named : about1.methodNamed? x = some theMethod := by decide +kernel
set_option maxRecDepth 65536 in
theorem w_hears : about1.hears theMethod below0 = true := by decide +kernel
set_option maxRecDepth 65536 in
theorem w_ripe : about1.ripe theMethod args0 below0 = true := by decide +kernel
theorem w_running : about1.status = .running := rfl
set_option maxRecDepth 65536 in
theorem w_room : about1.hasRoom e0.platform room_1 = true :=
  launch0.hasRoom_least _ room_1 (by decide +kernel) (by decide +kernel) (by decide +kernel) (by decide +kernel) (by decide +kernel) (by decide +kernel)
theorem allAtoms_all (ts : List Jvm.Cond) (a : Array Jvm.Value) (st : Jvm.State) : (allAtoms ts).before a st = ts.all (fun c => c.before a st) := by
  induction ts with
  | nil => rfl
  | cons c t ih =>
    show (Jvm.Cond.and c (allAtoms t)).before a st = _
    rw [Jvm.Cond.before_and, ih, List.all_cons]
def words1 : List Jvm.Cond := Jvm.Cond.code x code maxLocals ret :: tables_1
/-- a 'code' word, met by the world's own term for the bytes: nothing is compared byte by byte -/
theorem code_word {y : MethodName} {bytes : ByteArray} {mx : Nat} {rt : Option FieldType} {a : Array Value} {s : State} {m : MethodId} {meth : Method} {c : Code} (h1 : s.methodNamed? y = some m) (h2 : s.vm.method? m = some meth) (h3 : meth.code = some c) (h4 : c.code = bytes)
    (h5 : (c.maxLocals == mx && c.exceptionTable.isEmpty && decide (c.maxStack ≤ mostOperands) && decide (meth.sig.returnType = rt) && !meth.locks && decide (parseMethodDescriptor y.desc = some meth.sig)) = true) : (Jvm.Cond.code y bytes mx rt).before a s = true := by
  simp only [Bool.and_eq_true, beq_iff_eq, Bool.not_eq_true', decide_eq_true_eq] at h5
  obtain ⟨⟨⟨⟨⟨g1, g2⟩, g3⟩, g4⟩, g5⟩, g6⟩ := h5
  simp [Cond.before, Cond.holds, Cond.value, h1, h2, h3, h4, g1, g2, g3, g4, g5, g6]
def isCode : Jvm.Cond → Bool
  | .code _ _ _ _ => true
  | _ => false
theorem all_split {L : List Jvm.Cond} {P : Jvm.Cond → Bool} (h1 : L.all (fun c => isCode c || P c) = true) (h2 : ∀ c ∈ L.filter isCode, P c = true) : L.all P = true := by
  refine List.all_eq_true.mpr fun c hc => ?_
  have h := List.all_eq_true.mp h1 c hc
  rcases Bool.eq_false_or_eq_true (isCode c) with hi | hi
  · exact h2 c (List.mem_filter.mpr ⟨hc, hi⟩)
  · simpa [hi] using h
set_option maxRecDepth 65536 in
theorem w_c0 : (Jvm.Cond.code x code maxLocals ret).before args0 about1 = true := code_word (m := ⟨1, 1⟩) (meth := k1m1) (c := k1c1) (by decide +kernel) rfl rfl rfl (by decide +kernel)
set_option maxRecDepth 65536 in
theorem w_c1 : (Jvm.Cond.code ({ cls := "com/example/ratecraft/ratecraft/ValuationRelativeValuesPinLaw", name := "make", desc := "(IIIIII)[D" } : Jvm.MethodName) method_3_code (6 : Nat) (Option.some (Jvm.ClassFile.FieldType.array Jvm.ClassFile.FieldType.double))).before args0 about1 = true := code_word (m := ⟨1, 2⟩) (meth := k1m2) (c := k1c2) (by decide +kernel) rfl rfl rfl (by decide +kernel)
set_option maxRecDepth 65536 in
theorem w_c2 : (Jvm.Cond.code ({ cls := "com/example/ratecraft/ratecraft/OccupancyModel$Valuation", name := "<init>", desc := "([DD[D)V" } : Jvm.MethodName) prog_27_method_1_code (5 : Nat) (Option.none : Option Jvm.ClassFile.FieldType)).before args0 about1 = true := code_word (m := ⟨3, 0⟩) (meth := k3m0) (c := k3c0) (by decide +kernel) rfl rfl rfl (by decide +kernel)
set_option maxRecDepth 65536 in
theorem w_c3 : (Jvm.Cond.code ({ cls := "java/lang/Record", name := "<init>", desc := "()V" } : Jvm.MethodName) jdk_30_method_1_code (1 : Nat) (Option.none : Option Jvm.ClassFile.FieldType)).before args0 about1 = true := code_word (m := ⟨2, 0⟩) (meth := k2m0) (c := k2c0) (by decide +kernel) rfl rfl rfl (by decide +kernel)
set_option maxRecDepth 65536 in
theorem w_c4 : (Jvm.Cond.code ({ cls := "java/lang/Object", name := "<init>", desc := "()V" } : Jvm.MethodName) object_method_1_code (1 : Nat) (Option.none : Option Jvm.ClassFile.FieldType)).before args0 about1 = true := code_word (m := ⟨0, 0⟩) (meth := k0m0) (c := k0c0) (by decide +kernel) rfl rfl rfl (by decide +kernel)
set_option maxRecDepth 65536 in
theorem w_c5 : (Jvm.Cond.code ({ cls := "com/example/ratecraft/ratecraft/OccupancyModel$Valuation", name := "relativeValues", desc := "()[D" } : Jvm.MethodName) prog_27_method_2_code (3 : Nat) (Option.some (Jvm.ClassFile.FieldType.array Jvm.ClassFile.FieldType.double))).before args0 about1 = true := code_word (m := ⟨3, 1⟩) (meth := k3m1) (c := k3c1) (by decide +kernel) rfl rfl rfl (by decide +kernel)
def codes1 : List Jvm.Cond := [Jvm.Cond.code x code maxLocals ret, Jvm.Cond.code ({ cls := "com/example/ratecraft/ratecraft/ValuationRelativeValuesPinLaw", name := "make", desc := "(IIIIII)[D" } : Jvm.MethodName) method_3_code (6 : Nat) (Option.some (Jvm.ClassFile.FieldType.array Jvm.ClassFile.FieldType.double)), Jvm.Cond.code ({ cls := "com/example/ratecraft/ratecraft/OccupancyModel$Valuation", name := "<init>", desc := "([DD[D)V" } : Jvm.MethodName) prog_27_method_1_code (5 : Nat) (Option.none : Option Jvm.ClassFile.FieldType), Jvm.Cond.code ({ cls := "java/lang/Record", name := "<init>", desc := "()V" } : Jvm.MethodName) jdk_30_method_1_code (1 : Nat) (Option.none : Option Jvm.ClassFile.FieldType), Jvm.Cond.code ({ cls := "java/lang/Object", name := "<init>", desc := "()V" } : Jvm.MethodName) object_method_1_code (1 : Nat) (Option.none : Option Jvm.ClassFile.FieldType), Jvm.Cond.code ({ cls := "com/example/ratecraft/ratecraft/OccupancyModel$Valuation", name := "relativeValues", desc := "()[D" } : Jvm.MethodName) prog_27_method_2_code (3 : Nat) (Option.some (Jvm.ClassFile.FieldType.array Jvm.ClassFile.FieldType.double))]
set_option maxRecDepth 65536 in
theorem codes_eq : words1.filter isCode = codes1 := rfl
theorem w_codes : ∀ c ∈ words1.filter isCode, c.before args0 about1 = true := by
  rw [codes_eq]
  intro c hc
  simp only [codes1, List.mem_cons, List.not_mem_nil, or_false] at hc
  rcases hc with rfl | rfl | rfl | rfl | rfl | rfl
  · exact w_c0
  · exact w_c1
  · exact w_c2
  · exact w_c3
  · exact w_c4
  · exact w_c5
set_option maxRecDepth 65536 in
theorem w_t1 : (words1.take 24).all (fun c => isCode c || c.before args0 about1) = true := by decide +kernel
set_option maxRecDepth 65536 in
theorem w_t2 : (words1.drop 24).all (fun c => isCode c || c.before args0 about1) = true := by decide +kernel
theorem w_tables : (allAtoms (Jvm.Cond.code x code maxLocals ret :: tables_1)).before args0 about1 = true := by
  rw [allAtoms_all]
  show words1.all (fun c => c.before args0 about1) = true
  refine all_split ?_ w_codes
  rw [← List.take_append_drop 24 words1, List.all_append, w_t1, w_t2]
  rfl
set_option maxRecDepth 65536 in
theorem w_case : (Jvm.Cond.and given_1 narrow_1).before args0 about1 = true := by decide +kernel
theorem w_applies : (headSpec (Jvm.Cond.code x code maxLocals ret :: tables_1) room_1).applies x e0.platform about1 = true :=
  (Spec.applies_iff w_frames).mpr ⟨w_running, w_runnable, w_alone, w_named, w_hears, w_ripe, w_room, w_tables⟩
theorem atStart : AtStart classFile x code maxLocals ret World_1 tables_1 room_1 Calls_1 rest_1 Pre_1 launch0 p0 e0 about1 theMethod args0 below0 :=
  ⟨lists_1, trivial, launch0.admits_env _ _ _, launch0.least_env, fairChoices_fair.cas, fairChoices_fair.clock, w_frames, w_args, w_heap, w_applies, trivial, trivial, w_case⟩
end start1
theorem witness_1 : WitnessClaimed_1 := ⟨start1.p0, start1.e0, start1.about1, start1.theMethod, start1.args0, start1.below0, start1.atStart⟩
end Jvm.Pilot.@@N@@
