import JvmDerived
import JvmDerived.Pilot.@@N@@Statement
import JvmDerived.Pilot.@@N@@Code
set_option linter.unusedVariables false
set_option linter.unusedSimpArgs false
namespace Jvm.Pilot.@@N@@
open Jvm Jvm.ClassFile Sem Op Lib Jvm.Free Jvm.Stand Jvm.LawKit Jvm.RoadKit Bundle Jvm.Pilot.@@N@@.Jvm.D
/-! ## the walking judgement -/
section Core
variable {w : Bool} {Z : State} {EL : List (String × Nat)} {own nm : String} {bytes : ByteArray} {ml : Nat} {ret : Option FieldType} {R : Room} {hS : Heap} {ws : List Addr} {Q : Option Value → Heap → Prop} {os : List Addr} {cells slots : Nat} {h h' : Heap} {pc pc' : Nat} {Ls Ls' : Array Slot} {rest : List Value} {a0 : Array Value}
def Ok (p : Program) (s : State) (m : MethodId) (meth : Method) (c : Code) (Z : State) (own nm : String) (bytes : ByteArray) (ml : Nat) (ret : Option FieldType) : Prop :=
  p.tables.exec = Jvm.exec ∧ c.code = bytes ∧ c.maxLocals = ml ∧ Z.Warmed39 s.vm ∧ s.vm.findClass own = some m.cls ∧ meth.name = nm ∧ meth.sig.returnType = ret ∧ meth.locks = false
/-- what is known of the tables at hand: in a plain walk they are the start's; in a wide one literals may have been loaded -/
def Sn : Bool → State → List (String × Nat) → State → Vm → Heap → List Addr → Prop
  | false, _, _, s, vm0, _, _ => vm0 = s.vm
  | true, Z, EL, s, vm0, h, os => (∃ k0, s.Since vm0 k0 ∧ k0 ≤ h.size) ∧ CHr Z EL s.vm s.heap vm0 h ∧ (∃ a0, EW Z a0 EL) ∧ ∀ x ∈ os, x < h.size ∧ Safe Z EL vm0 h x
def EndC : Bool → State → List (String × Nat) → State → Outcome → State → List Loc → Nat → Nat → Prop
  | false, _, _, s, o, t, L, k, n => FrameEnd s o t L k n
  | true, Z, EL, s, o, t, L, k, n => CHr Z EL s.vm s.heap t.vm t.heap ∧ ReturnedEndW s o t L k n
def Go (w : Bool) (Z : State) (EL : List (String × Nat)) (p : Program) (e : Env) (s : State) (below : List Frame) (R : Room) (hS : Heap) (ws : List Addr) (Q : Option Value → Heap → Prop) (S : State) : Prop :=
  ∃ s₂ o, Steps p.tables e below S s₂ ∧ s₂.status = .running ∧ Ended s₂ below o ∧ ∃ v L, o = .returned v ∧ (Fr Z.heap.size L ∧ Keep hS s₂.heap ws ∧ Q v s₂.heap) ∧ EndC w Z EL s o s₂ L R.cells R.slots
/-- the walk stands at pc over the heap h and ends as Q says -/
def Rn (w : Bool) (Z : State) (EL : List (String × Nat)) (own nm : String) (bytes : ByteArray) (ml : Nat) (ret : Option FieldType) (R : Room) (hS : Heap) (ws : List Addr) (Q : Option Value → Heap → Prop) (os : List Addr) (cells slots : Nat) (h : Heap) (pc : Nat) (Ls : Array Slot) (st : List Value) : Prop :=
  ∀ (p : Program) (l : Launch) (e : Env) (s : State) (vm0 : Vm) (m : MethodId) (args : Array Value) (below : List Frame) (meth : Method) (c : Code) (T : State) (locs : List Loc),
    Ok p (s.setVm vm0) m meth c Z own nm bytes ml ret → Stand p l e R (s.setVm vm0) m args below meth c T locs cells slots → Sn w Z EL s vm0 h os → Fr Z.heap.size locs → Keep hS h ws → (Ext Z.heap hS ∧ ∀ x ∈ ws, Z.heap.size ≤ x) → T.heap = h →
    Go w Z EL p e s below R hS ws Q (T.setTop (mkF m pc Ls st))
theorem Go.pre {p : Program} {e : Env} {s : State} {below : List Frame} {S S' : State} (k : ∀ t, Steps p.tables e below S' t → Steps p.tables e below S t) (g : Go w Z EL p e s below R hS ws Q S') : Go w Z EL p e s below R hS ws Q S := by
  obtain ⟨s₂, o, h1, r⟩ := g
  exact ⟨s₂, o, k _ h1, r⟩
/-- a step that moves nothing but the frame -/
theorem Rn.pure {st st' : List Value} (k : Rn w Z EL own nm bytes ml ret R hS ws Q os cells slots h pc' Ls' st')
    (f : ∀ (p : Program) (l : Launch) (e : Env) (s : State) (m : MethodId) (args : Array Value) (below : List Frame) (meth : Method) (c : Code) (T : State) (locs : List Loc), p.tables.exec = Jvm.exec → c.code = bytes → Stand p l e R s m args below meth c T locs cells slots → Z.Warmed39 s.vm → s.vm.findClass own = some m.cls → T.heap = h → ∀ t, Steps p.tables e below (T.setTop (mkF m pc' Ls' st')) t → Steps p.tables e below (T.setTop (mkF m pc Ls st)) t) :
    Rn w Z EL own nm bytes ml ret R hS ws Q os cells slots h pc Ls st := by
  intro p l e s vm0 m args below meth c T locs ok X sn fr K O eT
  exact (k p l e s vm0 m args below meth c T locs ok X sn fr K O eT).pre (f p l e _ m args below meth c T locs ok.1 ok.2.1 X ok.2.2.2.1 ok.2.2.2.2.1 eT)
/-- a step that may resolve an entry of the tables, and moves nothing else but the frame -/
theorem Rn.note {st st' : List Value} (k : Rn w Z EL own nm bytes ml ret R hS ws Q os cells slots h pc' Ls' st')
    (f : ∀ (p : Program) (l : Launch) (e : Env) (s : State) (m : MethodId) (args : Array Value) (below : List Frame) (meth : Method) (c : Code) (T : State) (locs : List Loc), p.tables.exec = Jvm.exec → c.code = bytes → c.maxLocals = ml → Stand p l e R s m args below meth c T locs cells slots → Z.Warmed39 s.vm → s.vm.findClass own = some m.cls → T.heap = h → ∃ T', Stand p l e R s m args below meth c T' locs cells slots ∧ T'.heap = h ∧ ∀ t, Steps p.tables e below (T'.setTop (mkF m pc' Ls' st')) t → Steps p.tables e below (T.setTop (mkF m pc Ls st)) t) :
    Rn w Z EL own nm bytes ml ret R hS ws Q os cells slots h pc Ls st := by
  intro p l e s vm0 m args below meth c T locs ok X sn fr K O eT
  obtain ⟨T', X', e', stp⟩ := f p l e _ m args below meth c T locs ok.1 ok.2.1 ok.2.2.1 X ok.2.2.2.1 ok.2.2.2.2.1 eT
  exact (k p l e s vm0 m args below meth c T' locs ok X' sn fr K O e').pre stp
theorem Sn.ext {s : State} {vm0 : Vm} (E : Ext h h') (sn : Sn w Z EL s vm0 h os) : Sn w Z EL s vm0 h' os := by
  cases w
  · exact sn
  · obtain ⟨⟨k0, a, b⟩, c, d, f⟩ := sn
    exact ⟨⟨k0, a, Nat.le_trans b E.1⟩, c.trans (CHr.ext E c.1), d, fun x hx => ⟨Nat.lt_of_lt_of_le (f x hx).1 E.1, (f x hx).2.ext E c.1⟩⟩
/-- the address may be written: no literal's cell -/
def Sf (w : Bool) (Z : State) (EL : List (String × Nat)) (os : List Addr) (h : Heap) (a : Addr) : Prop := w = true → a ∈ os ∨ ∀ vm, Z.vm.Alike vm → Safe Z EL vm h a
theorem Sf.no {a : Addr} : Sf false Z EL os h a := fun q => nomatch q
theorem Sf.mem {a : Addr} (q : a ∈ os) : Sf w Z EL os h a := fun _ => Or.inl q
theorem Sf.exa {a : Addr} {C : String} (E : Exa Z h a C) (h1 : C ≠ "java/lang/String") (h2 : C ≠ "[B") : Sf w Z EL os h a := fun _ => Or.inr fun _ al => Safe.exa al E h1 h2
theorem Sf.arr {a : Addr} {cl : Cell} {ty : FieldType} (A : Arr Z h a cl ty) (ht : ty ≠ .byte) : Sf w Z EL os h a := fun _ => Or.inr fun _ al => Safe.arr al A ht
theorem Sn.keep {s : State} {vm0 : Vm} {ws' : List Addr} (hZ : Z.Warmed39 vm0) (K : Keep h h' ws') (q : ∀ x ∈ ws', Sf w Z EL os h x) (sn : Sn w Z EL s vm0 h os) : Sn w Z EL s vm0 h' os := by
  cases w
  · exact sn
  · obtain ⟨⟨k0, a, b⟩, c, d, f⟩ := sn
    have q' : ∀ x ∈ ws', Safe Z EL vm0 h x := fun x hx => ((q x hx) rfl).elim (fun z => (f x z).2) (fun z => z _ hZ.alike)
    exact ⟨⟨k0, a, Nat.le_trans b K.1⟩, c.trans (CHr.keep K q' c.1), d, fun x hx => ⟨Nat.lt_of_lt_of_le (f x hx).1 K.1, (f x hx).2.keep K q' c.1⟩⟩
theorem Sn.wr {s : State} {vm0 : Vm} {a : Addr} {sl : Nat} {v : Value} (hZ : Z.Warmed39 vm0) (W : Wr h h' a sl v) (q : Sf w Z EL os h a) (sn : Sn w Z EL s vm0 h os) : Sn w Z EL s vm0 h' os :=
  sn.keep hZ (Keep.of_wr W) fun x hx => by cases List.mem_singleton.mp hx; exact q
theorem ge_of {a : Addr} (O : Ext Z.heap hS ∧ ∀ x ∈ ws, Z.heap.size ≤ x) (q : a ∈ ws ∨ hS.size ≤ a) : Z.heap.size ≤ a := q.elim (O.2 a) fun z => Nat.le_trans O.1.1 z
theorem Rn.wrote {st st' : List Value} {a : Addr} {sl : Nat} {v : Value} (q : a ∈ ws ∨ hS.size ≤ a) (sf : Sf w Z EL os h a) (k : ∀ h', Wr h h' a sl v → Rn w Z EL own nm bytes ml ret R hS ws Q os cells slots h' pc' Ls' st')
    (f : ∀ (p : Program) (l : Launch) (e : Env) (s : State) (m : MethodId) (args : Array Value) (below : List Frame) (meth : Method) (c : Code) (T : State) (locs : List Loc), p.tables.exec = Jvm.exec → c.code = bytes → meth.name = nm → Stand p l e R s m args below meth c T locs cells slots → Z.Warmed39 s.vm → s.vm.findClass own = some m.cls → T.heap = h → ∃ T' h', Stand p l e R s m args below meth c T' (locs ++ [⟨a, sl⟩]) cells slots ∧ T'.heap = h' ∧ Wr h h' a sl v ∧ ∀ t, Steps p.tables e below (T'.setTop (mkF m pc' Ls' st')) t → Steps p.tables e below (T.setTop (mkF m pc Ls st)) t) :
    Rn w Z EL own nm bytes ml ret R hS ws Q os cells slots h pc Ls st := by
  intro p l e s vm0 m args below meth c T locs ok X sn fr K O eT
  obtain ⟨T', h', X', e', W, stp⟩ := f p l e _ m args below meth c T locs ok.1 ok.2.1 ok.2.2.2.2.2.1 X ok.2.2.2.1 ok.2.2.2.2.1 eT
  exact (k h' W p l e s vm0 m args below meth c T' _ ok X' (sn.wr ok.2.2.2.1 W sf) (Fr.snoc X' fr (ge_of O q)) (K.wr W q) O e').pre stp
theorem Rn.made {st st' : Addr → List Value} {st0 : List Value} {G : Heap → Addr → Prop} {c1 s1 : Nat} (k : ∀ h' a, a = h.size → hS.size ≤ a → Ext h h' → G h' a → Rn w Z EL own nm bytes ml ret R hS ws Q (a :: os) (cells + c1) (slots + s1) h' pc' Ls' (st' a))
    (lt : ∀ h', G h' h.size → h.size < h'.size)
    (f : ∀ (p : Program) (l : Launch) (e : Env) (s : State) (m : MethodId) (args : Array Value) (below : List Frame) (meth : Method) (c : Code) (T : State) (locs : List Loc), p.tables.exec = Jvm.exec → c.code = bytes → Stand p l e R s m args below meth c T locs cells slots → Z.Warmed39 s.vm → s.vm.findClass own = some m.cls → T.heap = h → ∃ T' h', Stand p l e R s m args below meth c T' locs (cells + c1) (slots + s1) ∧ T'.heap = h' ∧ Ext h h' ∧ G h' h.size ∧ ∀ t, Steps p.tables e below (T'.setTop (mkF m pc' Ls' (st' h.size))) t → Steps p.tables e below (T.setTop (mkF m pc Ls st0)) t) :
    Rn w Z EL own nm bytes ml ret R hS ws Q os cells slots h pc Ls st0 := by
  intro p l e s vm0 m args below meth c T locs ok X sn fr K O eT
  obtain ⟨T', h', X', e', E, g, stp⟩ := f p l e _ m args below meth c T locs ok.1 ok.2.1 X ok.2.2.2.1 ok.2.2.2.2.1 eT
  have sn1 : Sn w Z EL s vm0 h' os := sn.ext E
  have sn' : Sn w Z EL s vm0 h' (h.size :: os) := by
    cases w
    · exact sn1
    · refine ⟨sn1.1, sn1.2.1, sn1.2.2.1, fun x hx => ?_⟩
      rcases List.mem_cons.mp hx with rfl | hx
      · exact ⟨lt h' g, (Safe.new (Nat.le_refl _)).ext E sn.2.1.1⟩
      · exact sn1.2.2.2 x hx
  exact (k h' h.size rfl K.1 E g p l e s vm0 m args below meth c T' _ ok X' sn' fr (K.ext E) O e').pre stp
theorem Rn.old (k : Ext Z.heap h → Keep hS h ws → Rn w Z EL own nm bytes ml ret R hS ws Q os cells slots h pc Ls rest) : Rn w Z EL own nm bytes ml ret R hS ws Q os cells slots h pc Ls rest := by
  intro p l e s vm0 m args below meth c T locs ok X sn fr K O eT
  have X0 : Old Z Z.heap.size h := Old.keep (h := hS) ⟨rfl, O.1⟩ K O.2
  exact k X0.2 K p l e s vm0 m args below meth c T locs ok X sn fr K O eT
theorem Rn.more {c2 s2 : Nat} (hc : cells ≤ c2) (hs : slots ≤ s2) (k : Rn w Z EL own nm bytes ml ret R hS ws Q os c2 s2 h pc Ls rest) : Rn w Z EL own nm bytes ml ret R hS ws Q os cells slots h pc Ls rest := by
  intro p l e s vm0 m args below meth c T locs ok X sn fr K O eT
  exact k p l e s vm0 m args below meth c T locs ok (X.more hc hs) sn fr K O eT
theorem Rn.less {os' : List Addr} (q : ∀ x ∈ os', x ∈ os) (k : Rn w Z EL own nm bytes ml ret R hS ws Q os' cells slots h pc Ls rest) : Rn w Z EL own nm bytes ml ret R hS ws Q os cells slots h pc Ls rest := by
  intro p l e s vm0 m args below meth c T locs ok X sn fr K O eT
  refine k p l e s vm0 m args below meth c T locs ok X ?_ fr K O eT
  cases w
  · exact sn
  · exact ⟨sn.1, sn.2.1, sn.2.2.1, fun x hx => sn.2.2.2 x (q x hx)⟩
/-! ### the ends -/
theorem Rn.leave {v : Option Value} {st : List Value} (hc : cells ≤ R.cells) (hs : slots ≤ R.slots) (hv : ret = none → v = none) (q : Q v h)
    (f : ∀ (p : Program) (l : Launch) (e : Env) (s : State) (m : MethodId) (args : Array Value) (below : List Frame) (meth : Method) (c : Code) (T : State) (locs : List Loc) (fs : List Frame), p.tables.exec = Jvm.exec → c.code = bytes → meth.sig.returnType = ret → Stand p l e R s m args below meth c T locs cells slots → (∀ (f : JFrame) (acts : List Action), f.method = m → f.locked = none → f.entered = [] → (doReturn e (T.setTop f) acts v).1 = T.setFrames fs) → Steps p.tables e below (T.setTop (mkF m pc Ls st)) (T.setFrames fs)) :
    Rn w Z EL own nm bytes ml ret R hS ws Q os cells slots h pc Ls st := by
  intro p l e s vm0 m args below meth c T locs ok X sn fr K O eT
  obtain ⟨hx, hby, hml, hZ, hown, hnm, hret, hlk⟩ := ok
  subst eT
  cases w
  · cases (sn : vm0 = s.vm)
    obtain ⟨fs, hr, hrun, hended, hW, hsame⟩ := X.leave (v := v) (fun z => hv (hret.symm.trans z)) hlk
    exact ⟨_, _, f p l e _ m args below meth c T locs fs hx hby hret X hr, hrun, hended, _, _, rfl, ⟨fr, K, q⟩, ⟨_, rfl⟩, hW, hsame.mono hc hs⟩
  · obtain ⟨⟨k0, hS0, hk⟩, hC, ⟨b0, hE⟩, -⟩ := sn
    obtain ⟨fs, hr, hrun, hended, h1, h2, h3, h4⟩ := Jvm.Stand.leaveW X hS0 hk (v := v) (fun z => hv (hret.symm.trans z)) hlk
    exact ⟨_, _, f p l e _ m args below meth c T locs fs hx hby hret X hr, hrun, hended, _, _, rfl, ⟨fr, K, q⟩, (show CHr Z EL s.vm s.heap T.vm T.heap from hC.trans (CHv.at X hZ hE hC.1)), h1, h2, h3, h4.mono hc hs⟩
theorem Rn.retV (hr : ret = none) (hd : decode bytes pc = .ok (.return_, 1)) (hc : cells ≤ R.cells) (hs : slots ≤ R.slots) (q : Q none h) : Rn w Z EL own nm bytes ml ret R hS ws Q os cells slots h pc Ls [] :=
  Rn.leave (v := none) hc hs (fun _ => rfl) q fun p l e s m args below meth c T locs fs hx hby hret X hl => X.returnOut hx (hret.trans hr) (hb hby hd) hl
theorem Rn.retN {t : FieldType} {z : Int32} (hr : ret = some t) (ht : t = .boolean ∨ t = .byte ∨ t = .char ∨ t = .short) (hd : decode bytes pc = .ok (.ireturn, 1)) (hc : cells ≤ R.cells) (hs : slots ≤ R.slots) (q : Q (some (.int (nar t z))) h) : Rn w Z EL own nm bytes ml ret R hS ws Q os cells slots h pc Ls (.int z :: rest) :=
  Rn.leave (v := some (.int (nar t z))) hc hs (fun z => by rw [hr] at z; cases z) q fun p l e s m args below meth c T locs fs hx hby hret X hl => Jvm.RoadKit.retN X hx (hret.trans hr) ht (hb hby hd) hl
theorem Rn.retO {t : FieldType} {v : Value} {i : Instr} (hr : ret = some t) (hn : narrow t v = v) (hi : (i = .ireturn ∧ (t = .int ∨ t = .boolean ∨ t = .byte ∨ t = .char ∨ t = .short) ∧ ∃ z, v = .int z) ∨ (i = .lreturn ∧ t = .long ∧ ∃ z, v = .long z) ∨ (i = .dreturn ∧ t = .double ∧ ∃ z, v = .double z) ∨ (i = .freturn ∧ t = .float ∧ ∃ z, v = .float z) ∨ (i = .areturn ∧ t.isReference = true ∧ v.isRef = true)) (hd : decode bytes pc = .ok (i, 1)) (hc : cells ≤ R.cells) (hs : slots ≤ R.slots) (q : Q (some v) h) : Rn w Z EL own nm bytes ml ret R hS ws Q os cells slots h pc Ls (v :: rest) :=
  Rn.leave (v := some v) hc hs (fun z => by rw [hr] at z; cases z) q fun p l e s m args below meth c T locs fs hx hby hret X hl => retOut X hx (hret.trans hr) hn hi (hb hby hd) hl
theorem Rn.retI {z : Int32} (hr : ret = some .int) (hd : decode bytes pc = .ok (.ireturn, 1)) (hc : cells ≤ R.cells) (hs : slots ≤ R.slots) (q : Q (some (.int z)) h) : Rn w Z EL own nm bytes ml ret R hS ws Q os cells slots h pc Ls (.int z :: rest) :=
  Rn.retO hr rfl (Or.inl ⟨rfl, Or.inl rfl, _, rfl⟩) hd hc hs q
theorem Rn.retJ {z : Int64} (hr : ret = some .long) (hd : decode bytes pc = .ok (.lreturn, 1)) (hc : cells ≤ R.cells) (hs : slots ≤ R.slots) (q : Q (some (.long z)) h) : Rn w Z EL own nm bytes ml ret R hS ws Q os cells slots h pc Ls (.long z :: rest) :=
  Rn.retO hr rfl (Or.inr (Or.inl ⟨rfl, rfl, _, rfl⟩)) hd hc hs q
theorem Rn.retD {z : UInt64} (hr : ret = some .double) (hd : decode bytes pc = .ok (.dreturn, 1)) (hc : cells ≤ R.cells) (hs : slots ≤ R.slots) (q : Q (some (.double z)) h) : Rn w Z EL own nm bytes ml ret R hS ws Q os cells slots h pc Ls (.double z :: rest) :=
  Rn.retO hr rfl (Or.inr (Or.inr (Or.inl ⟨rfl, rfl, _, rfl⟩))) hd hc hs q
theorem Rn.retA {t : FieldType} {v : Value} (hr : ret = some t) (ht : t.isReference = true) (hv : v.isRef = true) (hd : decode bytes pc = .ok (.areturn, 1)) (hc : cells ≤ R.cells) (hs : slots ≤ R.slots) (q : Q (some v) h) : Rn w Z EL own nm bytes ml ret R hS ws Q os cells slots h pc Ls (v :: rest) :=
  Rn.retO hr (by rcases ref_cases hv with rfl | ⟨a, rfl⟩ <;> cases t <;> simp [FieldType.isReference] at ht <;> rfl) (Or.inr (Or.inr (Or.inr (Or.inr ⟨rfl, ht, hv⟩)))) hd hc hs q
end Core
section Steps
variable {w : Bool} {Z : State} {EL : List (String × Nat)} {own nm : String} {bytes : ByteArray} {ml : Nat} {ret : Option FieldType} {R : Room} {hS : Heap} {ws : List Addr} {Q : Option Value → Heap → Prop} {os : List Addr} {cells slots : Nat} {h h' : Heap} {pc pc' : Nat} {Ls Ls' : Array Slot} {rest : List Value} {a0 : Array Value}
theorem Rn.iconst {i : Int} {v : Int32} (hd : decode bytes pc = .ok (.iconst i, 1)) (hv : Int32.ofInt i = v) (hp : pc + 1 = pc') (k : Rn w Z EL own nm bytes ml ret R hS ws Q os cells slots h pc' Ls (.int v :: rest)) : Rn w Z EL own nm bytes ml ret R hS ws Q os cells slots h pc Ls rest :=
  k.pure fun p l e s m args below meth c T locs hx hby X hZ hown eT t r => by subst hp; exact XS.iconst X.here hx rfl (hb hby hd) (hv ▸ r)
theorem Rn.bipush {i : Int} {v : Int32} (hd : decode bytes pc = .ok (.bipush i, 2)) (hv : (Int8.ofInt i).toInt32 = v) (hp : pc + 2 = pc') (k : Rn w Z EL own nm bytes ml ret R hS ws Q os cells slots h pc' Ls (.int v :: rest)) : Rn w Z EL own nm bytes ml ret R hS ws Q os cells slots h pc Ls rest :=
  k.pure fun p l e s m args below meth c T locs hx hby X hZ hown eT t r => by subst hp; exact XS.bipush X.here hx rfl (hb hby hd) (hv ▸ r)
theorem Rn.sipush {i : Int} {v : Int32} (hd : decode bytes pc = .ok (.sipush i, 3)) (hv : (Int16.ofInt i).toInt32 = v) (hp : pc + 3 = pc') (k : Rn w Z EL own nm bytes ml ret R hS ws Q os cells slots h pc' Ls (.int v :: rest)) : Rn w Z EL own nm bytes ml ret R hS ws Q os cells slots h pc Ls rest :=
  k.pure fun p l e s m args below meth c T locs hx hby X hZ hown eT t r => by subst hp; exact XS.sipush X.here hx rfl (hb hby hd) (hv ▸ r)
theorem Rn.lconst {i : Fin 2} {v : Int64} (hd : decode bytes pc = .ok (.lconst i, 1)) (hv : Int64.ofNat i = v) (hp : pc + 1 = pc') (k : Rn w Z EL own nm bytes ml ret R hS ws Q os cells slots h pc' Ls (.long v :: rest)) : Rn w Z EL own nm bytes ml ret R hS ws Q os cells slots h pc Ls rest :=
  k.pure fun p l e s m args below meth c T locs hx hby X hZ hown eT t r => by subst hp; exact XT.lconst X.here hx rfl (hb hby hd) (hv ▸ r)
theorem Rn.dconst0 {v : UInt64} (hd : decode bytes pc = .ok (.dconst 0, 1)) (hv : FP.dconst0 = v) (hp : pc + 1 = pc') (k : Rn w Z EL own nm bytes ml ret R hS ws Q os cells slots h pc' Ls (.double v :: rest)) : Rn w Z EL own nm bytes ml ret R hS ws Q os cells slots h pc Ls rest :=
  k.pure fun p l e s m args below meth c T locs hx hby X hZ hown eT t r => by subst hp; exact XS.dconst0 X.here hx rfl (hb hby hd) hv r
theorem Rn.dconst1 {v : UInt64} (hd : decode bytes pc = .ok (.dconst 1, 1)) (hv : FP.dconst1 = v) (hp : pc + 1 = pc') (k : Rn w Z EL own nm bytes ml ret R hS ws Q os cells slots h pc' Ls (.double v :: rest)) : Rn w Z EL own nm bytes ml ret R hS ws Q os cells slots h pc Ls rest :=
  k.pure fun p l e s m args below meth c T locs hx hby X hZ hown eT t r => by subst hp; exact XS.dconst1 X.here hx rfl (hb hby hd) hv r
theorem Rn.aconst_null  (hd : decode bytes pc = .ok (.aconst_null, 1)) (hp : pc + 1 = pc') (k : Rn w Z EL own nm bytes ml ret R hS ws Q os cells slots h pc' Ls (.null :: rest)) : Rn w Z EL own nm bytes ml ret R hS ws Q os cells slots h pc Ls rest :=
  k.pure fun p l e s m args below meth c T locs hx hby X hZ hown eT t r => by subst hp; exact XS.aconstNull X.here hx rfl (hb hby hd) r
theorem Rn.iload {n : Nat} {v : Int32} (hd : decode bytes pc = .ok (.iload n, 2)) (hl : Ls[n]? = some (.val (.int v))) (hp : pc + 2 = pc') (k : Rn w Z EL own nm bytes ml ret R hS ws Q os cells slots h pc' Ls (.int v :: rest)) : Rn w Z EL own nm bytes ml ret R hS ws Q os cells slots h pc Ls rest :=
  k.pure fun p l e s m args below meth c T locs hx hby X hZ hown eT t r => by subst hp; exact XS.iload X.here hx rfl (hb hby hd) hl r
theorem Rn.iloadN {n : Fin 4} {v : Int32} (hd : decode bytes pc = .ok (.iload_n n, 1)) (hl : Ls[n.val]? = some (.val (.int v))) (hp : pc + 1 = pc') (k : Rn w Z EL own nm bytes ml ret R hS ws Q os cells slots h pc' Ls (.int v :: rest)) : Rn w Z EL own nm bytes ml ret R hS ws Q os cells slots h pc Ls rest :=
  k.pure fun p l e s m args below meth c T locs hx hby X hZ hown eT t r => by subst hp; exact XS.iloadN X.here hx rfl (hb hby hd) hl r
theorem Rn.istore {n : Nat} {v : Int32} (hd : decode bytes pc = .ok (.istore n, 2)) (hl : storeLocals Ls n (.int v) = some Ls') (hp : pc + 2 = pc') (k : Rn w Z EL own nm bytes ml ret R hS ws Q os cells slots h pc' Ls' rest) : Rn w Z EL own nm bytes ml ret R hS ws Q os cells slots h pc Ls (.int v :: rest) :=
  k.pure fun p l e s m args below meth c T locs hx hby X hZ hown eT t r => by subst hp; exact XS.istore X.here hx rfl (hb hby hd) rfl hl r
theorem Rn.istoreN {n : Fin 4} {v : Int32} (hd : decode bytes pc = .ok (.istore_n n, 1)) (hl : storeLocals Ls n.val (.int v) = some Ls') (hp : pc + 1 = pc') (k : Rn w Z EL own nm bytes ml ret R hS ws Q os cells slots h pc' Ls' rest) : Rn w Z EL own nm bytes ml ret R hS ws Q os cells slots h pc Ls (.int v :: rest) :=
  k.pure fun p l e s m args below meth c T locs hx hby X hZ hown eT t r => by subst hp; exact XS.istoreN X.here hx rfl (hb hby hd) rfl hl r
theorem Rn.lload {n : Nat} {v : Int64} (hd : decode bytes pc = .ok (.lload n, 2)) (hl : Ls[n]? = some (.val (.long v))) (hp : pc + 2 = pc') (k : Rn w Z EL own nm bytes ml ret R hS ws Q os cells slots h pc' Ls (.long v :: rest)) : Rn w Z EL own nm bytes ml ret R hS ws Q os cells slots h pc Ls rest :=
  k.pure fun p l e s m args below meth c T locs hx hby X hZ hown eT t r => by subst hp; exact XT.lload X.here hx rfl (hb hby hd) hl r
theorem Rn.lloadN {n : Fin 4} {v : Int64} (hd : decode bytes pc = .ok (.lload_n n, 1)) (hl : Ls[n.val]? = some (.val (.long v))) (hp : pc + 1 = pc') (k : Rn w Z EL own nm bytes ml ret R hS ws Q os cells slots h pc' Ls (.long v :: rest)) : Rn w Z EL own nm bytes ml ret R hS ws Q os cells slots h pc Ls rest :=
  k.pure fun p l e s m args below meth c T locs hx hby X hZ hown eT t r => by subst hp; exact XT.lloadN X.here hx rfl (hb hby hd) hl r
theorem Rn.lstore {n : Nat} {v : Int64} (hd : decode bytes pc = .ok (.lstore n, 2)) (hl : storeLocals Ls n (.long v) = some Ls') (hp : pc + 2 = pc') (k : Rn w Z EL own nm bytes ml ret R hS ws Q os cells slots h pc' Ls' rest) : Rn w Z EL own nm bytes ml ret R hS ws Q os cells slots h pc Ls (.long v :: rest) :=
  k.pure fun p l e s m args below meth c T locs hx hby X hZ hown eT t r => by subst hp; exact XT.lstore X.here hx rfl (hb hby hd) rfl hl r
theorem Rn.lstoreN {n : Fin 4} {v : Int64} (hd : decode bytes pc = .ok (.lstore_n n, 1)) (hl : storeLocals Ls n.val (.long v) = some Ls') (hp : pc + 1 = pc') (k : Rn w Z EL own nm bytes ml ret R hS ws Q os cells slots h pc' Ls' rest) : Rn w Z EL own nm bytes ml ret R hS ws Q os cells slots h pc Ls (.long v :: rest) :=
  k.pure fun p l e s m args below meth c T locs hx hby X hZ hown eT t r => by subst hp; exact XT.lstoreN X.here hx rfl (hb hby hd) rfl hl r
theorem Rn.dload {n : Nat} {v : UInt64} (hd : decode bytes pc = .ok (.dload n, 2)) (hl : Ls[n]? = some (.val (.double v))) (hp : pc + 2 = pc') (k : Rn w Z EL own nm bytes ml ret R hS ws Q os cells slots h pc' Ls (.double v :: rest)) : Rn w Z EL own nm bytes ml ret R hS ws Q os cells slots h pc Ls rest :=
  k.pure fun p l e s m args below meth c T locs hx hby X hZ hown eT t r => by subst hp; exact XS.dload X.here hx rfl (hb hby hd) hl r
theorem Rn.dloadN {n : Fin 4} {v : UInt64} (hd : decode bytes pc = .ok (.dload_n n, 1)) (hl : Ls[n.val]? = some (.val (.double v))) (hp : pc + 1 = pc') (k : Rn w Z EL own nm bytes ml ret R hS ws Q os cells slots h pc' Ls (.double v :: rest)) : Rn w Z EL own nm bytes ml ret R hS ws Q os cells slots h pc Ls rest :=
  k.pure fun p l e s m args below meth c T locs hx hby X hZ hown eT t r => by subst hp; exact XS.dloadN X.here hx rfl (hb hby hd) hl r
theorem Rn.dstore {n : Nat} {v : UInt64} (hd : decode bytes pc = .ok (.dstore n, 2)) (hl : storeLocals Ls n (.double v) = some Ls') (hp : pc + 2 = pc') (k : Rn w Z EL own nm bytes ml ret R hS ws Q os cells slots h pc' Ls' rest) : Rn w Z EL own nm bytes ml ret R hS ws Q os cells slots h pc Ls (.double v :: rest) :=
  k.pure fun p l e s m args below meth c T locs hx hby X hZ hown eT t r => by subst hp; exact XS.dstore X.here hx rfl (hb hby hd) rfl hl r
theorem Rn.dstoreN {n : Fin 4} {v : UInt64} (hd : decode bytes pc = .ok (.dstore_n n, 1)) (hl : storeLocals Ls n.val (.double v) = some Ls') (hp : pc + 1 = pc') (k : Rn w Z EL own nm bytes ml ret R hS ws Q os cells slots h pc' Ls' rest) : Rn w Z EL own nm bytes ml ret R hS ws Q os cells slots h pc Ls (.double v :: rest) :=
  k.pure fun p l e s m args below meth c T locs hx hby X hZ hown eT t r => by subst hp; exact XS.dstoreN X.here hx rfl (hb hby hd) rfl hl r
theorem Rn.aload {n : Nat} {v : Value} (hd : decode bytes pc = .ok (.aload n, 2)) (hl : Ls[n]? = some (.val v)) (hv : v.isRef = true) (hp : pc + 2 = pc') (k : Rn w Z EL own nm bytes ml ret R hS ws Q os cells slots h pc' Ls (v :: rest)) : Rn w Z EL own nm bytes ml ret R hS ws Q os cells slots h pc Ls rest :=
  k.pure fun p l e s m args below meth c T locs hx hby X hZ hown eT t r => by subst hp; exact XS.aload X.here hx rfl (hb hby hd) hl hv r
theorem Rn.aloadN {n : Fin 4} {v : Value} (hd : decode bytes pc = .ok (.aload_n n, 1)) (hl : Ls[n.val]? = some (.val v)) (hv : v.isRef = true) (hp : pc + 1 = pc') (k : Rn w Z EL own nm bytes ml ret R hS ws Q os cells slots h pc' Ls (v :: rest)) : Rn w Z EL own nm bytes ml ret R hS ws Q os cells slots h pc Ls rest :=
  k.pure fun p l e s m args below meth c T locs hx hby X hZ hown eT t r => by subst hp; exact XS.aloadN X.here hx rfl (hb hby hd) hl hv r
theorem Rn.astore {n : Nat} {v : Value} (hd : decode bytes pc = .ok (.astore n, 2)) (hv : v.isRef = true) (hl : storeLocals Ls n v = some Ls') (hp : pc + 2 = pc') (k : Rn w Z EL own nm bytes ml ret R hS ws Q os cells slots h pc' Ls' rest) : Rn w Z EL own nm bytes ml ret R hS ws Q os cells slots h pc Ls (v :: rest) :=
  k.pure fun p l e s m args below meth c T locs hx hby X hZ hown eT t r => by subst hp; exact XS.astore X.here hx rfl (hb hby hd) rfl hv hl r
theorem Rn.astoreN {n : Fin 4} {v : Value} (hd : decode bytes pc = .ok (.astore_n n, 1)) (hv : v.isRef = true) (hl : storeLocals Ls n.val v = some Ls') (hp : pc + 1 = pc') (k : Rn w Z EL own nm bytes ml ret R hS ws Q os cells slots h pc' Ls' rest) : Rn w Z EL own nm bytes ml ret R hS ws Q os cells slots h pc Ls (v :: rest) :=
  k.pure fun p l e s m args below meth c T locs hx hby X hZ hown eT t r => by subst hp; exact XS.astoreN X.here hx rfl (hb hby hd) rfl hv hl r
theorem Rn.iinc {n : Nat} {ct : Int} {x v : Int32} (hd : decode bytes pc = .ok (.iinc n ct, 3)) (hl : Ls[n]? = some (.val (.int x))) (hv : x + Int32.ofInt ct = v) (hl' : storeLocals Ls n (.int v) = some Ls') (hp : pc + 3 = pc') (k : Rn w Z EL own nm bytes ml ret R hS ws Q os cells slots h pc' Ls' rest) : Rn w Z EL own nm bytes ml ret R hS ws Q os cells slots h pc Ls rest :=
  k.pure fun p l e s m args below meth c T locs hx hby X hZ hown eT t r => by subst hp; exact XS.iinc X.here hx rfl (hb hby hd) hl (hv ▸ hl') r
theorem Rn.iadd {x y v : Int32} (hd : decode bytes pc = .ok (.iadd, 1)) (hv : x + y = v) (hp : pc + 1 = pc') (k : Rn w Z EL own nm bytes ml ret R hS ws Q os cells slots h pc' Ls (.int v :: rest)) : Rn w Z EL own nm bytes ml ret R hS ws Q os cells slots h pc Ls (.int y :: .int x :: rest) :=
  k.pure fun p l e s m args below meth c T locs hx hby X hZ hown eT t r => by subst hp; exact XS.iadd X.here hx rfl (hb hby hd) rfl (hv ▸ r)
theorem Rn.isub {x y v : Int32} (hd : decode bytes pc = .ok (.isub, 1)) (hv : x - y = v) (hp : pc + 1 = pc') (k : Rn w Z EL own nm bytes ml ret R hS ws Q os cells slots h pc' Ls (.int v :: rest)) : Rn w Z EL own nm bytes ml ret R hS ws Q os cells slots h pc Ls (.int y :: .int x :: rest) :=
  k.pure fun p l e s m args below meth c T locs hx hby X hZ hown eT t r => by subst hp; exact XS.isub X.here hx rfl (hb hby hd) rfl (hv ▸ r)
theorem Rn.imul {x y v : Int32} (hd : decode bytes pc = .ok (.imul, 1)) (hv : x * y = v) (hp : pc + 1 = pc') (k : Rn w Z EL own nm bytes ml ret R hS ws Q os cells slots h pc' Ls (.int v :: rest)) : Rn w Z EL own nm bytes ml ret R hS ws Q os cells slots h pc Ls (.int y :: .int x :: rest) :=
  k.pure fun p l e s m args below meth c T locs hx hby X hZ hown eT t r => by subst hp; exact XS.imul X.here hx rfl (hb hby hd) rfl (hv ▸ r)
theorem Rn.iand {x y v : Int32} (hd : decode bytes pc = .ok (.iand, 1)) (hv : x &&& y = v) (hp : pc + 1 = pc') (k : Rn w Z EL own nm bytes ml ret R hS ws Q os cells slots h pc' Ls (.int v :: rest)) : Rn w Z EL own nm bytes ml ret R hS ws Q os cells slots h pc Ls (.int y :: .int x :: rest) :=
  k.pure fun p l e s m args below meth c T locs hx hby X hZ hown eT t r => by subst hp; exact XS.iand X.here hx rfl (hb hby hd) rfl (hv ▸ r)
theorem Rn.ior {x y v : Int32} (hd : decode bytes pc = .ok (.ior, 1)) (hv : x ||| y = v) (hp : pc + 1 = pc') (k : Rn w Z EL own nm bytes ml ret R hS ws Q os cells slots h pc' Ls (.int v :: rest)) : Rn w Z EL own nm bytes ml ret R hS ws Q os cells slots h pc Ls (.int y :: .int x :: rest) :=
  k.pure fun p l e s m args below meth c T locs hx hby X hZ hown eT t r => by subst hp; exact XT.ior X.here hx rfl (hb hby hd) rfl (hv ▸ r)
theorem Rn.ixor {x y v : Int32} (hd : decode bytes pc = .ok (.ixor, 1)) (hv : x ^^^ y = v) (hp : pc + 1 = pc') (k : Rn w Z EL own nm bytes ml ret R hS ws Q os cells slots h pc' Ls (.int v :: rest)) : Rn w Z EL own nm bytes ml ret R hS ws Q os cells slots h pc Ls (.int y :: .int x :: rest) :=
  k.pure fun p l e s m args below meth c T locs hx hby X hZ hown eT t r => by subst hp; exact XT.ixor X.here hx rfl (hb hby hd) rfl (hv ▸ r)
theorem Rn.ishl {x y v : Int32} (hd : decode bytes pc = .ok (.ishl, 1)) (hv : x <<< (y &&& 31) = v) (hp : pc + 1 = pc') (k : Rn w Z EL own nm bytes ml ret R hS ws Q os cells slots h pc' Ls (.int v :: rest)) : Rn w Z EL own nm bytes ml ret R hS ws Q os cells slots h pc Ls (.int y :: .int x :: rest) :=
  k.pure fun p l e s m args below meth c T locs hx hby X hZ hown eT t r => by subst hp; exact XT.ishl X.here hx rfl (hb hby hd) rfl (hv ▸ r)
theorem Rn.ishr {x y v : Int32} (hd : decode bytes pc = .ok (.ishr, 1)) (hv : x >>> (y &&& 31) = v) (hp : pc + 1 = pc') (k : Rn w Z EL own nm bytes ml ret R hS ws Q os cells slots h pc' Ls (.int v :: rest)) : Rn w Z EL own nm bytes ml ret R hS ws Q os cells slots h pc Ls (.int y :: .int x :: rest) :=
  k.pure fun p l e s m args below meth c T locs hx hby X hZ hown eT t r => by subst hp; exact XT.ishr X.here hx rfl (hb hby hd) rfl (hv ▸ r)
theorem Rn.iushr {x y v : Int32} (hd : decode bytes pc = .ok (.iushr, 1)) (hv : XT.ushr x y = v) (hp : pc + 1 = pc') (k : Rn w Z EL own nm bytes ml ret R hS ws Q os cells slots h pc' Ls (.int v :: rest)) : Rn w Z EL own nm bytes ml ret R hS ws Q os cells slots h pc Ls (.int y :: .int x :: rest) :=
  k.pure fun p l e s m args below meth c T locs hx hby X hZ hown eT t r => by subst hp; exact XT.iushr X.here hx rfl (hb hby hd) rfl (hv ▸ r)
theorem Rn.idiv {x y v : Int32} (hd : decode bytes pc = .ok (.idiv, 1)) (hy : y ≠ 0) (hv : x / y = v) (hp : pc + 1 = pc') (k : Rn w Z EL own nm bytes ml ret R hS ws Q os cells slots h pc' Ls (.int v :: rest)) : Rn w Z EL own nm bytes ml ret R hS ws Q os cells slots h pc Ls (.int y :: .int x :: rest) :=
  k.pure fun p l e s m args below meth c T locs hx hby X hZ hown eT t r => by subst hp; exact XS.idiv X.here hx rfl (hb hby hd) rfl hy (hv ▸ r)
theorem Rn.irem {x y v : Int32} (hd : decode bytes pc = .ok (.irem, 1)) (hy : y ≠ 0) (hv : x % y = v) (hp : pc + 1 = pc') (k : Rn w Z EL own nm bytes ml ret R hS ws Q os cells slots h pc' Ls (.int v :: rest)) : Rn w Z EL own nm bytes ml ret R hS ws Q os cells slots h pc Ls (.int y :: .int x :: rest) :=
  k.pure fun p l e s m args below meth c T locs hx hby X hZ hown eT t r => by subst hp; exact iremM X hx rfl (hb hby hd) rfl hy (hv ▸ r)
theorem Rn.ineg {x v : Int32} (hd : decode bytes pc = .ok (.ineg, 1)) (hv : -x = v) (hp : pc + 1 = pc') (k : Rn w Z EL own nm bytes ml ret R hS ws Q os cells slots h pc' Ls (.int v :: rest)) : Rn w Z EL own nm bytes ml ret R hS ws Q os cells slots h pc Ls (.int x :: rest) :=
  k.pure fun p l e s m args below meth c T locs hx hby X hZ hown eT t r => by subst hp; exact XS.ineg X.here hx rfl (hb hby hd) rfl (hv ▸ r)
theorem Rn.ladd {x y v : Int64} (hd : decode bytes pc = .ok (.ladd, 1)) (hv : x + y = v) (hp : pc + 1 = pc') (k : Rn w Z EL own nm bytes ml ret R hS ws Q os cells slots h pc' Ls (.long v :: rest)) : Rn w Z EL own nm bytes ml ret R hS ws Q os cells slots h pc Ls (.long y :: .long x :: rest) :=
  k.pure fun p l e s m args below meth c T locs hx hby X hZ hown eT t r => by subst hp; exact XT.ladd X.here hx rfl (hb hby hd) rfl (hv ▸ r)
theorem Rn.lsub {x y v : Int64} (hd : decode bytes pc = .ok (.lsub, 1)) (hv : x - y = v) (hp : pc + 1 = pc') (k : Rn w Z EL own nm bytes ml ret R hS ws Q os cells slots h pc' Ls (.long v :: rest)) : Rn w Z EL own nm bytes ml ret R hS ws Q os cells slots h pc Ls (.long y :: .long x :: rest) :=
  k.pure fun p l e s m args below meth c T locs hx hby X hZ hown eT t r => by subst hp; exact XT.lsub X.here hx rfl (hb hby hd) rfl (hv ▸ r)
theorem Rn.lmul {x y v : Int64} (hd : decode bytes pc = .ok (.lmul, 1)) (hv : x * y = v) (hp : pc + 1 = pc') (k : Rn w Z EL own nm bytes ml ret R hS ws Q os cells slots h pc' Ls (.long v :: rest)) : Rn w Z EL own nm bytes ml ret R hS ws Q os cells slots h pc Ls (.long y :: .long x :: rest) :=
  k.pure fun p l e s m args below meth c T locs hx hby X hZ hown eT t r => by subst hp; exact XT.lmul X.here hx rfl (hb hby hd) rfl (hv ▸ r)
theorem Rn.land {x y v : Int64} (hd : decode bytes pc = .ok (.land, 1)) (hv : x &&& y = v) (hp : pc + 1 = pc') (k : Rn w Z EL own nm bytes ml ret R hS ws Q os cells slots h pc' Ls (.long v :: rest)) : Rn w Z EL own nm bytes ml ret R hS ws Q os cells slots h pc Ls (.long y :: .long x :: rest) :=
  k.pure fun p l e s m args below meth c T locs hx hby X hZ hown eT t r => by subst hp; exact XT.land X.here hx rfl (hb hby hd) rfl (hv ▸ r)
theorem Rn.lor {x y v : Int64} (hd : decode bytes pc = .ok (.lor, 1)) (hv : x ||| y = v) (hp : pc + 1 = pc') (k : Rn w Z EL own nm bytes ml ret R hS ws Q os cells slots h pc' Ls (.long v :: rest)) : Rn w Z EL own nm bytes ml ret R hS ws Q os cells slots h pc Ls (.long y :: .long x :: rest) :=
  k.pure fun p l e s m args below meth c T locs hx hby X hZ hown eT t r => by subst hp; exact XT.lor X.here hx rfl (hb hby hd) rfl (hv ▸ r)
theorem Rn.lxor {x y v : Int64} (hd : decode bytes pc = .ok (.lxor, 1)) (hv : x ^^^ y = v) (hp : pc + 1 = pc') (k : Rn w Z EL own nm bytes ml ret R hS ws Q os cells slots h pc' Ls (.long v :: rest)) : Rn w Z EL own nm bytes ml ret R hS ws Q os cells slots h pc Ls (.long y :: .long x :: rest) :=
  k.pure fun p l e s m args below meth c T locs hx hby X hZ hown eT t r => by subst hp; exact XT.lxor X.here hx rfl (hb hby hd) rfl (hv ▸ r)
theorem Rn.lshl {x v : Int64} {y : Int32} (hd : decode bytes pc = .ok (.lshl, 1)) (hv : x <<< (y.toInt64 &&& 63) = v) (hp : pc + 1 = pc') (k : Rn w Z EL own nm bytes ml ret R hS ws Q os cells slots h pc' Ls (.long v :: rest)) : Rn w Z EL own nm bytes ml ret R hS ws Q os cells slots h pc Ls (.int y :: .long x :: rest) :=
  k.pure fun p l e s m args below meth c T locs hx hby X hZ hown eT t r => by subst hp; exact XT.lshl X.here hx rfl (hb hby hd) rfl (hv ▸ r)
theorem Rn.lshr {x v : Int64} {y : Int32} (hd : decode bytes pc = .ok (.lshr, 1)) (hv : x >>> (y.toInt64 &&& 63) = v) (hp : pc + 1 = pc') (k : Rn w Z EL own nm bytes ml ret R hS ws Q os cells slots h pc' Ls (.long v :: rest)) : Rn w Z EL own nm bytes ml ret R hS ws Q os cells slots h pc Ls (.int y :: .long x :: rest) :=
  k.pure fun p l e s m args below meth c T locs hx hby X hZ hown eT t r => by subst hp; exact XT.lshr X.here hx rfl (hb hby hd) rfl (hv ▸ r)
theorem Rn.lushr {x v : Int64} {y : Int32} (hd : decode bytes pc = .ok (.lushr, 1)) (hv : XT.ushrL x y = v) (hp : pc + 1 = pc') (k : Rn w Z EL own nm bytes ml ret R hS ws Q os cells slots h pc' Ls (.long v :: rest)) : Rn w Z EL own nm bytes ml ret R hS ws Q os cells slots h pc Ls (.int y :: .long x :: rest) :=
  k.pure fun p l e s m args below meth c T locs hx hby X hZ hown eT t r => by subst hp; exact XT.lushr X.here hx rfl (hb hby hd) rfl (hv ▸ r)
theorem Rn.lneg {x v : Int64} (hd : decode bytes pc = .ok (.lneg, 1)) (hv : -x = v) (hp : pc + 1 = pc') (k : Rn w Z EL own nm bytes ml ret R hS ws Q os cells slots h pc' Ls (.long v :: rest)) : Rn w Z EL own nm bytes ml ret R hS ws Q os cells slots h pc Ls (.long x :: rest) :=
  k.pure fun p l e s m args below meth c T locs hx hby X hZ hown eT t r => by subst hp; exact XT.lneg X.here hx rfl (hb hby hd) rfl (hv ▸ r)
theorem Rn.i2l {x : Int32} {v : Int64} (hd : decode bytes pc = .ok (.i2l, 1)) (hv : x.toInt64 = v) (hp : pc + 1 = pc') (k : Rn w Z EL own nm bytes ml ret R hS ws Q os cells slots h pc' Ls (.long v :: rest)) : Rn w Z EL own nm bytes ml ret R hS ws Q os cells slots h pc Ls (.int x :: rest) :=
  k.pure fun p l e s m args below meth c T locs hx hby X hZ hown eT t r => by subst hp; exact XT.i2l X.here hx rfl (hb hby hd) rfl (hv ▸ r)
theorem Rn.l2i {x : Int64} {v : Int32} (hd : decode bytes pc = .ok (.l2i, 1)) (hv : x.toInt32 = v) (hp : pc + 1 = pc') (k : Rn w Z EL own nm bytes ml ret R hS ws Q os cells slots h pc' Ls (.int v :: rest)) : Rn w Z EL own nm bytes ml ret R hS ws Q os cells slots h pc Ls (.long x :: rest) :=
  k.pure fun p l e s m args below meth c T locs hx hby X hZ hown eT t r => by subst hp; exact XT.l2i X.here hx rfl (hb hby hd) rfl (hv ▸ r)
theorem Rn.i2b {x : Int32} {v : Int32} (hd : decode bytes pc = .ok (.i2b, 1)) (hv : x.toInt8.toInt32 = v) (hp : pc + 1 = pc') (k : Rn w Z EL own nm bytes ml ret R hS ws Q os cells slots h pc' Ls (.int v :: rest)) : Rn w Z EL own nm bytes ml ret R hS ws Q os cells slots h pc Ls (.int x :: rest) :=
  k.pure fun p l e s m args below meth c T locs hx hby X hZ hown eT t r => by subst hp; exact XT.i2b X.here hx rfl (hb hby hd) rfl (hv ▸ r)
theorem Rn.i2c {x : Int32} {v : Int32} (hd : decode bytes pc = .ok (.i2c, 1)) (hv : x.toUInt32.toUInt16.toUInt32.toInt32 = v) (hp : pc + 1 = pc') (k : Rn w Z EL own nm bytes ml ret R hS ws Q os cells slots h pc' Ls (.int v :: rest)) : Rn w Z EL own nm bytes ml ret R hS ws Q os cells slots h pc Ls (.int x :: rest) :=
  k.pure fun p l e s m args below meth c T locs hx hby X hZ hown eT t r => by subst hp; exact XT.i2c X.here hx rfl (hb hby hd) rfl (hv ▸ r)
theorem Rn.i2s {x : Int32} {v : Int32} (hd : decode bytes pc = .ok (.i2s, 1)) (hv : x.toInt16.toInt32 = v) (hp : pc + 1 = pc') (k : Rn w Z EL own nm bytes ml ret R hS ws Q os cells slots h pc' Ls (.int v :: rest)) : Rn w Z EL own nm bytes ml ret R hS ws Q os cells slots h pc Ls (.int x :: rest) :=
  k.pure fun p l e s m args below meth c T locs hx hby X hZ hown eT t r => by subst hp; exact XT.i2s X.here hx rfl (hb hby hd) rfl (hv ▸ r)
theorem Rn.i2d {x : Int32} {v : UInt64} (hd : decode bytes pc = .ok (.i2d, 1)) (hv : FP.i2d x = v) (hp : pc + 1 = pc') (k : Rn w Z EL own nm bytes ml ret R hS ws Q os cells slots h pc' Ls (.double v :: rest)) : Rn w Z EL own nm bytes ml ret R hS ws Q os cells slots h pc Ls (.int x :: rest) :=
  k.pure fun p l e s m args below meth c T locs hx hby X hZ hown eT t r => by subst hp; exact XS.i2dS X.here hx rfl (hb hby hd) rfl hv r
theorem Rn.l2d {x : Int64} {v : UInt64} (hd : decode bytes pc = .ok (.l2d, 1)) (hv : FP.l2d x = v) (hp : pc + 1 = pc') (k : Rn w Z EL own nm bytes ml ret R hS ws Q os cells slots h pc' Ls (.double v :: rest)) : Rn w Z EL own nm bytes ml ret R hS ws Q os cells slots h pc Ls (.long x :: rest) :=
  k.pure fun p l e s m args below meth c T locs hx hby X hZ hown eT t r => by subst hp; exact XS.l2dS X.here hx rfl (hb hby hd) rfl hv r
theorem Rn.d2i {x : UInt64} {v : Int32} (hd : decode bytes pc = .ok (.d2i, 1)) (hv : FP.d2i x = v) (hp : pc + 1 = pc') (k : Rn w Z EL own nm bytes ml ret R hS ws Q os cells slots h pc' Ls (.int v :: rest)) : Rn w Z EL own nm bytes ml ret R hS ws Q os cells slots h pc Ls (.double x :: rest) :=
  k.pure fun p l e s m args below meth c T locs hx hby X hZ hown eT t r => by subst hp; exact XS.d2iS X.here hx rfl (hb hby hd) rfl hv r
theorem Rn.d2l {x : UInt64} {v : Int64} (hd : decode bytes pc = .ok (.d2l, 1)) (hv : FP.d2l x = v) (hp : pc + 1 = pc') (k : Rn w Z EL own nm bytes ml ret R hS ws Q os cells slots h pc' Ls (.long v :: rest)) : Rn w Z EL own nm bytes ml ret R hS ws Q os cells slots h pc Ls (.double x :: rest) :=
  k.pure fun p l e s m args below meth c T locs hx hby X hZ hown eT t r => by subst hp; exact XS.d2lS X.here hx rfl (hb hby hd) rfl hv r
theorem Rn.dneg {x : UInt64} {v : UInt64} (hd : decode bytes pc = .ok (.dneg, 1)) (hv : FP.dneg x = v) (hp : pc + 1 = pc') (k : Rn w Z EL own nm bytes ml ret R hS ws Q os cells slots h pc' Ls (.double v :: rest)) : Rn w Z EL own nm bytes ml ret R hS ws Q os cells slots h pc Ls (.double x :: rest) :=
  k.pure fun p l e s m args below meth c T locs hx hby X hZ hown eT t r => by subst hp; exact XS.dnegS X.here hx rfl (hb hby hd) rfl hv r
theorem Rn.dadd {x y v : UInt64} (hd : decode bytes pc = .ok (.dadd, 1)) (hn : Jvm.Free.Fl.NoNaN64 v) (hv : FP.dadd x y = v) (hp : pc + 1 = pc') (k : Rn w Z EL own nm bytes ml ret R hS ws Q os cells slots h pc' Ls (.double v :: rest)) : Rn w Z EL own nm bytes ml ret R hS ws Q os cells slots h pc Ls (.double y :: .double x :: rest) :=
  k.pure fun p l e s m args below meth c T locs hx hby X hZ hown eT t r => by subst hp; exact XS.daddS X.here hx rfl (hb hby hd) rfl (hv.symm ▸ hn) hv r
theorem Rn.dsub {x y v : UInt64} (hd : decode bytes pc = .ok (.dsub, 1)) (hn : Jvm.Free.Fl.NoNaN64 v) (hv : FP.dsub x y = v) (hp : pc + 1 = pc') (k : Rn w Z EL own nm bytes ml ret R hS ws Q os cells slots h pc' Ls (.double v :: rest)) : Rn w Z EL own nm bytes ml ret R hS ws Q os cells slots h pc Ls (.double y :: .double x :: rest) :=
  k.pure fun p l e s m args below meth c T locs hx hby X hZ hown eT t r => by subst hp; exact XS.dsubS X.here hx rfl (hb hby hd) rfl (hv.symm ▸ hn) hv r
theorem Rn.dmul {x y v : UInt64} (hd : decode bytes pc = .ok (.dmul, 1)) (hn : Jvm.Free.Fl.NoNaN64 v) (hv : FP.dmul x y = v) (hp : pc + 1 = pc') (k : Rn w Z EL own nm bytes ml ret R hS ws Q os cells slots h pc' Ls (.double v :: rest)) : Rn w Z EL own nm bytes ml ret R hS ws Q os cells slots h pc Ls (.double y :: .double x :: rest) :=
  k.pure fun p l e s m args below meth c T locs hx hby X hZ hown eT t r => by subst hp; exact XS.dmulS X.here hx rfl (hb hby hd) rfl (hv.symm ▸ hn) hv r
theorem Rn.ddiv {x y v : UInt64} (hd : decode bytes pc = .ok (.ddiv, 1)) (hn : Jvm.Free.Fl.NoNaN64 v) (hv : FP.ddiv x y = v) (hp : pc + 1 = pc') (k : Rn w Z EL own nm bytes ml ret R hS ws Q os cells slots h pc' Ls (.double v :: rest)) : Rn w Z EL own nm bytes ml ret R hS ws Q os cells slots h pc Ls (.double y :: .double x :: rest) :=
  k.pure fun p l e s m args below meth c T locs hx hby X hZ hown eT t r => by subst hp; exact XS.ddivS X.here hx rfl (hb hby hd) rfl (hv.symm ▸ hn) hv r
theorem Rn.dcmp {o : CmpOp} {x y : UInt64} {v : Int32} (hd : decode bytes pc = .ok (.dcmp o, 1)) (hv : cmpValue (FP.dcmp x y) o = v) (hp : pc + 1 = pc') (k : Rn w Z EL own nm bytes ml ret R hS ws Q os cells slots h pc' Ls (.int v :: rest)) : Rn w Z EL own nm bytes ml ret R hS ws Q os cells slots h pc Ls (.double y :: .double x :: rest) :=
  k.pure fun p l e s m args below meth c T locs hx hby X hZ hown eT t r => by subst hp; exact XS.dcmpS X.here hx rfl (hb hby hd) rfl hv r
theorem Rn.lcmp {x y : Int64} {v : Int32} (hd : decode bytes pc = .ok (.lcmp, 1)) (hv : XT.cmpL x y = v) (hp : pc + 1 = pc') (k : Rn w Z EL own nm bytes ml ret R hS ws Q os cells slots h pc' Ls (.int v :: rest)) : Rn w Z EL own nm bytes ml ret R hS ws Q os cells slots h pc Ls (.long y :: .long x :: rest) :=
  k.pure fun p l e s m args below meth c T locs hx hby X hZ hown eT t r => by subst hp; exact XT.lcmp X.here hx rfl (hb hby hd) rfl (hv ▸ r)
theorem Rn.pop {x : Value} (hd : decode bytes pc = .ok (.pop, 1)) (hc : x.category = 1) (hp : pc + 1 = pc') (k : Rn w Z EL own nm bytes ml ret R hS ws Q os cells slots h pc' Ls rest) : Rn w Z EL own nm bytes ml ret R hS ws Q os cells slots h pc Ls (x :: rest) :=
  k.pure fun p l e s m args below meth c T locs hx hby X hZ hown eT t r => by subst hp; exact XT.pop X.here hx rfl (hb hby hd) rfl hc r
theorem Rn.dup {x : Value} (hd : decode bytes pc = .ok (.dup, 1)) (hc : x.category = 1) (hp : pc + 1 = pc') (k : Rn w Z EL own nm bytes ml ret R hS ws Q os cells slots h pc' Ls (x :: x :: rest)) : Rn w Z EL own nm bytes ml ret R hS ws Q os cells slots h pc Ls (x :: rest) :=
  k.pure fun p l e s m args below meth c T locs hx hby X hZ hown eT t r => by subst hp; exact XS.dup X.here hx rfl (hb hby hd) rfl hc r
theorem Rn.dup_x1 {x y : Value} (hd : decode bytes pc = .ok (.dup_x1, 1)) (hc : x.category = 1) (hc' : y.category = 1) (hp : pc + 1 = pc') (k : Rn w Z EL own nm bytes ml ret R hS ws Q os cells slots h pc' Ls (x :: y :: x :: rest)) : Rn w Z EL own nm bytes ml ret R hS ws Q os cells slots h pc Ls (x :: y :: rest) :=
  k.pure fun p l e s m args below meth c T locs hx hby X hZ hown eT t r => by subst hp; exact XT.dupX1 X.here hx rfl (hb hby hd) rfl hc hc' r
theorem Rn.dup2 {x y : Value} (hd : decode bytes pc = .ok (.dup2, 1)) (hc : x.category = 1) (hc' : y.category = 1) (hp : pc + 1 = pc') (k : Rn w Z EL own nm bytes ml ret R hS ws Q os cells slots h pc' Ls (x :: y :: x :: y :: rest)) : Rn w Z EL own nm bytes ml ret R hS ws Q os cells slots h pc Ls (x :: y :: rest) :=
  k.pure fun p l e s m args below meth c T locs hx hby X hZ hown eT t r => by subst hp; exact XT.dup2 X.here hx rfl (hb hby hd) rfl hc hc' r
theorem Rn.goto {o : Int} (hd : decode bytes pc = .ok (.goto o, 3)) (ho : 0 ≤ (pc : Int) + o) (hp : ((pc : Int) + o).toNat = pc') (k : Rn w Z EL own nm bytes ml ret R hS ws Q os cells slots h pc' Ls rest) : Rn w Z EL own nm bytes ml ret R hS ws Q os cells slots h pc Ls rest :=
  k.pure fun p l e s m args below meth c T locs hx hby X hZ hown eT t r => XS.goto X.here hx rfl rfl (hb hby hd) ho hp r
theorem Rn.icmp_eq {x y : Int32} {o : Int} {pn : Nat} (hd : decode bytes pc = .ok (.if_icmp .eq o, 3)) (ho : 0 ≤ (pc : Int) + o) (hp : ((pc : Int) + o).toNat = pc') (hn : pc + 3 = pn) (ky : x = y → Rn w Z EL own nm bytes ml ret R hS ws Q os cells slots h pc' Ls rest) (kn : ¬ x = y → Rn w Z EL own nm bytes ml ret R hS ws Q os cells slots h pn Ls rest) : Rn w Z EL own nm bytes ml ret R hS ws Q os cells slots h pc Ls (.int y :: .int x :: rest) := by
  by_cases q : x = y
  · exact (ky q).pure fun p l e s m args below meth c T locs hx hby X hZ hown eT t r => XS.icmpYes X.here hx rfl rfl (hb hby hd) rfl (teq q).1 ho hp r
  · exact (kn q).pure fun p l e s m args below meth c T locs hx hby X hZ hown eT t r => by subst hn; exact XS.icmpNo X.here hx rfl (hb hby hd) rfl (feq q).1 r
theorem Rn.if_eq {x : Int32} {o : Int} {pn : Nat} (hd : decode bytes pc = .ok (.ifCond .eq o, 3)) (ho : 0 ≤ (pc : Int) + o) (hp : ((pc : Int) + o).toNat = pc') (hn : pc + 3 = pn) (ky : x = 0 → Rn w Z EL own nm bytes ml ret R hS ws Q os cells slots h pc' Ls rest) (kn : ¬ x = 0 → Rn w Z EL own nm bytes ml ret R hS ws Q os cells slots h pn Ls rest) : Rn w Z EL own nm bytes ml ret R hS ws Q os cells slots h pc Ls (.int x :: rest) := by
  by_cases q : x = 0
  · exact (ky q).pure fun p l e s m args below meth c T locs hx hby X hZ hown eT t r => XS.ifYes X.here hx rfl rfl (hb hby hd) rfl (by rw [if0]; exact (teq q).1) ho hp r
  · exact (kn q).pure fun p l e s m args below meth c T locs hx hby X hZ hown eT t r => by subst hn; exact XS.ifNo X.here hx rfl (hb hby hd) rfl (by rw [if0]; exact (feq q).1) r
theorem Rn.icmp_ne {x y : Int32} {o : Int} {pn : Nat} (hd : decode bytes pc = .ok (.if_icmp .ne o, 3)) (ho : 0 ≤ (pc : Int) + o) (hp : ((pc : Int) + o).toNat = pc') (hn : pc + 3 = pn) (ky : ¬ x = y → Rn w Z EL own nm bytes ml ret R hS ws Q os cells slots h pc' Ls rest) (kn : x = y → Rn w Z EL own nm bytes ml ret R hS ws Q os cells slots h pn Ls rest) : Rn w Z EL own nm bytes ml ret R hS ws Q os cells slots h pc Ls (.int y :: .int x :: rest) := by
  by_cases q : x = y
  · exact (kn q).pure fun p l e s m args below meth c T locs hx hby X hZ hown eT t r => by subst hn; exact XS.icmpNo X.here hx rfl (hb hby hd) rfl (teq q).2 r
  · exact (ky q).pure fun p l e s m args below meth c T locs hx hby X hZ hown eT t r => XS.icmpYes X.here hx rfl rfl (hb hby hd) rfl (feq q).2 ho hp r
theorem Rn.if_ne {x : Int32} {o : Int} {pn : Nat} (hd : decode bytes pc = .ok (.ifCond .ne o, 3)) (ho : 0 ≤ (pc : Int) + o) (hp : ((pc : Int) + o).toNat = pc') (hn : pc + 3 = pn) (ky : ¬ x = 0 → Rn w Z EL own nm bytes ml ret R hS ws Q os cells slots h pc' Ls rest) (kn : x = 0 → Rn w Z EL own nm bytes ml ret R hS ws Q os cells slots h pn Ls rest) : Rn w Z EL own nm bytes ml ret R hS ws Q os cells slots h pc Ls (.int x :: rest) := by
  by_cases q : x = 0
  · exact (kn q).pure fun p l e s m args below meth c T locs hx hby X hZ hown eT t r => by subst hn; exact XS.ifNo X.here hx rfl (hb hby hd) rfl (by rw [if0]; exact (teq q).2) r
  · exact (ky q).pure fun p l e s m args below meth c T locs hx hby X hZ hown eT t r => XS.ifYes X.here hx rfl rfl (hb hby hd) rfl (by rw [if0]; exact (feq q).2) ho hp r
theorem Rn.icmp_lt {x y : Int32} {o : Int} {pn : Nat} (hd : decode bytes pc = .ok (.if_icmp .lt o, 3)) (ho : 0 ≤ (pc : Int) + o) (hp : ((pc : Int) + o).toNat = pc') (hn : pc + 3 = pn) (ky : x < y → Rn w Z EL own nm bytes ml ret R hS ws Q os cells slots h pc' Ls rest) (kn : ¬ x < y → Rn w Z EL own nm bytes ml ret R hS ws Q os cells slots h pn Ls rest) : Rn w Z EL own nm bytes ml ret R hS ws Q os cells slots h pc Ls (.int y :: .int x :: rest) := by
  by_cases q : x < y
  · exact (ky q).pure fun p l e s m args below meth c T locs hx hby X hZ hown eT t r => XS.icmpYes X.here hx rfl rfl (hb hby hd) rfl (tlt q).1 ho hp r
  · exact (kn q).pure fun p l e s m args below meth c T locs hx hby X hZ hown eT t r => by subst hn; exact XS.icmpNo X.here hx rfl (hb hby hd) rfl (flt q).1 r
theorem Rn.if_lt {x : Int32} {o : Int} {pn : Nat} (hd : decode bytes pc = .ok (.ifCond .lt o, 3)) (ho : 0 ≤ (pc : Int) + o) (hp : ((pc : Int) + o).toNat = pc') (hn : pc + 3 = pn) (ky : x < 0 → Rn w Z EL own nm bytes ml ret R hS ws Q os cells slots h pc' Ls rest) (kn : ¬ x < 0 → Rn w Z EL own nm bytes ml ret R hS ws Q os cells slots h pn Ls rest) : Rn w Z EL own nm bytes ml ret R hS ws Q os cells slots h pc Ls (.int x :: rest) := by
  by_cases q : x < 0
  · exact (ky q).pure fun p l e s m args below meth c T locs hx hby X hZ hown eT t r => XS.ifYes X.here hx rfl rfl (hb hby hd) rfl (by rw [if0]; exact (tlt q).1) ho hp r
  · exact (kn q).pure fun p l e s m args below meth c T locs hx hby X hZ hown eT t r => by subst hn; exact XS.ifNo X.here hx rfl (hb hby hd) rfl (by rw [if0]; exact (flt q).1) r
theorem Rn.icmp_ge {x y : Int32} {o : Int} {pn : Nat} (hd : decode bytes pc = .ok (.if_icmp .ge o, 3)) (ho : 0 ≤ (pc : Int) + o) (hp : ((pc : Int) + o).toNat = pc') (hn : pc + 3 = pn) (ky : ¬ x < y → Rn w Z EL own nm bytes ml ret R hS ws Q os cells slots h pc' Ls rest) (kn : x < y → Rn w Z EL own nm bytes ml ret R hS ws Q os cells slots h pn Ls rest) : Rn w Z EL own nm bytes ml ret R hS ws Q os cells slots h pc Ls (.int y :: .int x :: rest) := by
  by_cases q : x < y
  · exact (kn q).pure fun p l e s m args below meth c T locs hx hby X hZ hown eT t r => by subst hn; exact XS.icmpNo X.here hx rfl (hb hby hd) rfl (tlt q).2.1 r
  · exact (ky q).pure fun p l e s m args below meth c T locs hx hby X hZ hown eT t r => XS.icmpYes X.here hx rfl rfl (hb hby hd) rfl (flt q).2.1 ho hp r
theorem Rn.if_ge {x : Int32} {o : Int} {pn : Nat} (hd : decode bytes pc = .ok (.ifCond .ge o, 3)) (ho : 0 ≤ (pc : Int) + o) (hp : ((pc : Int) + o).toNat = pc') (hn : pc + 3 = pn) (ky : ¬ x < 0 → Rn w Z EL own nm bytes ml ret R hS ws Q os cells slots h pc' Ls rest) (kn : x < 0 → Rn w Z EL own nm bytes ml ret R hS ws Q os cells slots h pn Ls rest) : Rn w Z EL own nm bytes ml ret R hS ws Q os cells slots h pc Ls (.int x :: rest) := by
  by_cases q : x < 0
  · exact (kn q).pure fun p l e s m args below meth c T locs hx hby X hZ hown eT t r => by subst hn; exact XS.ifNo X.here hx rfl (hb hby hd) rfl (by rw [if0]; exact (tlt q).2.1) r
  · exact (ky q).pure fun p l e s m args below meth c T locs hx hby X hZ hown eT t r => XS.ifYes X.here hx rfl rfl (hb hby hd) rfl (by rw [if0]; exact (flt q).2.1) ho hp r
theorem Rn.icmp_gt {x y : Int32} {o : Int} {pn : Nat} (hd : decode bytes pc = .ok (.if_icmp .gt o, 3)) (ho : 0 ≤ (pc : Int) + o) (hp : ((pc : Int) + o).toNat = pc') (hn : pc + 3 = pn) (ky : y < x → Rn w Z EL own nm bytes ml ret R hS ws Q os cells slots h pc' Ls rest) (kn : ¬ y < x → Rn w Z EL own nm bytes ml ret R hS ws Q os cells slots h pn Ls rest) : Rn w Z EL own nm bytes ml ret R hS ws Q os cells slots h pc Ls (.int y :: .int x :: rest) := by
  by_cases q : y < x
  · exact (ky q).pure fun p l e s m args below meth c T locs hx hby X hZ hown eT t r => XS.icmpYes X.here hx rfl rfl (hb hby hd) rfl (tlt q).2.2.1 ho hp r
  · exact (kn q).pure fun p l e s m args below meth c T locs hx hby X hZ hown eT t r => by subst hn; exact XS.icmpNo X.here hx rfl (hb hby hd) rfl (flt q).2.2.1 r
theorem Rn.if_gt {x : Int32} {o : Int} {pn : Nat} (hd : decode bytes pc = .ok (.ifCond .gt o, 3)) (ho : 0 ≤ (pc : Int) + o) (hp : ((pc : Int) + o).toNat = pc') (hn : pc + 3 = pn) (ky : 0 < x → Rn w Z EL own nm bytes ml ret R hS ws Q os cells slots h pc' Ls rest) (kn : ¬ 0 < x → Rn w Z EL own nm bytes ml ret R hS ws Q os cells slots h pn Ls rest) : Rn w Z EL own nm bytes ml ret R hS ws Q os cells slots h pc Ls (.int x :: rest) := by
  by_cases q : 0 < x
  · exact (ky q).pure fun p l e s m args below meth c T locs hx hby X hZ hown eT t r => XS.ifYes X.here hx rfl rfl (hb hby hd) rfl (by rw [if0]; exact (tlt q).2.2.1) ho hp r
  · exact (kn q).pure fun p l e s m args below meth c T locs hx hby X hZ hown eT t r => by subst hn; exact XS.ifNo X.here hx rfl (hb hby hd) rfl (by rw [if0]; exact (flt q).2.2.1) r
theorem Rn.icmp_le {x y : Int32} {o : Int} {pn : Nat} (hd : decode bytes pc = .ok (.if_icmp .le o, 3)) (ho : 0 ≤ (pc : Int) + o) (hp : ((pc : Int) + o).toNat = pc') (hn : pc + 3 = pn) (ky : ¬ y < x → Rn w Z EL own nm bytes ml ret R hS ws Q os cells slots h pc' Ls rest) (kn : y < x → Rn w Z EL own nm bytes ml ret R hS ws Q os cells slots h pn Ls rest) : Rn w Z EL own nm bytes ml ret R hS ws Q os cells slots h pc Ls (.int y :: .int x :: rest) := by
  by_cases q : y < x
  · exact (kn q).pure fun p l e s m args below meth c T locs hx hby X hZ hown eT t r => by subst hn; exact XS.icmpNo X.here hx rfl (hb hby hd) rfl (tlt q).2.2.2 r
  · exact (ky q).pure fun p l e s m args below meth c T locs hx hby X hZ hown eT t r => XS.icmpYes X.here hx rfl rfl (hb hby hd) rfl (flt q).2.2.2 ho hp r
theorem Rn.if_le {x : Int32} {o : Int} {pn : Nat} (hd : decode bytes pc = .ok (.ifCond .le o, 3)) (ho : 0 ≤ (pc : Int) + o) (hp : ((pc : Int) + o).toNat = pc') (hn : pc + 3 = pn) (ky : ¬ 0 < x → Rn w Z EL own nm bytes ml ret R hS ws Q os cells slots h pc' Ls rest) (kn : 0 < x → Rn w Z EL own nm bytes ml ret R hS ws Q os cells slots h pn Ls rest) : Rn w Z EL own nm bytes ml ret R hS ws Q os cells slots h pc Ls (.int x :: rest) := by
  by_cases q : 0 < x
  · exact (kn q).pure fun p l e s m args below meth c T locs hx hby X hZ hown eT t r => by subst hn; exact XS.ifNo X.here hx rfl (hb hby hd) rfl (by rw [if0]; exact (tlt q).2.2.2) r
  · exact (ky q).pure fun p l e s m args below meth c T locs hx hby X hZ hown eT t r => XS.ifYes X.here hx rfl rfl (hb hby hd) rfl (by rw [if0]; exact (flt q).2.2.2) ho hp r
theorem Rn.ifnull_y {o : Int} (hd : decode bytes pc = .ok (.ifnull o, 3)) (ho : 0 ≤ (pc : Int) + o) (hp : ((pc : Int) + o).toNat = pc') (k : Rn w Z EL own nm bytes ml ret R hS ws Q os cells slots h pc' Ls rest) : Rn w Z EL own nm bytes ml ret R hS ws Q os cells slots h pc Ls (.null :: rest) :=
  k.pure fun p l e s m args below meth c T locs hx hby X hZ hown eT t r => XS.ifnullYes X.here hx rfl rfl (hb hby hd) rfl ho hp r
theorem Rn.ifnull_n {o : Int} {a : Addr} (hd : decode bytes pc = .ok (.ifnull o, 3)) (hn : pc + 3 = pc') (k : Rn w Z EL own nm bytes ml ret R hS ws Q os cells slots h pc' Ls rest) : Rn w Z EL own nm bytes ml ret R hS ws Q os cells slots h pc Ls (.ref a :: rest) :=
  k.pure fun p l e s m args below meth c T locs hx hby X hZ hown eT t r => by subst hn; exact XS.ifnullNo X.here hx rfl (hb hby hd) rfl r
theorem Rn.ifnonnull_y {o : Int} {a : Addr} (hd : decode bytes pc = .ok (.ifnonnull o, 3)) (ho : 0 ≤ (pc : Int) + o) (hp : ((pc : Int) + o).toNat = pc') (k : Rn w Z EL own nm bytes ml ret R hS ws Q os cells slots h pc' Ls rest) : Rn w Z EL own nm bytes ml ret R hS ws Q os cells slots h pc Ls (.ref a :: rest) :=
  k.pure fun p l e s m args below meth c T locs hx hby X hZ hown eT t r => XT.ifnonnullYes X.here hx rfl rfl (hb hby hd) rfl ho hp r
theorem Rn.ifnonnull_n {o : Int} (hd : decode bytes pc = .ok (.ifnonnull o, 3)) (hn : pc + 3 = pc') (k : Rn w Z EL own nm bytes ml ret R hS ws Q os cells slots h pc' Ls rest) : Rn w Z EL own nm bytes ml ret R hS ws Q os cells slots h pc Ls (.null :: rest) :=
  k.pure fun p l e s m args below meth c T locs hx hby X hZ hown eT t r => by subst hn; exact XT.ifnonnullNo X.here hx rfl (hb hby hd) rfl r
theorem Rn.acmp_eq {x y : Value} {o : Int} {pn : Nat} (h1 : x.isRef = true) (h2 : y.isRef = true) (hd : decode bytes pc = .ok (.if_acmp .eq o, 3)) (ho : 0 ≤ (pc : Int) + o) (hp : ((pc : Int) + o).toNat = pc') (hn : pc + 3 = pn) (ky : x = y → Rn w Z EL own nm bytes ml ret R hS ws Q os cells slots h pc' Ls rest) (kn : ¬ x = y → Rn w Z EL own nm bytes ml ret R hS ws Q os cells slots h pn Ls rest) : Rn w Z EL own nm bytes ml ret R hS ws Q os cells slots h pc Ls (y :: x :: rest) := by
  by_cases q : x = y
  · exact (ky q).pure fun p l e s m args below meth c T locs hx hby X hZ hown eT t r => by exact acmp X hx rfl h1 h2 (same := true) rfl (hb hby hd) rfl (by simp [q]) ho (by simp [acV, hp]) r
  · exact (kn q).pure fun p l e s m args below meth c T locs hx hby X hZ hown eT t r => by exact acmp X hx rfl h1 h2 (same := false) rfl (hb hby hd) rfl (by simp [q]) ho (by simp [acV, hn]) r
theorem Rn.acmp_ne {x y : Value} {o : Int} {pn : Nat} (h1 : x.isRef = true) (h2 : y.isRef = true) (hd : decode bytes pc = .ok (.if_acmp .ne o, 3)) (ho : 0 ≤ (pc : Int) + o) (hp : ((pc : Int) + o).toNat = pc') (hn : pc + 3 = pn) (ky : ¬ x = y → Rn w Z EL own nm bytes ml ret R hS ws Q os cells slots h pc' Ls rest) (kn : x = y → Rn w Z EL own nm bytes ml ret R hS ws Q os cells slots h pn Ls rest) : Rn w Z EL own nm bytes ml ret R hS ws Q os cells slots h pc Ls (y :: x :: rest) := by
  by_cases q : x = y
  · exact (kn q).pure fun p l e s m args below meth c T locs hx hby X hZ hown eT t r => by exact acmp X hx rfl h1 h2 (same := true) rfl (hb hby hd) rfl (by simp [q]) ho (by simp [acV, hn]) r
  · exact (ky q).pure fun p l e s m args below meth c T locs hx hby X hZ hown eT t r => by exact acmp X hx rfl h1 h2 (same := false) rfl (hb hby hd) rfl (by simp [q]) ho (by simp [acV, hp]) r
theorem Rn.tsw {dflt low high : Int} {offs : Array Int} {len : Nat} {o : Int} {i : Int32} (hd : decode bytes pc = .ok (.tableswitch dflt low high offs, len)) (hin : ¬ (i.toInt < low ∨ i.toInt > high)) (hoff : offs[(i.toInt - low).toNat]? = some o) (ho : 0 ≤ (pc : Int) + o) (hp : ((pc : Int) + o).toNat = pc') (k : Rn w Z EL own nm bytes ml ret R hS ws Q os cells slots h pc' Ls rest) : Rn w Z EL own nm bytes ml ret R hS ws Q os cells slots h pc Ls (.int i :: rest) :=
  k.pure fun p l e s m args below meth c T locs hx hby X hZ hown eT t r => XS.tswIn X.here hx rfl rfl (hb hby hd) rfl hin hoff ho hp r
theorem Rn.tswD {dflt low high : Int} {offs : Array Int} {len : Nat} {i : Int32} (hd : decode bytes pc = .ok (.tableswitch dflt low high offs, len)) (hout : i.toInt < low ∨ i.toInt > high) (ho : 0 ≤ (pc : Int) + dflt) (hp : ((pc : Int) + dflt).toNat = pc') (k : Rn w Z EL own nm bytes ml ret R hS ws Q os cells slots h pc' Ls rest) : Rn w Z EL own nm bytes ml ret R hS ws Q os cells slots h pc Ls (.int i :: rest) :=
  k.pure fun p l e s m args below meth c T locs hx hby X hZ hown eT t r => XS.tswOut X.here hx rfl rfl (hb hby hd) rfl hout ho hp r
theorem Rn.ldcI {ix : Nat} {v : Int32} (wd : (Jvm.Cond.constant own ix v).before a0 Z = true) (hd : decode bytes pc = .ok (.ldc ix, 2)) (hp : pc + 2 = pc') (k : Rn w Z EL own nm bytes ml ret R hS ws Q os cells slots h pc' Ls (.int v :: rest)) : Rn w Z EL own nm bytes ml ret R hS ws Q os cells slots h pc Ls rest :=
  k.pure fun p l e s m args below meth c T locs hx hby X hZ hown eT t r => by subst hp; exact X.ldcInt hx hown (mvT hZ wd) (g := mkF m pc Ls rest) rfl (hb hby hd) t r
theorem Rn.ldcJ {ix : Nat} {v : Int64} (wd : (Jvm.Cond.constantLong own ix v).before a0 Z = true) (hd : decode bytes pc = .ok (.ldc2_w ix, 3)) (hp : pc + 3 = pc') (k : Rn w Z EL own nm bytes ml ret R hS ws Q os cells slots h pc' Ls (.long v :: rest)) : Rn w Z EL own nm bytes ml ret R hS ws Q os cells slots h pc Ls rest :=
  k.pure fun p l e s m args below meth c T locs hx hby X hZ hown eT t r => by subst hp; exact X.ldc2Long hx hown (mvT hZ wd) (g := mkF m pc Ls rest) rfl (hb hby hd) t r
theorem Rn.ldcD {ix : Nat} {v : UInt64} (wd : (Jvm.Cond.constantDouble own ix v).before a0 Z = true) (hd : decode bytes pc = .ok (.ldc2_w ix, 3)) (hp : pc + 3 = pc') (k : Rn w Z EL own nm bytes ml ret R hS ws Q os cells slots h pc' Ls (.double v :: rest)) : Rn w Z EL own nm bytes ml ret R hS ws Q os cells slots h pc Ls rest :=
  k.pure fun p l e s m args below meth c T locs hx hby X hZ hown eT t r => by subst hp; exact X.ldc2DoubleC hx hown (mvT hZ wd) (g := mkF m pc Ls rest) rfl (hb hby hd) t r
/-- an array and all that it holds -/
def Ax (Z : State) (h : Heap) (a : Addr) (ty : FieldType) (vs : List Value) : Prop := ∃ c : Cell, Arr Z h a c ty ∧ c.slots = vs.toArray ∧ vs.length < 2 ^ 31
section AxFacts
variable {a b : Addr} {ty : FieldType} {vs : List Value} {sl : Nat} {v : Value}
theorem Ax.lt (F : Ax Z h a ty vs) : a < h.size := by obtain ⟨c, A, -⟩ := F; exact A.lt
theorem Ax.ext (F : Ax Z h a ty vs) (E : Ext h h') : Ax Z h' a ty vs := by obtain ⟨c, A, r⟩ := F; exact ⟨c, A.ext E, r⟩
theorem Ax.other (F : Ax Z h b ty vs) (W : Wr h h' a sl v) (q : b ≠ a) : Ax Z h' b ty vs := by obtain ⟨c, A, r⟩ := F; exact ⟨c, A.other W q, r⟩
theorem Ax.keep {ws : List Addr} (F : Ax Z h a ty vs) (K : Keep h h' ws) (q : a ∉ ws) : Ax Z h' a ty vs := by obtain ⟨c, A, r⟩ := F; exact ⟨c, ⟨K.2.1 a c A.1 q, A.2⟩, r⟩
theorem Ax.set (F : Ax Z h a ty vs) (W : Wr h h' a sl v) : Ax Z h' a ty (vs.set sl v) := by
  obtain ⟨c, A, r, q⟩ := F
  refine ⟨_, A.same W, ?_, by simpa using q⟩
  simp [Cell.setSlot, r]
theorem Ax.new {cA : ClassId} {n : Int32} (A : Arr Z h a (newA cA ty n) ty) (q : ¬ n < 0) : Ax Z h a ty (List.replicate n.toNatClampNeg (defaultValue ty)) := by
  refine ⟨_, A, ?_, by simpa using (back32 q).2⟩
  simp [newA]
theorem Ax.sf {w : Bool} {EL : List (String × Nat)} {os : List Addr} (F : Ax Z h a ty vs) (ht : ty ≠ .byte) : Sf w Z EL os h a := by obtain ⟨c, A, -⟩ := F; exact Sf.arr A ht
theorem Ax.arv {d : Value} (F : Ax Z h a ty vs) (hf : ∀ x ∈ vs, fits ty x = true) (n : Int32) (hn : n.toNatClampNeg = vs.length) (h0 : ¬ n < 0) : ∃ k, Arv Z h a k ty n vs d := by
  obtain ⟨c, A, r, q⟩ := F
  refine ⟨c.cls, c, A, rfl, by simp [r, hn], h0, fun k hk => ?_, fun i hi => ?_⟩
  · have : k < vs.length := by simpa [r] using hk
    simp [r, this]
  · have : i < vs.length := by simpa [r] using hi
    simp only [List.getD_eq_getElem?_getD, List.getElem?_eq_getElem this, Option.getD_some]
    exact hf _ (List.getElem_mem this)
theorem Ax.ofArv {k : ClassId} {n : Int32} {d : Value} (F : Arv Z h a k ty n vs d) (hl : vs.length = n.toNatClampNeg) : Ax Z h a ty vs := by
  obtain ⟨c, A, -, S, N, H, -⟩ := F
  refine ⟨c, A, ?_, by rw [hl]; exact (back32 N).2⟩
  apply Array.ext_getElem?
  intro i
  by_cases q : i < c.slots.size
  · have q2 : i < vs.length := by rw [hl, ← S]; exact q
    rw [H i q]; simp [q2]
  · have q2 : ¬ i < vs.length := by rw [hl, ← S]; exact q
    rw [Array.getElem?_eq_none (Nat.le_of_not_lt q)]; simp [Nat.le_of_not_lt q2]
theorem Ax.at {j : Int32} (c : Cell) (r : c.slots = vs.toArray) (h0 : ¬ j < 0) (hv : vs[j.toNatClampNeg]? = some v) : ¬ (j < 0 ∨ c.slots.size ≤ j.toNatClampNeg) ∧ c.slots[j.toNatClampNeg]? = some v := by
  have q := (List.getElem?_eq_some_iff.mp hv).1
  refine ⟨fun z => z.elim h0 fun z => ?_, by simpa [r] using hv⟩
  simp [r] at z; omega
end AxFacts
theorem Rn.iaload {a : Addr} {vs : List Value} {j : Int32} {v : Value} (A : Ax Z h a .int vs) (h0 : ¬ j < 0) (hv : vs[j.toNatClampNeg]? = some v) (hd : decode bytes pc = .ok (.iaload, 1)) (hp : pc + 1 = pc') (k : Rn w Z EL own nm bytes ml ret R hS ws Q os cells slots h pc' Ls (v :: rest)) : Rn w Z EL own nm bytes ml ret R hS ws Q os cells slots h pc Ls (.int j :: .ref a :: rest) := by
  obtain ⟨cl, Ar, r1, -⟩ := A
  obtain ⟨q1, q2⟩ := Ax.at cl r1 h0 hv
  exact k.pure fun p l e s m args below meth c T locs hx hby X hZ hown eT t r => by subst hp; exact X.iaload hx (j := j) (v := v) (by rw [eT]; exact Ar.1) (State.isArrayOf_alike hZ.alike Ar.2.1) Ar.2.2 q1 q2 (g := mkF m pc Ls (.int j :: .ref a :: rest)) rfl rfl (hb hby hd) t r
theorem Rn.caload {a : Addr} {vs : List Value} {j : Int32} {v : Value} (A : Ax Z h a .char vs) (h0 : ¬ j < 0) (hv : vs[j.toNatClampNeg]? = some v) (hd : decode bytes pc = .ok (.caload, 1)) (hp : pc + 1 = pc') (k : Rn w Z EL own nm bytes ml ret R hS ws Q os cells slots h pc' Ls (v :: rest)) : Rn w Z EL own nm bytes ml ret R hS ws Q os cells slots h pc Ls (.int j :: .ref a :: rest) := by
  obtain ⟨cl, Ar, r1, -⟩ := A
  obtain ⟨q1, q2⟩ := Ax.at cl r1 h0 hv
  exact k.pure fun p l e s m args below meth c T locs hx hby X hZ hown eT t r => by subst hp; exact X.caload hx (j := j) (v := v) (by rw [eT]; exact Ar.1) (State.isArrayOf_alike hZ.alike Ar.2.1) Ar.2.2 q1 q2 (g := mkF m pc Ls (.int j :: .ref a :: rest)) rfl rfl (hb hby hd) t r
theorem Rn.laload {a : Addr} {vs : List Value} {j : Int32} {v : Value} (A : Ax Z h a .long vs) (h0 : ¬ j < 0) (hv : vs[j.toNatClampNeg]? = some v) (hd : decode bytes pc = .ok (.laload, 1)) (hp : pc + 1 = pc') (k : Rn w Z EL own nm bytes ml ret R hS ws Q os cells slots h pc' Ls (v :: rest)) : Rn w Z EL own nm bytes ml ret R hS ws Q os cells slots h pc Ls (.int j :: .ref a :: rest) := by
  obtain ⟨cl, Ar, r1, -⟩ := A
  obtain ⟨q1, q2⟩ := Ax.at cl r1 h0 hv
  exact k.pure fun p l e s m args below meth c T locs hx hby X hZ hown eT t r => by subst hp; exact X.laload hx (j := j) (v := v) (by rw [eT]; exact Ar.1) (State.isArrayOf_alike hZ.alike Ar.2.1) Ar.2.2 q1 q2 (g := mkF m pc Ls (.int j :: .ref a :: rest)) rfl rfl (hb hby hd) t r
theorem Rn.baload {a : Addr} {vs : List Value} {j : Int32} {v : Value} (A : Ax Z h a .byte vs) (h0 : ¬ j < 0) (hv : vs[j.toNatClampNeg]? = some v) (hd : decode bytes pc = .ok (.baload, 1)) (hp : pc + 1 = pc') (k : Rn w Z EL own nm bytes ml ret R hS ws Q os cells slots h pc' Ls (v :: rest)) : Rn w Z EL own nm bytes ml ret R hS ws Q os cells slots h pc Ls (.int j :: .ref a :: rest) := by
  obtain ⟨cl, Ar, r1, -⟩ := A
  obtain ⟨q1, q2⟩ := Ax.at cl r1 h0 hv
  exact k.pure fun p l e s m args below meth c T locs hx hby X hZ hown eT t r => by subst hp; exact X.baloadBytes hx (j := j) (v := v) (by rw [eT]; exact Ar.1) (State.isArrayOf_alike hZ.alike Ar.2.1) Ar.2.2 q1 q2 (g := mkF m pc Ls (.int j :: .ref a :: rest)) rfl rfl (hb hby hd) t r
theorem Rn.daload {a : Addr} {vs : List Value} {j : Int32} {v : Value} (A : Ax Z h a .double vs) (h0 : ¬ j < 0) (hv : vs[j.toNatClampNeg]? = some v) (hd : decode bytes pc = .ok (.daload, 1)) (hp : pc + 1 = pc') (k : Rn w Z EL own nm bytes ml ret R hS ws Q os cells slots h pc' Ls (v :: rest)) : Rn w Z EL own nm bytes ml ret R hS ws Q os cells slots h pc Ls (.int j :: .ref a :: rest) := by
  obtain ⟨cl, Ar, r1, -⟩ := A
  obtain ⟨q1, q2⟩ := Ax.at cl r1 h0 hv
  exact k.pure fun p l e s m args below meth c T locs hx hby X hZ hown eT t r => by subst hp; exact X.daload hx (j := j) (v := v) (by rw [eT]; exact Ar.1) (State.isArrayOf_alike hZ.alike Ar.2.1) Ar.2.2 q1 q2 (g := mkF m pc Ls (.int j :: .ref a :: rest)) rfl rfl (hb hby hd) t r
theorem Rn.saload {a : Addr} {vs : List Value} {j : Int32} {v : Value} (A : Ax Z h a .short vs) (h0 : ¬ j < 0) (hv : vs[j.toNatClampNeg]? = some v) (hd : decode bytes pc = .ok (.saload, 1)) (hp : pc + 1 = pc') (k : Rn w Z EL own nm bytes ml ret R hS ws Q os cells slots h pc' Ls (v :: rest)) : Rn w Z EL own nm bytes ml ret R hS ws Q os cells slots h pc Ls (.int j :: .ref a :: rest) := by
  obtain ⟨cl, Ar, r1, -⟩ := A
  obtain ⟨q1, q2⟩ := Ax.at cl r1 h0 hv
  exact k.pure fun p l e s m args below meth c T locs hx hby X hZ hown eT t r => by subst hp; exact X.saload hx (j := j) (v := v) (by rw [eT]; exact Ar.1) (State.isArrayOf_alike hZ.alike Ar.2.1) Ar.2.2 q1 q2 (g := mkF m pc Ls (.int j :: .ref a :: rest)) rfl rfl (hb hby hd) t r
theorem Rn.aaload {a : Addr} {ty : FieldType} {vs : List Value} {j : Int32} {v : Value} (A : Ax Z h a ty vs) (ht : ty.isReference = true) (h0 : ¬ j < 0) (hv : vs[j.toNatClampNeg]? = some v) (hd : decode bytes pc = .ok (.aaload, 1)) (hp : pc + 1 = pc') (k : Rn w Z EL own nm bytes ml ret R hS ws Q os cells slots h pc' Ls (v :: rest)) : Rn w Z EL own nm bytes ml ret R hS ws Q os cells slots h pc Ls (.int j :: .ref a :: rest) := by
  obtain ⟨cl, Ar, r1, -⟩ := A
  obtain ⟨q1, q2⟩ := Ax.at cl r1 h0 hv
  exact k.pure fun p l e s m args below meth c T locs hx hby X hZ hown eT t r => by subst hp; exact X.aaload hx (j := j) (v := v) (by rw [eT]; exact Ar.1) (State.isArrayOf_alike hZ.alike Ar.2.1) ht Ar.2.2 q1 q2 (g := mkF m pc Ls (.int j :: .ref a :: rest)) rfl rfl (hb hby hd) t r
theorem Rn.arraylength {a : Addr} {ty : FieldType} {vs : List Value} {n : Int32} (A : Ax Z h a ty vs) (hn : vs.length.toInt32 = n) (hd : decode bytes pc = .ok (.arraylength, 1)) (hp : pc + 1 = pc') (k : Rn w Z EL own nm bytes ml ret R hS ws Q os cells slots h pc' Ls (.int n :: rest)) : Rn w Z EL own nm bytes ml ret R hS ws Q os cells slots h pc Ls (.ref a :: rest) := by
  obtain ⟨cl, Ar, r1, -⟩ := A
  have e1 : cl.slots.size.toInt32 = n := by rw [r1, ← hn]; simp
  exact k.pure fun p l e s m args below meth c T locs hx hby X hZ hown eT t r => by subst hp; exact X.arraylength hx (by rw [eT]; exact Ar.1) (State.isArrayOf_alike hZ.alike Ar.2.1) (g := mkF m pc Ls (.ref a :: rest)) rfl rfl (hb hby hd) t (by rw [e1]; exact r)
theorem Rn.iastore {a : Addr} {vs : List Value} {j : Int32} {x : Int32} {v : Value} (A : Ax Z h a .int vs) (h0 : ¬ j < 0) (hi : j.toNatClampNeg < vs.length) (hv : (.int x : Value) = v) (q : a ∈ ws ∨ hS.size ≤ a) (sf : Sf w Z EL os h a) (hd : decode bytes pc = .ok (.iastore, 1)) (hp : pc + 1 = pc') (k : ∀ h', Wr h h' a j.toNatClampNeg v → Ax Z h' a .int (vs.set j.toNatClampNeg v) → Rn w Z EL own nm bytes ml ret R hS ws Q os cells slots h' pc' Ls rest) : Rn w Z EL own nm bytes ml ret R hS ws Q os cells slots h pc Ls (.int x :: .int j :: .ref a :: rest) := by
  obtain ⟨cl, Ar, r1, -⟩ := id A
  have q1 : ¬ (j < 0 ∨ cl.slots.size ≤ j.toNatClampNeg) := fun z => z.elim h0 fun z => by simp [r1] at z; omega
  subst hv
  exact Rn.wrote q sf (fun h' W => k h' W (A.set W)) fun p l e s m args below meth c T locs hx hby hnm X hZ hown eT => by subst hp; exact stI X hx hZ eT Ar q1 (g := mkF m pc Ls (.int x :: .int j :: .ref a :: rest)) rfl rfl (hb hby hd)
theorem Rn.lastore {a : Addr} {vs : List Value} {j : Int32} {x : Int64} {v : Value} (A : Ax Z h a .long vs) (h0 : ¬ j < 0) (hi : j.toNatClampNeg < vs.length) (hv : (.long x : Value) = v) (q : a ∈ ws ∨ hS.size ≤ a) (sf : Sf w Z EL os h a) (hd : decode bytes pc = .ok (.lastore, 1)) (hp : pc + 1 = pc') (k : ∀ h', Wr h h' a j.toNatClampNeg v → Ax Z h' a .long (vs.set j.toNatClampNeg v) → Rn w Z EL own nm bytes ml ret R hS ws Q os cells slots h' pc' Ls rest) : Rn w Z EL own nm bytes ml ret R hS ws Q os cells slots h pc Ls (.long x :: .int j :: .ref a :: rest) := by
  obtain ⟨cl, Ar, r1, -⟩ := id A
  have q1 : ¬ (j < 0 ∨ cl.slots.size ≤ j.toNatClampNeg) := fun z => z.elim h0 fun z => by simp [r1] at z; omega
  subst hv
  exact Rn.wrote q sf (fun h' W => k h' W (A.set W)) fun p l e s m args below meth c T locs hx hby hnm X hZ hown eT => by subst hp; exact stJ X hx hZ eT Ar q1 (g := mkF m pc Ls (.long x :: .int j :: .ref a :: rest)) rfl rfl (hb hby hd)
theorem Rn.dastore {a : Addr} {vs : List Value} {j : Int32} {x : UInt64} {v : Value} (A : Ax Z h a .double vs) (h0 : ¬ j < 0) (hi : j.toNatClampNeg < vs.length) (hv : (.double x : Value) = v) (q : a ∈ ws ∨ hS.size ≤ a) (sf : Sf w Z EL os h a) (hd : decode bytes pc = .ok (.dastore, 1)) (hp : pc + 1 = pc') (k : ∀ h', Wr h h' a j.toNatClampNeg v → Ax Z h' a .double (vs.set j.toNatClampNeg v) → Rn w Z EL own nm bytes ml ret R hS ws Q os cells slots h' pc' Ls rest) : Rn w Z EL own nm bytes ml ret R hS ws Q os cells slots h pc Ls (.double x :: .int j :: .ref a :: rest) := by
  obtain ⟨cl, Ar, r1, -⟩ := id A
  have q1 : ¬ (j < 0 ∨ cl.slots.size ≤ j.toNatClampNeg) := fun z => z.elim h0 fun z => by simp [r1] at z; omega
  subst hv
  exact Rn.wrote q sf (fun h' W => k h' W (A.set W)) fun p l e s m args below meth c T locs hx hby hnm X hZ hown eT => by subst hp; exact stD X hx hZ eT Ar q1 (g := mkF m pc Ls (.double x :: .int j :: .ref a :: rest)) rfl rfl (hb hby hd)
theorem Rn.castore {a : Addr} {vs : List Value} {j : Int32} {x : Int32} {v : Value} (A : Ax Z h a .char vs) (h0 : ¬ j < 0) (hi : j.toNatClampNeg < vs.length) (hv : (.int (nar .char x) : Value) = v) (q : a ∈ ws ∨ hS.size ≤ a) (sf : Sf w Z EL os h a) (hd : decode bytes pc = .ok (.castore, 1)) (hp : pc + 1 = pc') (k : ∀ h', Wr h h' a j.toNatClampNeg v → Ax Z h' a .char (vs.set j.toNatClampNeg v) → Rn w Z EL own nm bytes ml ret R hS ws Q os cells slots h' pc' Ls rest) : Rn w Z EL own nm bytes ml ret R hS ws Q os cells slots h pc Ls (.int x :: .int j :: .ref a :: rest) := by
  obtain ⟨cl, Ar, r1, -⟩ := id A
  have q1 : ¬ (j < 0 ∨ cl.slots.size ≤ j.toNatClampNeg) := fun z => z.elim h0 fun z => by simp [r1] at z; omega
  subst hv
  exact Rn.wrote q sf (fun h' W => k h' W (A.set W)) fun p l e s m args below meth c T locs hx hby hnm X hZ hown eT => by subst hp; exact stC X hx hZ eT Ar q1 (g := mkF m pc Ls (.int x :: .int j :: .ref a :: rest)) rfl rfl (hb hby hd)
theorem Rn.bastore {a : Addr} {vs : List Value} {j : Int32} {x : Int32} {v : Value} (A : Ax Z h a .byte vs) (h0 : ¬ j < 0) (hi : j.toNatClampNeg < vs.length) (hv : (.int (nar .byte x) : Value) = v) (q : a ∈ ws ∨ hS.size ≤ a) (sf : Sf w Z EL os h a) (hd : decode bytes pc = .ok (.bastore, 1)) (hp : pc + 1 = pc') (k : ∀ h', Wr h h' a j.toNatClampNeg v → Ax Z h' a .byte (vs.set j.toNatClampNeg v) → Rn w Z EL own nm bytes ml ret R hS ws Q os cells slots h' pc' Ls rest) : Rn w Z EL own nm bytes ml ret R hS ws Q os cells slots h pc Ls (.int x :: .int j :: .ref a :: rest) := by
  obtain ⟨cl, Ar, r1, -⟩ := id A
  have q1 : ¬ (j < 0 ∨ cl.slots.size ≤ j.toNatClampNeg) := fun z => z.elim h0 fun z => by simp [r1] at z; omega
  subst hv
  exact Rn.wrote q sf (fun h' W => k h' W (A.set W)) fun p l e s m args below meth c T locs hx hby hnm X hZ hown eT => by subst hp; exact stB X hx hZ eT Ar q1 (g := mkF m pc Ls (.int x :: .int j :: .ref a :: rest)) rfl rfl (hb hby hd)
theorem Rn.aastore {a : Addr} {ty : FieldType} {vs : List Value} {j : Int32} {v : Value} (A : Ax Z h a ty vs) (ht : ty.isReference = true) (F : Sto Z h a v) (h0 : ¬ j < 0) (hi : j.toNatClampNeg < vs.length) (hv : v.isRef = true) (q : a ∈ ws ∨ hS.size ≤ a) (sf : Sf w Z EL os h a) (hd : decode bytes pc = .ok (.aastore, 1)) (hp : pc + 1 = pc') (k : ∀ h', Wr h h' a j.toNatClampNeg v → Ax Z h' a ty (vs.set j.toNatClampNeg v) → Rn w Z EL own nm bytes ml ret R hS ws Q os cells slots h' pc' Ls rest) : Rn w Z EL own nm bytes ml ret R hS ws Q os cells slots h pc Ls (v :: .int j :: .ref a :: rest) := by
  obtain ⟨cl, Ar, r1, -⟩ := id A
  have q1 : ¬ (j < 0 ∨ cl.slots.size ≤ j.toNatClampNeg) := fun z => z.elim h0 fun z => by simp [r1] at z; omega
  exact Rn.wrote q sf (fun h' W => k h' W (A.set W)) fun p l e s m args below meth c T locs hx hby hnm X hZ hown eT => by subst hp; exact stR X hx hZ eT Ar q1 ht F (g := mkF m pc Ls (v :: .int j :: .ref a :: rest)) rfl rfl (hb hby hd)
end Steps
section Objs
variable {w : Bool} {Z : State} {EL : List (String × Nat)} {own nm : String} {bytes : ByteArray} {ml : Nat} {ret : Option FieldType} {R : Room} {hS : Heap} {ws : List Addr} {Q : Option Value → Heap → Prop} {os : List Addr} {cells slots : Nat} {h h' : Heap} {pc pc' : Nat} {Ls Ls' : Array Slot} {rest : List Value} {a0 : Array Value}
theorem Rn.getF {ix : Nat} {R0 O n d host : String} {a : Addr} {v : Value} (wd : (Jvm.Cond.fieldLink own ix R0 n d).before a0 Z = true ∨ (Jvm.Cond.fieldLinkNest own ix R0 n d host).before a0 Z = true) (via : Via Z R0 O n d) (F : Fld Z h a O n d v) (hd : decode bytes pc = .ok (.getfield ix, 3)) (hp : pc + 3 = pc') (k : Rn w Z EL own nm bytes ml ret R hS ws Q os cells slots h pc' Ls (v :: rest)) : Rn w Z EL own nm bytes ml ret R hS ws Q os cells slots h pc Ls (.ref a :: rest) :=
  k.note fun p l e s m args below meth c T locs hx hby hml X hZ hown eT => by subst hp; exact Jvm.RoadKit.getF X hx hZ hown wd via eT F (g := mkF m pc Ls (.ref a :: rest)) rfl rfl (hb hby hd)
theorem Rn.getS {ix : Nat} {R0 O n d : String} {v : Value} (wd : (Jvm.Cond.fieldLink own ix R0 n d).before a0 Z = true) (via : Via Z R0 O n d) (F : Sta Z h O n d v) (hd : decode bytes pc = .ok (.getstatic ix, 3)) (hp : pc + 3 = pc') (k : Rn w Z EL own nm bytes ml ret R hS ws Q os cells slots h pc' Ls (v :: rest)) : Rn w Z EL own nm bytes ml ret R hS ws Q os cells slots h pc Ls rest :=
  k.note fun p l e s m args below meth c T locs hx hby hml X hZ hown eT => by subst hp; exact Jvm.RoadKit.getS X hx hZ hown (host := "") wd via eT F (g := mkF m pc Ls rest) rfl (hb hby hd)
theorem Rn.putF {ix kk : Nat} {R0 O n d C : String} {ty : FieldType} {a : Addr} {v old : Value} (wd : (Jvm.Cond.fieldLink own ix R0 n d).before a0 Z = true) (via : Via Z R0 O n d) (F : Fld Z h a O n d old) (E : Exa Z h a C) (L : (Jvm.Cond.lays C O n d).before a0 Z = true ∨ ((Jvm.Cond.laysFinal C O n d).before a0 Z = true ∧ own = O ∧ nm = "<init>")) (wi : (Jvm.Cond.instantiable C kk).before a0 Z = true)
    (hty : parseFieldDescriptor d = some ty) (hn : narrow ty v = v) (hf : fits ty v = true) (q : a ∈ ws ∨ hS.size ≤ a) (sf : Sf w Z EL os h a) (hd : decode bytes pc = .ok (.putfield ix, 3)) (hp : pc + 3 = pc') (k : ∀ h', Wr h h' a (Jvm.RoadKit.slotOf Z O n d) v → Rn w Z EL own nm bytes ml ret R hS ws Q os cells slots h' pc' Ls rest) : Rn w Z EL own nm bytes ml ret R hS ws Q os cells slots h pc Ls (v :: .ref a :: rest) :=
  Rn.wrote q sf k fun p l e s m args below meth c T locs hx hby hnm X hZ hown eT => by
    subst hp
    exact Jvm.RoadKit.putF X hx hZ hown (host := "") (Or.inl wd) via eT F E (L.imp id fun z => ⟨z.1, z.2.1, hnm.trans z.2.2⟩) wi hty hn hf (g := mkF m pc Ls (v :: .ref a :: rest)) rfl rfl (hb hby hd)
theorem Rn.newO {ix n : Nat} {C : String} (w1 : (Jvm.Cond.classLink own ix C).before a0 Z = true) (w2 : (Jvm.Cond.instantiable C n).before a0 Z = true) (w3 : (Jvm.Cond.initialized C).before a0 Z = true) (hd : decode bytes pc = .ok (.new ix, 3)) (hc : cells + 1 ≤ R.cells) (hs : slots + n ≤ R.slots) (hp : pc + 3 = pc')
    (k : ∀ h' a, a = h.size → hS.size ≤ a → Ext h h' → (Exa Z h' a C ∧ (∀ {O nm d : String} {ty : FieldType}, Laid Z a0 C O nm d → parseFieldDescriptor d = some ty → Fld Z h' a O nm d (defaultValue ty)) ∧ (∃ cell : Cell, h'[a]? = some cell ∧ cell.vm = .none ∧ cell.monitor = {})) → Rn w Z EL own nm bytes ml ret R hS ws Q (a :: os) (cells + 1) (slots + n) h' pc' Ls (.ref a :: rest)) : Rn w Z EL own nm bytes ml ret R hS ws Q os cells slots h pc Ls rest :=
  Rn.made (G := fun h' a => Exa Z h' a C ∧ (∀ {O nm d : String} {ty : FieldType}, Laid Z a0 C O nm d → parseFieldDescriptor d = some ty → Fld Z h' a O nm d (defaultValue ty)) ∧ (∃ cell : Cell, h'[a]? = some cell ∧ cell.vm = .none ∧ cell.monitor = {})) (st' := fun a => .ref a :: rest) (st := fun _ => rest) k (fun h' g => g.1.lt) fun p l e s m args below meth c T locs hx hby X hZ hown eT => by
    subst hp
    obtain ⟨T', h', X', e', E, A, D, U, st⟩ := Jvm.RoadKit.newO X hx hZ hown w1 w2 w3 eT (g := mkF m pc Ls rest) rfl (hb hby hd) hc hs
    exact ⟨T', h', X', e', E, ⟨A, D, U⟩, st⟩
theorem Rn.newP {aty : ArrayType} {n : Int32} {cap : Nat} {ty : FieldType} {ad : String} (wd : (Jvm.Cond.arrayClass ty).before a0 Z = true) (hty : newarray.typeOf aty = ty) (had : "[" ++ ty.toString = ad) (hd : decode bytes pc = .ok (.newarray aty, 2)) (hn : ¬ n < 0) (hcap : n.toNatClampNeg ≤ cap) (hb8 : cap * 8 ≤ 536870912) (hc : cells + 1 ≤ R.cells) (hs : slots + cap ≤ R.slots) (hp : pc + 2 = pc')
    (k : ∀ h' a, a = h.size → hS.size ≤ a → Ext h h' → (Ax Z h' a ty (List.replicate n.toNatClampNeg (defaultValue ty)) ∧ Exa Z h' a ad) → Rn w Z EL own nm bytes ml ret R hS ws Q (a :: os) (cells + 1) (slots + cap) h' pc' Ls (.ref a :: rest)) : Rn w Z EL own nm bytes ml ret R hS ws Q os cells slots h pc Ls (.int n :: rest) := by
  subst hty
  refine Rn.made (G := fun h' a => Ax Z h' a (newarray.typeOf aty) (List.replicate n.toNatClampNeg (defaultValue (newarray.typeOf aty))) ∧ Exa Z h' a ad) (st' := fun a => .ref a :: rest) (st := fun _ => rest) k (fun h' g => g.1.lt) fun p l e s m args below meth c T locs hx hby X hZ hown eT => ?_
  subst hp
  obtain ⟨T', h', cA, X', e', E, A, B, st⟩ := Jvm.RoadKit.newPE X hx hZ wd eT (g := mkF m pc Ls (.int n :: rest)) rfl (hb hby hd) rfl hn hcap hb8 hc hs had
  exact ⟨T', h', X', e', E, ⟨Ax.new A hn, B⟩, st⟩
theorem Rn.castY {ix : Nat} {K : String} {a : Addr} (wd : (Jvm.Cond.classLink own ix K).before a0 Z = true) (F : Ins Z h a K true) (hd : decode bytes pc = .ok (.checkcast ix, 3)) (hp : pc + 3 = pc') (k : Rn w Z EL own nm bytes ml ret R hS ws Q os cells slots h pc' Ls (.ref a :: rest)) : Rn w Z EL own nm bytes ml ret R hS ws Q os cells slots h pc Ls (.ref a :: rest) :=
  k.note fun p l e s m args below meth c T locs hx hby hml X hZ hown eT => by subst hp; exact Jvm.RoadKit.castY X hx hZ hown wd eT F (g := mkF m pc Ls (.ref a :: rest)) rfl rfl (hb hby hd)
theorem Rn.instY {ix : Nat} {K : String} {a : Addr} (wd : (Jvm.Cond.classLink own ix K).before a0 Z = true) (F : Ins Z h a K true) (hd : decode bytes pc = .ok (.instanceof ix, 3)) (hp : pc + 3 = pc') (k : Rn w Z EL own nm bytes ml ret R hS ws Q os cells slots h pc' Ls (.int 1 :: rest)) : Rn w Z EL own nm bytes ml ret R hS ws Q os cells slots h pc Ls (.ref a :: rest) :=
  k.note fun p l e s m args below meth c T locs hx hby hml X hZ hown eT => by subst hp; exact Jvm.RoadKit.instY X hx hZ hown wd eT F (g := mkF m pc Ls (.ref a :: rest)) rfl rfl (hb hby hd)
theorem Rn.instNo {ix : Nat} {K C : String} {a : Addr} (wd : (Jvm.Cond.classLink own ix K).before a0 Z = true) (E : Exa Z h a C) (F : ∃ c t, Z.vm.findClass C = some c ∧ Z.vm.findClass K = some t ∧ Z.vm.assignable c t = false) (hd : decode bytes pc = .ok (.instanceof ix, 3)) (hp : pc + 3 = pc') (k : Rn w Z EL own nm bytes ml ret R hS ws Q os cells slots h pc' Ls (.int 0 :: rest)) : Rn w Z EL own nm bytes ml ret R hS ws Q os cells slots h pc Ls (.ref a :: rest) :=
  k.note fun p l e s m args below meth c T locs hx hby hml X hZ hown eT => by subst hp; exact Jvm.RoadKit.instNo X hx hZ hown wd eT E F (g := mkF m pc Ls (.ref a :: rest)) rfl rfl (hb hby hd)
theorem Rn.initO {ix : Nat} {a : Addr} (w1 : (Jvm.Cond.methodLink own ix Lib.objectInit).before a0 Z = true) (w2 : (Jvm.Cond.instanceMethod Lib.objectInit).before a0 Z = true) (w3 : (Jvm.Cond.code Lib.objectInit ⟨#[0xb1]⟩ 1 none).before a0 Z = true) (hsz : Ls.size = ml) (hd : decode bytes pc = .ok (.invokespecial ix, 3)) (hf : 1 ≤ R.frames) (hl : (rest.map fun v => v.category).sum + 12 ≤ R.locals) (hp : pc + 3 = pc') (k : Rn w Z EL own nm bytes ml ret R hS ws Q os cells slots h pc' Ls rest) : Rn w Z EL own nm bytes ml ret R hS ws Q os cells slots h pc Ls (.ref a :: rest) :=
  k.note fun p l e s m args below meth c T locs hx hby hml X hZ hown eT => by subst hp; exact Jvm.RoadKit.initO X hx hZ hown w1 w2 w3 eT (g := mkF m pc Ls (.ref a :: rest)) rfl (hsz.trans hml.symm) rfl (hb hby hd) hf (W := (rest.map fun v => v.category).sum) (by show 2 * 0 + _ ≤ _; omega) hl
/-! ### contracts -/
/-- the contract of a method, in a walk that loads no literal: called with as over the heap h it returns as Q says and writes nothing but cells at ws and cells of its own -/
def Ct (Z : State) (y : MethodName) (bytes : ByteArray) (ml : Nat) (ret : Option FieldType) (rm : Room) (as : Array Value) (h : Heap) (ws : List Addr) (Q : Option Value → Heap → Prop) : Prop :=
  Ext Z.heap h → (∀ x ∈ ws, Z.heap.size ≤ x) → ∀ l, MetFree l y (head1 [Jvm.Cond.code y bytes ml ret] rm) (fun a U => a = as ∧ Z.Warmed39 U.vm ∧ U.heap = h) (fun _ _ _ _ _ => True) (fun _ U o U' => ∃ v L, o = .returned v ∧ (Fr Z.heap.size L ∧ Keep h U'.heap ws ∧ Q v U'.heap) ∧ FrameEnd U o U' L rm.cells rm.slots)
theorem met_of {wsT : List Jvm.Cond} {cls d : String} {as : Array Value} (pn : plainName cls = true) (ef : ∀ m, entryFrame m as ml = mkF m 0 Ls []) (hO : Ext Z.heap h) (hW : ∀ x ∈ ws, Z.heap.size ≤ x) (l : Launch) (k : Rn false Z [] cls nm bytes ml ret R h ws Q [] 0 0 h 0 Ls []) :
    MetFree l ⟨cls, nm, d⟩ (head1 (Jvm.Cond.code ⟨cls, nm, d⟩ bytes ml ret :: wsT) R) (fun a U => a = as ∧ Z.Warmed39 U.vm ∧ U.heap = h) (fun _ _ _ _ _ => True) (fun _ U o U' => ∃ v L, o = .returned v ∧ (Fr Z.heap.size L ∧ Keep h U'.heap ws ∧ Q v U'.heap) ∧ FrameEnd U o U' L R.cells R.slots) := by
  refine MetFree.of_bodySF (plainFor_of_name pn) hisR ?_
  intro p e s m args below meth c s₁ Bd hml0 hP hK
  obtain ⟨rfl, hZ, hh⟩ := hP
  have g := k p l e s s.vm m args below meth c s₁ [] ⟨Bd.exec, Bd.bytes, hml0, hZ, findClass_of_methodNamed Bd.named, (name_of_methodNamed Bd.named Bd.method).1, Bd.returns, Bd.notSynchronized⟩ (Stand.of_body Bd) rfl (Fr.nil _) (Keep.refl _ _) ⟨hO, hW⟩ (by rw [← hh, Bd.state]; rfl)
  obtain ⟨s₂, o, h1, h2, h3, h4⟩ := g
  exact ⟨s₂, o, castTop (ef m) h1, h2, h3, h4⟩
theorem Ct.intro {cls d : String} {as : Array Value} (pn : plainName cls = true) (ef : ∀ m, entryFrame m as ml = mkF m 0 Ls []) (k : Rn false Z [] cls nm bytes ml ret R h ws Q [] 0 0 h 0 Ls []) : Ct Z ⟨cls, nm, d⟩ bytes ml ret R as h ws Q :=
  fun hO hW l => met_of pn ef hO hW l k
theorem Ct.weaken {y : MethodName} {as : Array Value} {Q' : Option Value → Heap → Prop} (C : Ct Z y bytes ml ret R as h ws Q) (q : ∀ v h', Keep h h' ws → Q v h' → Q' v h') : Ct Z y bytes ml ret R as h ws Q' := by
  intro hO hW l p e ha hc hk s m args below hf happ hP hK
  obtain ⟨n, o, h1, h2, h3, v, L, h4, ⟨h5, h6, h7⟩, h8⟩ := C hO hW l p e ha hc hk s m args below hf happ hP hK
  exact ⟨n, o, h1, h2, h3, v, L, h4, ⟨h5, h6, q v _ h6 h7⟩, h8⟩
/-- behind a call by a plain contract -/
theorem Rn.called {st : List Value} {ws' : List Addr} {Q' : Option Value → Heap → Prop} {rm : Room} (hws : ∀ x ∈ ws', x ∈ ws ∨ hS.size ≤ x) (hsf : ∀ x ∈ ws', Sf w Z EL os h x)
    (k : ∀ v h', Keep h h' ws' → Q' v h' → Rn w Z EL own nm bytes ml ret R hS ws Q os (cells + rm.cells) (slots + rm.slots) h' pc' Ls (v.toList ++ rest))
    (f : ∀ (p : Program) (l : Launch) (e : Env) (s : State) (m : MethodId) (args : Array Value) (below : List Frame) (meth : Method) (c : Code) (T : State) (locs : List Loc), p.tables.exec = Jvm.exec → c.code = bytes → c.maxLocals = ml → Stand p l e R s m args below meth c T locs cells slots → Z.Warmed39 s.vm → s.vm.findClass own = some m.cls → T.heap = h → Ext Z.heap h → (∀ x ∈ ws', Z.heap.size ≤ x) →
      ∃ (v : Option Value) (B : Pt), Stand p l e R s m args below meth c B.U B.locs B.cells B.slots ∧ (∃ L, (Fr Z.heap.size L ∧ Keep h B.U.heap ws' ∧ Q' v B.U.heap) ∧ B.locs = locs ++ L ∧ B.cells = cells + rm.cells ∧ B.slots = slots + rm.slots) ∧ ∀ t, Steps p.tables e below (B.U.setTop (mkF m pc' Ls (v.toList ++ rest))) t → Steps p.tables e below (T.setTop (mkF m pc Ls st)) t) :
    Rn w Z EL own nm bytes ml ret R hS ws Q os cells slots h pc Ls st := by
  intro p l e s vm0 m args below meth c T locs ok X sn fr K O eT
  have X0 : Old Z Z.heap.size h := Old.keep (h := hS) ⟨rfl, O.1⟩ K O.2
  obtain ⟨v, ⟨U, L', c', s'⟩, X', ⟨L, ⟨f1, K', q'⟩, e1, e2, e3⟩, stp⟩ := f p l e _ m args below meth c T locs ok.1 ok.2.1 ok.2.2.1 X ok.2.2.2.1 ok.2.2.2.2.1 eT X0.2 (fun x hx => ge_of O (hws x hx))
  dsimp only [Pt.U, Pt.locs, Pt.cells, Pt.slots] at X' K' q' e1 e2 e3 stp
  subst e1 e2 e3
  exact (k v U.heap K' q' p l e s vm0 m args below meth c U _ ok X' (sn.keep ok.2.2.2.1 K' hsf) (fr.app f1) (K.trans K' hws) O rfl).pre stp
theorem Rn.callS {ix : Nat} {y : MethodName} {yb : ByteArray} {yl : Nat} {yr : Option FieldType} {rm : Room} {as : Array Value} {ws' : List Addr} {Q' : Option Value → Heap → Prop} {argsL : List Value} {st : List Value}
    (C : Ct Z y yb yl yr rm as h ws' Q') (w1 : (Jvm.Cond.methodLink own ix y).before a0 Z = true) (w2 : (Jvm.Cond.static y).before a0 Z = true) (w3 : (Jvm.Cond.initialized y.cls).before a0 Z = true) (w4 : (Jvm.Cond.code y yb yl yr).before a0 Z = true) (hy : y.cls ≠ "java/lang/invoke/MethodHandle" ∧ y.cls ≠ "java/lang/invoke/VarHandle")
    (hst : st = argsL.reverse ++ rest) (has : argsL.toArray = as) (hlen : ∀ sig, parseMethodDescriptor y.desc = some sig → argsL.length = sig.parameters.length) (hsz : Ls.size = ml) (hd : decode bytes pc = .ok (.invokestatic ix, 3)) (hp : pc + 3 = pc')
    (hf : rm.frames + 1 ≤ R.frames) (hl : (rest.map fun v => v.category).sum + (yl + 11) + rm.locals ≤ R.locals) (hc : cells + rm.cells ≤ R.cells) (hs : slots + rm.slots ≤ R.slots) (hws : ∀ x ∈ ws', x ∈ ws ∨ hS.size ≤ x) (hsf : ∀ x ∈ ws', Sf w Z EL os h x)
    (k : ∀ v h', Keep h h' ws' → Q' v h' → Rn w Z EL own nm bytes ml ret R hS ws Q os (cells + rm.cells) (slots + rm.slots) h' pc' Ls (v.toList ++ rest)) : Rn w Z EL own nm bytes ml ret R hS ws Q os cells slots h pc Ls st := by
  refine Rn.called hws hsf k fun p l e s m args below meth c T locs hx hby hml X hZ hown eT hO hge => ?_
  obtain ⟨v, vm1, B, -, X', ⟨L, q⟩, stp⟩ := Jvm.LawKit.callS X hx (y := y) hown (mvT hZ w1) (mvT hZ w2) (mvT hZ w3) (mvT hZ w4) hy (backOf (W := (rest.map fun v => v.category).sum) (Q := fun v h2 L => Fr Z.heap.size L ∧ Keep h h2 ws' ∧ Q' v h2) (C hO hge l) hZ w4 w3 hf hl) (g := mkF m pc Ls st) rfl (hsz.trans hml.symm) (argsL := argsL) (rest := rest) hlen hst (by show 2 * 0 + _ ≤ _; omega) (hb hby hd) (fun _ _ => ⟨has, eT, hc, hs⟩)
  subst hp
  exact ⟨v, B, X', ⟨L, q⟩, stp⟩
theorem Rn.callI {ix : Nat} {y : MethodName} {yb : ByteArray} {yl : Nat} {rm : Room} {as : Array Value} {ws' : List Addr} {Q' : Option Value → Heap → Prop} {a : Addr} {argsL : List Value} {st : List Value}
    (C : Ct Z y yb yl none rm as h ws' Q') (hy1 : y.name = "<init>") (w1 : (Jvm.Cond.methodLink own ix y).before a0 Z = true) (w2 : (Jvm.Cond.instanceMethod y).before a0 Z = true) (w3 : (Jvm.Cond.initialized y.cls).before a0 Z = true) (w4 : (Jvm.Cond.code y yb yl none).before a0 Z = true) (hy : y.cls ≠ "java/lang/invoke/MethodHandle" ∧ y.cls ≠ "java/lang/invoke/VarHandle")
    (hst : st = argsL.reverse ++ .ref a :: rest) (has : (.ref a :: argsL).toArray = as) (hlen : ∀ sig, parseMethodDescriptor y.desc = some sig → argsL.length = sig.parameters.length) (hsz : Ls.size = ml) (hd : decode bytes pc = .ok (.invokespecial ix, 3)) (hp : pc + 3 = pc')
    (hf : rm.frames + 1 ≤ R.frames) (hl : (rest.map fun v => v.category).sum + (yl + 11) + rm.locals ≤ R.locals) (hc : cells + rm.cells ≤ R.cells) (hs : slots + rm.slots ≤ R.slots) (hws : ∀ x ∈ ws', x ∈ ws ∨ hS.size ≤ x) (hsf : ∀ x ∈ ws', Sf w Z EL os h x)
    (k : ∀ v h', Keep h h' ws' → Q' v h' → Rn w Z EL own nm bytes ml ret R hS ws Q os (cells + rm.cells) (slots + rm.slots) h' pc' Ls (v.toList ++ rest)) : Rn w Z EL own nm bytes ml ret R hS ws Q os cells slots h pc Ls st := by
  refine Rn.called hws hsf k fun p l e s m args below meth c T locs hx hby hml X hZ hown eT hO hge => ?_
  obtain ⟨v, vm1, B, -, X', ⟨L, q⟩, stp⟩ := X.specialBack hx (y := y) hy1 hown (mvT hZ w1) (mvT hZ w2) (mvT hZ w4) hy (backOf (W := (rest.map fun v => v.category).sum) (Q := fun v h2 L => Fr Z.heap.size L ∧ Keep h h2 ws' ∧ Q' v h2) (C hO hge l) hZ w4 w3 hf hl) (g := mkF m pc Ls st) rfl (hsz.trans hml.symm) (Steps.refl _) (a := a) (argsL := argsL) (rest := rest) hlen hst (by show 2 * 0 + _ ≤ _; omega) (hb hby hd) (fun _ _ => ⟨has, eT, hc, hs⟩)
  subst hp
  exact ⟨v, B, X', ⟨L, q⟩, fun t r => stp.trans r⟩
theorem Rn.callV {ix : Nat} {C0 : String} {y z : MethodName} {yb : ByteArray} {yl : Nat} {yr : Option FieldType} {rm : Room} {as : Array Value} {ws' : List Addr} {Q' : Option Value → Heap → Prop} {a : Addr} {argsL : List Value} {st : List Value}
    (C : Ct Z z yb yl yr rm as h ws' Q') (E : Exa Z h a C0) (w1 : (Jvm.Cond.methodLink own ix y).before a0 Z = true) (w2 : (Jvm.Cond.declares y).before a0 Z = true) (nf : ∀ s : State, Z.Warmed39 s.vm → NotFace s y) (w5 : (Jvm.Cond.selects C0 y z).before a0 Z = true) (w6 : (Jvm.Cond.instanceMethod z).before a0 Z = true) (w3 : (Jvm.Cond.initialized z.cls).before a0 Z = true) (w4 : (Jvm.Cond.code z yb yl yr).before a0 Z = true) (hy : y.cls ≠ "java/lang/invoke/MethodHandle" ∧ y.cls ≠ "java/lang/invoke/VarHandle")
    (hst : st = argsL.reverse ++ .ref a :: rest) (has : (.ref a :: argsL).toArray = as) (hlen : ∀ sig, parseMethodDescriptor y.desc = some sig → argsL.length = sig.parameters.length) (hsz : Ls.size = ml) (hd : decode bytes pc = .ok (.invokevirtual ix, 3)) (hp : pc + 3 = pc')
    (hf : rm.frames + 1 ≤ R.frames) (hl : (rest.map fun v => v.category).sum + (yl + 11) + rm.locals ≤ R.locals) (hc : cells + rm.cells ≤ R.cells) (hs : slots + rm.slots ≤ R.slots) (hws : ∀ x ∈ ws', x ∈ ws ∨ hS.size ≤ x) (hsf : ∀ x ∈ ws', Sf w Z EL os h x)
    (k : ∀ v h', Keep h h' ws' → Q' v h' → Rn w Z EL own nm bytes ml ret R hS ws Q os (cells + rm.cells) (slots + rm.slots) h' pc' Ls (v.toList ++ rest)) : Rn w Z EL own nm bytes ml ret R hS ws Q os cells slots h pc Ls st := by
  refine Rn.called hws hsf k fun p l e s m args below meth c T locs hx hby hml X hZ hown eT hO hge => ?_
  obtain ⟨cq, kq, qa, qb, qc⟩ := isOf hZ eT E
  obtain ⟨v, vm1, B, -, X', ⟨L, q⟩, stp⟩ := X.virtualBack hx (y := y) (z := z) hown (mvT hZ w1) (mvT hZ w2) (nf s hZ) (mvT hZ w5) (mvT hZ w6) hy (backOf (W := (rest.map fun v => v.category).sum) (Q := fun v h2 L => Fr Z.heap.size L ∧ Keep h h2 ws' ∧ Q' v h2) (C hO hge l) hZ w4 w3 hf hl) qa qc (g := mkF m pc Ls st) rfl (hsz.trans hml.symm) (Steps.refl _) (argsL := argsL) (rest := rest) hlen hst (by show 2 * 0 + _ ≤ _; omega) (hb hby hd) (fun _ _ => ⟨has, eT, hc, hs⟩)
  subst hp
  exact ⟨v, B, X', ⟨L, q⟩, fun t r => stp.trans r⟩
end Objs
section Objs2
variable {w : Bool} {Z : State} {EL : List (String × Nat)} {own nm : String} {bytes : ByteArray} {ml : Nat} {ret : Option FieldType} {R : Room} {hS : Heap} {ws : List Addr} {Q : Option Value → Heap → Prop} {os : List Addr} {cells slots : Nat} {h h' : Heap} {pc pc' : Nat} {Ls Ls' : Array Slot} {rest : List Value} {a0 : Array Value}
theorem Rn.callU {ix : Nat} {C0 owner : String} {y z : MethodName} {yb : ByteArray} {yl : Nat} {yr : Option FieldType} {rm : Room} {as : Array Value} {ws' : List Addr} {Q' : Option Value → Heap → Prop} {a : Addr} {argsL : List Value} {st : List Value}
    (C : Ct Z z yb yl yr rm as h ws' Q') (E : Exa Z h a C0) (w1 : (Jvm.Cond.methodLink own ix y).before a0 Z = true) (w2 : (Jvm.Cond.sameMethod y.cls owner y.name y.desc).before a0 Z = true) (w7 : (Jvm.Cond.declares ⟨owner, y.name, y.desc⟩).before a0 Z = true) (hy : owner ≠ "java/lang/invoke/MethodHandle" ∧ owner ≠ "java/lang/invoke/VarHandle") (w5 : (Jvm.Cond.selects C0 y z).before a0 Z = true) (w6 : (Jvm.Cond.instanceMethod z).before a0 Z = true) (w3 : (Jvm.Cond.initialized z.cls).before a0 Z = true) (w4 : (Jvm.Cond.code z yb yl yr).before a0 Z = true)
    (hst : st = argsL.reverse ++ .ref a :: rest) (has : (.ref a :: argsL).toArray = as) (hlen : ∀ sig, parseMethodDescriptor y.desc = some sig → argsL.length = sig.parameters.length) (hsz : Ls.size = ml) (hd : decode bytes pc = .ok (.invokevirtual ix, 3)) (hp : pc + 3 = pc')
    (hf : rm.frames + 1 ≤ R.frames) (hl : (rest.map fun v => v.category).sum + (yl + 11) + rm.locals ≤ R.locals) (hc : cells + rm.cells ≤ R.cells) (hs : slots + rm.slots ≤ R.slots) (hws : ∀ x ∈ ws', x ∈ ws ∨ hS.size ≤ x) (hsf : ∀ x ∈ ws', Sf w Z EL os h x)
    (k : ∀ v h', Keep h h' ws' → Q' v h' → Rn w Z EL own nm bytes ml ret R hS ws Q os (cells + rm.cells) (slots + rm.slots) h' pc' Ls (v.toList ++ rest)) : Rn w Z EL own nm bytes ml ret R hS ws Q os cells slots h pc Ls st := by
  refine Rn.called hws hsf k fun p l e s m args below meth c T locs hx hby hml X hZ hown eT hO hge => ?_
  obtain ⟨cq, kq, qa, qb, qc⟩ := isOf hZ eT E
  obtain ⟨v, vm1, B, -, X', ⟨L, q⟩, stp⟩ := X.virtualBackUp hx (x := y) (y := z) hown (mvT hZ w1) (mvT hZ w2) (mvT hZ w7) hy (mvT hZ w5) (mvT hZ w6) (backOf (W := (rest.map fun v => v.category).sum) (Q := fun v h2 L => Fr Z.heap.size L ∧ Keep h h2 ws' ∧ Q' v h2) (C hO hge l) hZ w4 w3 hf hl) qa qc (g := mkF m pc Ls st) rfl (hsz.trans hml.symm) (Steps.refl _) (argsL := argsL) (rest := rest) hlen hst (by show 2 * 0 + _ ≤ _; omega) (hb hby hd) (fun _ _ => ⟨has, eT, hc, hs⟩)
  subst hp
  exact ⟨v, B, X', ⟨L, q⟩, fun t r => stp.trans r⟩
end Objs2
section Objs3
variable {w : Bool} {Z : State} {EL : List (String × Nat)} {own nm : String} {bytes : ByteArray} {ml : Nat} {ret : Option FieldType} {R : Room} {hS : Heap} {ws : List Addr} {Q : Option Value → Heap → Prop} {os : List Addr} {cells slots : Nat} {h h' : Heap} {pc pc' : Nat} {Ls Ls' : Array Slot} {rest : List Value} {a0 : Array Value}
theorem Rn.instNull {ix : Nat} (hd : decode bytes pc = .ok (.instanceof ix, 3)) (hp : pc + 3 = pc') (k : Rn w Z EL own nm bytes ml ret R hS ws Q os cells slots h pc' Ls (.int 0 :: rest)) : Rn w Z EL own nm bytes ml ret R hS ws Q os cells slots h pc Ls (.null :: rest) :=
  k.pure fun p l e s m args below meth c T locs hx hby X hZ hown eT t r => by subst hp; exact Jvm.Stand.instanceofNull X hx (g := mkF m pc Ls (.null :: rest)) rfl rfl (hb hby hd) t r
theorem Rn.castNull {ix : Nat} (hd : decode bytes pc = .ok (.checkcast ix, 3)) (hp : pc + 3 = pc') (k : Rn w Z EL own nm bytes ml ret R hS ws Q os cells slots h pc' Ls (.null :: rest)) : Rn w Z EL own nm bytes ml ret R hS ws Q os cells slots h pc Ls (.null :: rest) :=
  k.pure fun p l e s m args below meth c T locs hx hby X hZ hown eT t r => by subst hp; exact Jvm.Stand.checkcastNull X hx (g := mkF m pc Ls (.null :: rest)) rfl rfl (hb hby hd) t r
theorem ni_of {C C0 : String} {y z : MethodName} (w5 : (Jvm.Cond.selects C y z).before a0 Z = true) (e : z.cls = C0) (s : State) (hZ : Z.Warmed39 s.vm) : ∃ c k, s.vm.findClass C0 = some c ∧ s.vm.classes[c]? = some k ∧ k.isInterface = false := by
  subst e
  obtain ⟨c2, r2, m2, -, -, q3, -, kP, hkP, hkPi⟩ := Cond.selects_spec (mvT (args := #[]) (s := s) hZ w5)
  exact ⟨_, kP, findClass_of_methodNamed q3, hkP, hkPi⟩
theorem Rn.callP {ix : Nat} {C0 : String} {y : MethodName} {yb : ByteArray} {yl : Nat} {yr : Option FieldType} {rm : Room} {as : Array Value} {ws' : List Addr} {Q' : Option Value → Heap → Prop} {a : Addr} {argsL : List Value} {st : List Value}
    (C : Ct Z y yb yl yr rm as h ws' Q') (E : Exa Z h a C0) (w1 : (Jvm.Cond.methodLink own ix y).before a0 Z = true) (w6 : (Jvm.Cond.instanceMethod y).before a0 Z = true) (w7 : (Jvm.Cond.privateMethod y).before a0 Z = true) (ni : ∀ s : State, Z.Warmed39 s.vm → ∃ c k, s.vm.findClass y.cls = some c ∧ s.vm.classes[c]? = some k ∧ k.isInterface = false) (w3 : (Jvm.Cond.initialized y.cls).before a0 Z = true) (w4 : (Jvm.Cond.code y yb yl yr).before a0 Z = true) (hy : y.cls ≠ "java/lang/invoke/MethodHandle" ∧ y.cls ≠ "java/lang/invoke/VarHandle")
    (hst : st = argsL.reverse ++ .ref a :: rest) (has : (.ref a :: argsL).toArray = as) (hlen : ∀ sig, parseMethodDescriptor y.desc = some sig → argsL.length = sig.parameters.length) (hsz : Ls.size = ml) (hd : decode bytes pc = .ok (.invokevirtual ix, 3)) (hp : pc + 3 = pc')
    (hf : rm.frames + 1 ≤ R.frames) (hl : (rest.map fun v => v.category).sum + (yl + 11) + rm.locals ≤ R.locals) (hc : cells + rm.cells ≤ R.cells) (hs : slots + rm.slots ≤ R.slots) (hws : ∀ x ∈ ws', x ∈ ws ∨ hS.size ≤ x) (hsf : ∀ x ∈ ws', Sf w Z EL os h x)
    (k : ∀ v h', Keep h h' ws' → Q' v h' → Rn w Z EL own nm bytes ml ret R hS ws Q os (cells + rm.cells) (slots + rm.slots) h' pc' Ls (v.toList ++ rest)) : Rn w Z EL own nm bytes ml ret R hS ws Q os cells slots h pc Ls st := by
  refine Rn.called hws hsf k fun p l e s m args below meth c T locs hx hby hml X hZ hown eT hO hge => ?_
  obtain ⟨cl, e1, e2⟩ := E.cell
  obtain ⟨c9, k9, z1, z2, z3⟩ := ni s hZ
  have hpv : s.PrivateAt y := Cond.privateMethod_at (mvP (args := #[]) hZ w7)
  have hin : (Jvm.Cond.instanceMethod y).before args s = true := mvT hZ w6
  have hsel : (Jvm.Cond.selects y.cls y y).before args s = true := selects_self_of_private z1 z2 z3 hpv hin hy
  obtain ⟨v, vm1, B, -, X', ⟨L, q⟩, stp⟩ := X.privateBack hx (y := y) hown (mvT hZ w1) hin hsel hpv (mvT hZ w4) hy (backOf (W := (rest.map fun v => v.category).sum) (Q := fun v h2 L => Fr Z.heap.size L ∧ Keep h h2 ws' ∧ Q' v h2) (C hO hge l) hZ w4 w3 hf hl) (g := mkF m pc Ls st) rfl (hsz.trans hml.symm) (Steps.refl _) (a := a) (cell := cl) (by rw [eT]; exact e1) e2 (argsL := argsL) (rest := rest) hlen hst (by show 2 * 0 + _ ≤ _; omega) (hb hby hd) (fun _ _ => ⟨has, eT, hc, hs⟩)
  subst hp
  exact ⟨v, B, X', ⟨L, q⟩, fun t r => stp.trans r⟩
/-- 'anewarray' of an array type -/
theorem Rn.newRA {ix : Nat} {n : Int32} {cap : Nat} {ty : FieldType} {C ad : String} (w1 : (Jvm.Cond.classLink own ix C).before a0 Z = true) (w2 : (Jvm.Cond.arrayOver (.array ty)).before a0 Z = true) (hC : (FieldType.array ty).toString = C) (had : "[" ++ C = ad) (hd : decode bytes pc = .ok (.anewarray ix, 3)) (hn : ¬ n < 0) (hcap : n.toNatClampNeg ≤ cap) (hb8 : cap * 8 ≤ 536870912) (hc : cells + 1 ≤ R.cells) (hs : slots + cap ≤ R.slots) (hp : pc + 3 = pc')
    (k : ∀ h' a, a = h.size → hS.size ≤ a → Ext h h' → (Ax Z h' a (.array ty) (List.replicate n.toNatClampNeg .null) ∧ Exa Z h' a ad ∧ ∀ y, ∀ {h2 : Heap} {vs : List Value}, Ax Z h2 a (.array ty) vs → (∃ cl, h2[a]? = some cl ∧ ∃ cl', h'[a]? = some cl' ∧ cl.cls = cl'.cls) → Ins Z h2 y C true → Sto Z h2 a (.ref y)) → Rn w Z EL own nm bytes ml ret R hS ws Q (a :: os) (cells + 1) (slots + cap) h' pc' Ls (.ref a :: rest)) : Rn w Z EL own nm bytes ml ret R hS ws Q os cells slots h pc Ls (.int n :: rest) := by
  refine Rn.made (G := fun h' a => Ax Z h' a (.array ty) (List.replicate n.toNatClampNeg .null) ∧ Exa Z h' a ad ∧ ∀ y, ∀ {h2 : Heap} {vs : List Value}, Ax Z h2 a (.array ty) vs → (∃ cl, h2[a]? = some cl ∧ ∃ cl', h'[a]? = some cl' ∧ cl.cls = cl'.cls) → Ins Z h2 y C true → Sto Z h2 a (.ref y)) (st' := fun a => .ref a :: rest) (st := fun _ => rest) k (fun h' g => g.1.lt) fun p l e s m args below meth c T locs hx hby X hZ hown eT => ?_
  subst hp
  obtain ⟨T', h', cA, X', e', E, A, B, O, st⟩ := Jvm.RoadKit.newRA X hx hZ hown hC w1 w2 eT (g := mkF m pc Ls (.int n :: rest)) rfl (hb hby hd) rfl hn hcap hb8 hc hs had
  refine ⟨T', h', X', e', E, ⟨Ax.new A hn, B, fun y h2 vs A2 ⟨cl, q1, cl', q2, q3⟩ I => ?_⟩, st⟩
  obtain ⟨c2, A3, -⟩ := A2
  cases q1.symm.trans A3.1
  cases q2.symm.trans A.1
  exact Sto.ofVA A3 q3 O I
/-- 'System.arraycopy' between arrays of one primitive type (or one array and itself) -/
theorem Rn.arraycopy {ix : Nat} {a b : Addr} {ty : FieldType} {vs vd vs' : List Value} {sp dp nn : Int32} (A : Ax Z h a ty vs) (B : Ax Z h b ty vd) (fa : ∀ x ∈ vs, fits ty x = true) (fb : ∀ x ∈ vd, fits ty x = true) (hty : refKind ty = false)
    (w1 : (Jvm.Cond.methodLink own ix Jvm.Stand.acN).before a0 Z = true) (w2 : (Jvm.Cond.native Jvm.Stand.acN).before a0 Z = true) (w3 : (Jvm.Cond.static Jvm.Stand.acN).before a0 Z = true) (w4 : (Jvm.Cond.initialized "java/lang/System").before a0 Z = true)
    (h1 : ¬ sp < 0) (h2 : ¬ dp < 0) (h3 : ¬ nn < 0) (h4 : sp.toNatClampNeg + nn.toNatClampNeg ≤ vs.length) (h5 : dp.toNatClampNeg + nn.toNatClampNeg ≤ vd.length)
    (hv : vd.take dp.toNatClampNeg ++ (List.range nn.toNatClampNeg).map (fun i => vs.getD (sp.toNatClampNeg + i) (.int 0)) ++ vd.drop (dp.toNatClampNeg + nn.toNatClampNeg) = vs')
    (hsz : Ls.size = ml) (hd : decode bytes pc = .ok (.invokestatic ix, 3)) (hf : 1 ≤ R.frames) (hl : (rest.map fun v => v.category).sum + 18 ≤ R.locals) (q : b ∈ ws ∨ hS.size ≤ b) (sf : Sf w Z EL os h b) (hp : pc + 3 = pc')
    (k : ∀ h', Keep h h' [b] → Ax Z h' b ty vs' → Rn w Z EL own nm bytes ml ret R hS ws Q os cells slots h' pc' Ls rest) : Rn w Z EL own nm bytes ml ret R hS ws Q os cells slots h pc Ls (.int nn :: .int dp :: .ref b :: .int sp :: .ref a :: rest) := by
  intro p l e s vm0 m args below meth c T locs ok X sn fr K O eT
  have hlen : ∀ {xs : List Value}, xs.length < 2 ^ 31 → (Int32.ofNat xs.length).toNatClampNeg = xs.length ∧ ¬ Int32.ofNat xs.length < 0 := fun {xs} hx => by
    have e1 : (Int32.ofNat xs.length).toInt = xs.length := Int32.toInt_ofNat_of_lt hx
    refine ⟨by simp [Int32.toNatClampNeg, e1], ?_⟩
    rw [Int32.lt_iff_toInt_lt, e1]; have : (0 : Int32).toInt = 0 := rfl; omega
  obtain ⟨la, na⟩ := hlen (xs := vs) (by obtain ⟨_, _, _, z⟩ := A; exact z)
  obtain ⟨lb, nb⟩ := hlen (xs := vd) (by obtain ⟨_, _, _, z⟩ := B; exact z)
  obtain ⟨ka, Aa⟩ := A.arv (d := .int 0) fa _ la na
  obtain ⟨kb, Bb⟩ := B.arv (d := .int 0) fb _ lb nb
  obtain ⟨T', h', L, X', e', N', K', A', stp⟩ := cpA X ok.1 ok.2.2.2.1 ok.2.2.2.2.1 w1 w2 w3 w4 eT Aa Bb (Or.inl ⟨rfl, hty⟩) h1 h2 h3 (by rw [la]; exact h4) (by rw [lb]; exact h5) rfl h5 fr (ge_of O q) (g := mkF m pc Ls (.int nn :: .int dp :: .ref b :: .int sp :: .ref a :: rest)) rfl (hsz.trans ok.2.2.1.symm) rfl (hb ok.2.1 hd) hf (W := (rest.map fun v => v.category).sum) (by show 2 * 0 + _ ≤ _; omega) hl
  have A2 : Ax Z h' b ty vs' := by
    rw [← hv]
    refine Ax.ofArv A' ?_
    simp only [List.length_append, List.length_take, List.length_map, List.length_range, List.length_drop]; omega
  subst hp
  exact (k h' K' A2 p l e s vm0 m args below meth c T' L ok X' (sn.keep ok.2.2.2.1 K' fun x hx => by cases List.mem_singleton.mp hx; exact sf) N' (K.trans K' fun x hx => by cases List.mem_singleton.mp hx; exact q) O e').pre stp
end Objs3
theorem ns_root {Z : State} {a0 : Array Value} {O K : String} {n : Nat} (w : (Jvm.Cond.noSuperclass O).before a0 Z = true) (wi : (Jvm.Cond.instantiable K n).before a0 Z = true) (hn : O ≠ K) : NS Z O K := by
  obtain ⟨c, k, h1, h2, h3, -, -⟩ := Cond.noSuperclass_spec w
  obtain ⟨t, kt, g1, -⟩ := Cond.instantiable_spec wi
  have ne := ids_ne h1 g1 hn
  refine ⟨c, t, h1, g1, fun fuel => ?_⟩
  cases fuel with
  | zero => rfl
  | succ f => simp [Vm.isSubclassAux, ne, h2, h3]
theorem ns_no {Z : State} {a0 : Array Value} {C S K : String} {n : Nat} (w : (Jvm.Cond.superclass C S).before a0 Z = true) (wi : (Jvm.Cond.instantiable K n).before a0 Z = true) (nn : NS Z C K) (hn : C ≠ K) : ∃ c t, Z.vm.findClass C = some c ∧ Z.vm.findClass K = some t ∧ Z.vm.assignable c t = false := by
  obtain ⟨c, t, h0, g0, n3⟩ := nn
  obtain ⟨p, k, kp, h1, h2, h3, h4, h5, -, h7⟩ := Cond.superclass_spec h0 w
  obtain ⟨t', k', g1, g2, g5, g7, -⟩ := Cond.instantiable_spec wi
  cases g0.symm.trans g1
  have g8 : k'.isInterface = false := by cases q : k'.isInterface <;> simp [q] at g7 ⊢
  have ne := ids_ne h0 g0 hn
  refine ⟨c, t, h0, g0, ?_⟩
  show Z.vm.assignableAux (255 + 1) c t = false
  simp [Vm.assignableAux, ne, h2, g2, h5, g5, g8, Vm.isSubclass, n3]
/-! ### walks that load String literals -/
section Wide
variable {Z : State} {EL : List (String × Nat)} {own nm : String} {bytes : ByteArray} {ml : Nat} {ret : Option FieldType} {R : Room} {hS : Heap} {ws : List Addr} {Q : Option Value → Heap → Prop} {os : List Addr} {cells slots : Nat} {h h' : Heap} {pc pc' : Nat} {Ls Ls' : Array Slot} {rest : List Value} {a0 : Array Value}
theorem Sn.later {s : State} {vm0 vm1 : Vm} {k1 : Nat} (sn : Sn true Z EL s vm0 h os) (hS1 : s.Since vm1 k1) (hk : k1 ≤ h'.size) (C : CHr Z EL vm0 h vm1 h') : Sn true Z EL s vm1 h' os :=
  ⟨⟨k1, hS1, hk⟩, sn.2.1.trans C, sn.2.2.1, fun x hx => ⟨Nat.lt_of_lt_of_le (sn.2.2.2 x hx).1 C.2.1, C.safe (sn.2.2.2 x hx).1 (sn.2.2.2 x hx).2⟩⟩
/-- 'ldc' of a literal that is only handed on -/
theorem Rn.ldcO {ix n : Nat} {text : String} (hE : EW Z a0 EL) (wS : ∀ a ∈ Bundle.stringAtoms, a.before a0 Z = true) (wd : (Jvm.Cond.stringLink own ix text).before a0 Z = true) (hd : decode bytes pc = .ok (.ldc ix, 2)) (hn : 4 * text.toList.length ≤ n) (hbig : n ≤ 536870912) (hc : cells + 2 ≤ R.cells) (hs : slots + (n + 4) ≤ R.slots) (hp : pc + 2 = pc')
    (k : ∀ h' a, Ext h h' → Rn true Z EL own nm bytes ml ret R hS ws Q os (cells + 2) (slots + (n + 4)) h' pc' Ls (.ref a :: rest)) : Rn true Z EL own nm bytes ml ret R hS ws Q os cells slots h pc Ls rest := by
  intro p l e s vm0 m args below meth c T locs ok X sn fr K O eT
  obtain ⟨hx, hby, hml, hZ, hown, hnm, hret, hlk⟩ := ok
  obtain ⟨⟨k0, hS0, hk0⟩, hC, -, -⟩ := id sn
  obtain ⟨a, T', h1, k1, X', e', E, hS1, hk1, hZ', hown', C, -, stp⟩ := ldcOH X hx hZ hown wd wS eT hS0 hk0 hE hC.1 (g := mkF m pc Ls rest) rfl (hb hby hd) hn hbig hc hs
  subst hp
  exact (k h1 a E p l e s T'.vm m args below meth c T' locs ⟨hx, hby, hml, hZ', hown', hnm, hret, hlk⟩ X' (sn.later hS1 hk1 C) fr (K.ext E) O e').pre stp
/-- 'ldc' of a literal that is read -/
theorem Rn.ldcR {ix n : Nat} {text : String} {vs : List Value} {z : Int32} (hE : EW Z a0 EL) (wS : ∀ a ∈ Bundle.stringAtoms, a.before a0 Z = true) (wd : (Jvm.Cond.stringLink own ix text).before a0 Z = true) (hm : (own, ix) ∈ EL) (ht : (∀ c ∈ text.toList, c.toNat < 256) ∧ text.toList.map (fun c => Value.int (Jvm.Lit.byteI c.toNat.toUInt16)) = vs) (hz : ¬ z < 0) (hl : z.toNatClampNeg = vs.length) (hd : decode bytes pc = .ok (.ldc ix, 2)) (hn : 4 * text.toList.length ≤ n) (hbig : n ≤ 536870912) (hc : cells + 2 ≤ R.cells) (hs : slots + (n + 4) ≤ R.slots) (hp : pc + 2 = pc')
    (k : ∀ h' a t, Ext h h' → Exa Z h' a "java/lang/String" → Fld Z h' a "java/lang/String" "coder" "B" (.int 0) → Fld Z h' a "java/lang/String" "value" "[B" (.ref t) → Ax Z h' t .byte vs → (∀ x ∈ os, x ≠ a ∧ x ≠ t) → Rn true Z EL own nm bytes ml ret R hS ws Q os (cells + 2) (slots + (n + 4)) h' pc' Ls (.ref a :: rest)) : Rn true Z EL own nm bytes ml ret R hS ws Q os cells slots h pc Ls rest := by
  intro p l e s vm0 m args below meth c T locs ok X sn fr K O eT
  obtain ⟨hx, hby, hml, hZ, hown, hnm, hret, hlk⟩ := ok
  obtain ⟨⟨k0, hS0, hk0⟩, hC, -, hos⟩ := id sn
  obtain ⟨a, T', h1, k1, b, kb, X', e', E, hS1, hk1, hZ', hown', A1, A2, A3, A4, -, -, C, -, hne, stp⟩ := ldcCH X hx hZ hown wd wS eT hS0 hk0 hE hm hC.1 ht hz hl (g := mkF m pc Ls rest) rfl (hb hby hd) hn hbig hc hs
  subst hp
  exact (k h1 a b E A1 A2 A3 (Ax.ofArv A4 hl.symm) (fun x hx => hne x (C.safe (hos x hx).1 (hos x hx).2)) p l e s T'.vm m args below meth c T' locs ⟨hx, hby, hml, hZ', hown', hnm, hret, hlk⟩ X' (sn.later hS1 hk1 C) fr (K.ext E) O e').pre stp
/-- the contract of a method whose walk may load literals -/
def CtW (Z : State) (EL : List (String × Nat)) (y : MethodName) (bytes : ByteArray) (ml : Nat) (ret : Option FieldType) (rm : Room) (as : Array Value) (h : Heap) (os ws : List Addr) (Q : Option Value → Heap → Prop) : Prop :=
  Ext Z.heap h → (∀ x ∈ ws, Z.heap.size ≤ x) → (∃ a0, EW Z a0 EL) → ∀ l, MetFree l y (head1 [Jvm.Cond.code y bytes ml ret] rm) (fun a U => a = as ∧ Z.Warmed39 U.vm ∧ U.heap = h ∧ CHv Z EL U.vm h ∧ ∀ x ∈ os, x < h.size ∧ Safe Z EL U.vm h x) (fun _ _ _ _ _ => True) (fun _ U o U' => ∃ v L, o = .returned v ∧ (Fr Z.heap.size L ∧ Keep h U'.heap ws ∧ Q v U'.heap) ∧ CHr Z EL U.vm U.heap U'.vm U'.heap ∧ ReturnedEndW U o U' L rm.cells rm.slots)
theorem metW_of {wsT : List Jvm.Cond} {cls d : String} {as : Array Value} (pn : plainName cls = true) (ef : ∀ m, entryFrame m as ml = mkF m 0 Ls []) (hO : Ext Z.heap h) (hW : ∀ x ∈ ws, Z.heap.size ≤ x) (hE : ∃ a0, EW Z a0 EL) (l : Launch) (k : Rn true Z EL cls nm bytes ml ret R h ws Q os 0 0 h 0 Ls []) :
    MetFree l ⟨cls, nm, d⟩ (head1 (Jvm.Cond.code ⟨cls, nm, d⟩ bytes ml ret :: wsT) R) (fun a U => a = as ∧ Z.Warmed39 U.vm ∧ U.heap = h ∧ CHv Z EL U.vm h ∧ ∀ x ∈ os, x < h.size ∧ Safe Z EL U.vm h x) (fun _ _ _ _ _ => True) (fun _ U o U' => ∃ v L, o = .returned v ∧ (Fr Z.heap.size L ∧ Keep h U'.heap ws ∧ Q v U'.heap) ∧ CHr Z EL U.vm U.heap U'.vm U'.heap ∧ ReturnedEndW U o U' L R.cells R.slots) := by
  refine MetFree.of_bodySF (plainFor_of_name pn) hisR ?_
  intro p e s m args below meth c s₁ Bd hml0 hP hK
  obtain ⟨rfl, hZ, rfl, hC, hos⟩ := hP
  have g := k p l e s s.vm m args below meth c s₁ [] ⟨Bd.exec, Bd.bytes, hml0, hZ, findClass_of_methodNamed Bd.named, (name_of_methodNamed Bd.named Bd.method).1, Bd.returns, Bd.notSynchronized⟩ (Stand.of_body Bd) ⟨⟨_, (State.WarmedH.refl s).since s.heap.size, Nat.le_refl _⟩, CHr.refl hC, hE, hos⟩ (Fr.nil _) (Keep.refl _ _) ⟨hO, hW⟩ (by rw [Bd.state]; rfl)
  obtain ⟨s₂, o, h1, h2, h3, h4⟩ := g
  exact ⟨s₂, o, castTop (ef m) h1, h2, h3, h4⟩
theorem CtW.intro {cls d : String} {as : Array Value} (pn : plainName cls = true) (ef : ∀ m, entryFrame m as ml = mkF m 0 Ls []) (k : Rn true Z EL cls nm bytes ml ret R h ws Q os 0 0 h 0 Ls []) : CtW Z EL ⟨cls, nm, d⟩ bytes ml ret R as h os ws Q :=
  fun hO hW hE l => metW_of pn ef hO hW hE l k
/-- what pays a call by a wide contract -/
theorem backW {y : MethodName} {yb : ByteArray} {yl : Nat} {yr : Option FieldType} {rm : Room} {len W : Nat} {as : Array Value} {os' ws' : List Addr} {Q' : Option Value → Heap → Prop} {p : Program} {l : Launch} {e : Env} {s : State} {vm0 : Vm} {args : Array Value} {below : List Frame} (C : CtW Z EL y yb yl yr rm as h os' ws' Q') (hO : Ext Z.heap h) (hge : ∀ x ∈ ws', Z.heap.size ≤ x)
    (hZ : Z.Warmed39 vm0) (wc : (Jvm.Cond.code y yb yl yr).before a0 Z = true) (wz : (Jvm.Cond.initialized y.cls).before a0 Z = true) (hf : rm.frames + 1 ≤ R.frames) (hl : W + (yl + 11) + rm.locals ≤ R.locals) (hEL : EW Z a0 EL) (H : CHv Z EL vm0 h) (hos : ∀ x ∈ os', x < h.size ∧ Safe Z EL vm0 h x) :
    BackS l R p e below (s.setVm vm0) args y len W (fun A a => a = as ∧ A.U.heap = h ∧ A.cells + rm.cells ≤ R.cells ∧ A.slots + rm.slots ≤ R.slots)
      (fun A _ v B => ∃ L, (Fr Z.heap.size L ∧ Keep h B.U.heap ws' ∧ Q' v B.U.heap) ∧ B.locs = A.locs ++ L ∧ B.cells = A.cells + rm.cells ∧ B.slots = A.slots + rm.slots ∧ CHr Z EL vm0 h B.U.vm B.U.heap) :=
  BackS.of_freeW (bytes := yb) (maxL := yl) (ret := yr) (E := fun _ first o t L k n => k = rm.cells ∧ n = rm.slots ∧ (∃ v, o = .returned v ∧ (Fr Z.heap.size L ∧ Keep h t.heap ws' ∧ Q' v t.heap)) ∧ CHr Z EL first.vm first.heap t.vm t.heap) (C hO hge ⟨_, hEL⟩ l) hf hl
    (fun m meth c A a Y hp => have hU : Z.Warmed39 A.U.vm := wtrans (s := s.setVm vm0) hZ Y.warmed
      ⟨by show (Jvm.Cond.and _ .tt).before a A.U = true; rw [Cond.before_and, mv hU wc]; rfl, mv hU wc, mv hU wz, hp.2.2.1, hp.2.2.2⟩)
    (fun m meth c A a g mk Y hp => ⟨hp.1, wtrans (s := s.setVm vm0) hZ Y.warmed, hp.2.1, (CHv.at Y hZ hEL H).1, fun x hx => ⟨(hos x hx).1, (CHv.at Y hZ hEL H).safe (hos x hx).1 (hos x hx).2⟩⟩) (fun _ _ _ _ _ _ _ _ _ => trivial)
    (fun _ _ _ _ ⟨v, L, h1, h2, h3, h4⟩ => ⟨L, _, _, h4, rfl, rfl, ⟨v, h1, h2⟩, h3⟩)
    (fun m meth c A a g mk v t L k n Y hp _ _ ⟨e1, e2, ⟨v', e3, e4⟩, e5⟩ => by
      cases e3; subst e1 e2
      refine ⟨L, e4, rfl, rfl, rfl, (CHv.at Y hZ hEL H).trans ?_⟩
      rw [← hp.2.1]; exact e5)
theorem Rn.calledW {st : List Value} {os' ws' : List Addr} {Q' : Option Value → Heap → Prop} {rm : Room} (hws : ∀ x ∈ ws', x ∈ ws ∨ hS.size ≤ x) (hos : ∀ x ∈ os', x ∈ os)
    (k : ∀ v h', Keep h h' ws' → Q' v h' → Rn true Z EL own nm bytes ml ret R hS ws Q os (cells + rm.cells) (slots + rm.slots) h' pc' Ls (v.toList ++ rest))
    (f : ∀ (p : Program) (l : Launch) (e : Env) (s : State) (vm0 : Vm) (m : MethodId) (args : Array Value) (below : List Frame) (meth : Method) (c : Code) (T : State) (locs : List Loc), p.tables.exec = Jvm.exec → c.code = bytes → c.maxLocals = ml → Stand p l e R (s.setVm vm0) m args below meth c T locs cells slots → Z.Warmed39 vm0 → (s.setVm vm0).vm.findClass own = some m.cls → T.heap = h → Ext Z.heap h → (∀ x ∈ ws', Z.heap.size ≤ x) → CHv Z EL vm0 h → (∀ x ∈ os', x < h.size ∧ Safe Z EL vm0 h x) →
      ∃ (v : Option Value) (B : Pt), Stand p l e R ((s.setVm vm0).setVm B.U.vm) m args below meth c B.U B.locs B.cells B.slots ∧ (s.setVm vm0).Since B.U.vm B.U.heap.size ∧ T.heap.size ≤ B.U.heap.size ∧ (∃ L, (Fr Z.heap.size L ∧ Keep h B.U.heap ws' ∧ Q' v B.U.heap) ∧ B.locs = locs ++ L ∧ B.cells = cells + rm.cells ∧ B.slots = slots + rm.slots ∧ CHr Z EL vm0 h B.U.vm B.U.heap) ∧ ∀ t, Steps p.tables e below (B.U.setTop (mkF m pc' Ls (v.toList ++ rest))) t → Steps p.tables e below (T.setTop (mkF m pc Ls st)) t) :
    Rn true Z EL own nm bytes ml ret R hS ws Q os cells slots h pc Ls st := by
  intro p l e s vm0 m args below meth c T locs ok X sn fr K O eT
  have X0 : Old Z Z.heap.size h := Old.keep (h := hS) ⟨rfl, O.1⟩ K O.2
  obtain ⟨hx, hby, hml, hZ, hown, hnm, hret, hlk⟩ := ok
  obtain ⟨⟨k0, hS0, hk0⟩, hC, -, hs0⟩ := id sn
  obtain ⟨v, ⟨U, L', c', s'⟩, X', hS1, hg, ⟨L, ⟨f1, K', q'⟩, e1, e2, e3, C⟩, stp⟩ := f p l e s vm0 m args below meth c T locs hx hby hml X hZ hown eT X0.2 (fun x hx => ge_of O (hws x hx)) hC.1 (fun x hx => hs0 x (hos x hx))
  dsimp only [Pt.U, Pt.locs, Pt.cells, Pt.slots] at X' K' q' e1 e2 e3 stp C hS1 hg
  subst e1 e2 e3
  obtain ⟨X2, hS2, hZ2, hown2⟩ := rebS hS0 hk0 X' hS1 (by rw [← eT]; exact hg) hZ hown
  exact (k v U.heap K' q' p l e s U.vm m args below meth c U _ ⟨hx, hby, hml, hZ2, hown2, hnm, hret, hlk⟩ X2 (sn.later hS2 (Nat.le_refl _) C) (fr.app f1) (K.trans K' hws) O rfl).pre stp
theorem Rn.callSW {ix : Nat} {y : MethodName} {yb : ByteArray} {yl : Nat} {yr : Option FieldType} {rm : Room} {as : Array Value} {os' ws' : List Addr} {Q' : Option Value → Heap → Prop} {argsL : List Value} {st : List Value} (hE : EW Z a0 EL)
    (C : CtW Z EL y yb yl yr rm as h os' ws' Q') (w1 : (Jvm.Cond.methodLink own ix y).before a0 Z = true) (w2 : (Jvm.Cond.static y).before a0 Z = true) (w3 : (Jvm.Cond.initialized y.cls).before a0 Z = true) (w4 : (Jvm.Cond.code y yb yl yr).before a0 Z = true) (hy : y.cls ≠ "java/lang/invoke/MethodHandle" ∧ y.cls ≠ "java/lang/invoke/VarHandle")
    (hst : st = argsL.reverse ++ rest) (has : argsL.toArray = as) (hlen : ∀ sig, parseMethodDescriptor y.desc = some sig → argsL.length = sig.parameters.length) (hsz : Ls.size = ml) (hd : decode bytes pc = .ok (.invokestatic ix, 3)) (hp : pc + 3 = pc')
    (hf : rm.frames + 1 ≤ R.frames) (hl : (rest.map fun v => v.category).sum + (yl + 11) + rm.locals ≤ R.locals) (hc : cells + rm.cells ≤ R.cells) (hs : slots + rm.slots ≤ R.slots) (hws : ∀ x ∈ ws', x ∈ ws ∨ hS.size ≤ x) (hos : ∀ x ∈ os', x ∈ os)
    (k : ∀ v h', Keep h h' ws' → Q' v h' → Rn true Z EL own nm bytes ml ret R hS ws Q os (cells + rm.cells) (slots + rm.slots) h' pc' Ls (v.toList ++ rest)) : Rn true Z EL own nm bytes ml ret R hS ws Q os cells slots h pc Ls st := by
  refine Rn.calledW hws hos k fun p l e s vm0 m args below meth c T locs hx hby hml X hZ hown eT hO hge H hsf => ?_
  have hZ' : Z.Warmed39 (s.setVm vm0).vm := hZ
  obtain ⟨v, vm1, B, -, X', hS1, hg, ⟨L, q⟩, stp⟩ := callSS X hx (y := y) hown (mvT hZ' w1) (mvT hZ' w2) (mvT hZ' w3) (mvT hZ' w4) hy (backW (W := (rest.map fun v => v.category).sum) C hO hge hZ w4 w3 hf hl hE H hsf) (g := mkF m pc Ls st) rfl (hsz.trans hml.symm) (argsL := argsL) (rest := rest) hlen hst (by show 2 * 0 + _ ≤ _; omega) (hb hby hd) (fun _ _ => ⟨has, eT, hc, hs⟩)
  subst hp
  exact ⟨v, B, X', hS1, hg, ⟨L, q⟩, fun t r => stp.trans r⟩
theorem Rn.callIW {ix : Nat} {y : MethodName} {yb : ByteArray} {yl : Nat} {rm : Room} {as : Array Value} {os' ws' : List Addr} {Q' : Option Value → Heap → Prop} {a : Addr} {argsL : List Value} {st : List Value} (hE : EW Z a0 EL)
    (C : CtW Z EL y yb yl none rm as h os' ws' Q') (hy1 : y.name = "<init>") (w1 : (Jvm.Cond.methodLink own ix y).before a0 Z = true) (w2 : (Jvm.Cond.instanceMethod y).before a0 Z = true) (w3 : (Jvm.Cond.initialized y.cls).before a0 Z = true) (w4 : (Jvm.Cond.code y yb yl none).before a0 Z = true) (hy : y.cls ≠ "java/lang/invoke/MethodHandle" ∧ y.cls ≠ "java/lang/invoke/VarHandle")
    (hst : st = argsL.reverse ++ .ref a :: rest) (has : (.ref a :: argsL).toArray = as) (hlen : ∀ sig, parseMethodDescriptor y.desc = some sig → argsL.length = sig.parameters.length) (hsz : Ls.size = ml) (hd : decode bytes pc = .ok (.invokespecial ix, 3)) (hp : pc + 3 = pc')
    (hf : rm.frames + 1 ≤ R.frames) (hl : (rest.map fun v => v.category).sum + (yl + 11) + rm.locals ≤ R.locals) (hc : cells + rm.cells ≤ R.cells) (hs : slots + rm.slots ≤ R.slots) (hws : ∀ x ∈ ws', x ∈ ws ∨ hS.size ≤ x) (hos : ∀ x ∈ os', x ∈ os)
    (k : ∀ v h', Keep h h' ws' → Q' v h' → Rn true Z EL own nm bytes ml ret R hS ws Q os (cells + rm.cells) (slots + rm.slots) h' pc' Ls (v.toList ++ rest)) : Rn true Z EL own nm bytes ml ret R hS ws Q os cells slots h pc Ls st := by
  refine Rn.calledW hws hos k fun p l e s vm0 m args below meth c T locs hx hby hml X hZ hown eT hO hge H hsf => ?_
  have hZ' : Z.Warmed39 (s.setVm vm0).vm := hZ
  obtain ⟨v, vm1, B, -, X', hS1, hg, ⟨L, q⟩, stp⟩ := X.specialBackS hx (y := y) hy1 hown (mvT hZ' w1) (mvT hZ' w2) (mvT hZ' w4) hy (backW (W := (rest.map fun v => v.category).sum) C hO hge hZ w4 w3 hf hl hE H hsf) (g := mkF m pc Ls st) rfl (hsz.trans hml.symm) (Steps.refl _) (a := a) (argsL := argsL) (rest := rest) hlen hst (by show 2 * 0 + _ ≤ _; omega) (hb hby hd) (fun _ _ => ⟨has, eT, hc, hs⟩)
  subst hp
  exact ⟨v, B, X', hS1, hg, ⟨L, q⟩, fun t r => stp.trans r⟩
theorem Rn.callVW {ix : Nat} {C0 : String} {y z : MethodName} {yb : ByteArray} {yl : Nat} {yr : Option FieldType} {rm : Room} {as : Array Value} {os' ws' : List Addr} {Q' : Option Value → Heap → Prop} {a : Addr} {argsL : List Value} {st : List Value} (hE : EW Z a0 EL)
    (C : CtW Z EL z yb yl yr rm as h os' ws' Q') (E : Exa Z h a C0) (w1 : (Jvm.Cond.methodLink own ix y).before a0 Z = true) (w2 : (Jvm.Cond.declares y).before a0 Z = true) (nf : ∀ s : State, Z.Warmed39 s.vm → NotFace s y) (w5 : (Jvm.Cond.selects C0 y z).before a0 Z = true) (w6 : (Jvm.Cond.instanceMethod z).before a0 Z = true) (w3 : (Jvm.Cond.initialized z.cls).before a0 Z = true) (w4 : (Jvm.Cond.code z yb yl yr).before a0 Z = true) (hy : y.cls ≠ "java/lang/invoke/MethodHandle" ∧ y.cls ≠ "java/lang/invoke/VarHandle")
    (hst : st = argsL.reverse ++ .ref a :: rest) (has : (.ref a :: argsL).toArray = as) (hlen : ∀ sig, parseMethodDescriptor y.desc = some sig → argsL.length = sig.parameters.length) (hsz : Ls.size = ml) (hd : decode bytes pc = .ok (.invokevirtual ix, 3)) (hp : pc + 3 = pc')
    (hf : rm.frames + 1 ≤ R.frames) (hl : (rest.map fun v => v.category).sum + (yl + 11) + rm.locals ≤ R.locals) (hc : cells + rm.cells ≤ R.cells) (hs : slots + rm.slots ≤ R.slots) (hws : ∀ x ∈ ws', x ∈ ws ∨ hS.size ≤ x) (hos : ∀ x ∈ os', x ∈ os)
    (k : ∀ v h', Keep h h' ws' → Q' v h' → Rn true Z EL own nm bytes ml ret R hS ws Q os (cells + rm.cells) (slots + rm.slots) h' pc' Ls (v.toList ++ rest)) : Rn true Z EL own nm bytes ml ret R hS ws Q os cells slots h pc Ls st := by
  refine Rn.calledW hws hos k fun p l e s vm0 m args below meth c T locs hx hby hml X hZ hown eT hO hge H hsf => ?_
  have hZ' : Z.Warmed39 (s.setVm vm0).vm := hZ
  obtain ⟨cq, kq, qa, qb, qc⟩ := isOf hZ' eT E
  obtain ⟨v, vm1, B, -, X', hS1, hg, ⟨L, q⟩, stp⟩ := X.virtualBackS hx (y := y) (z := z) hown (mvT hZ' w1) (mvT hZ' w2) (nf _ hZ') (mvT hZ' w5) (mvT hZ' w6) hy (backW (W := (rest.map fun v => v.category).sum) C hO hge hZ w4 w3 hf hl hE H hsf) qa qc (g := mkF m pc Ls st) rfl (hsz.trans hml.symm) (Steps.refl _) (argsL := argsL) (rest := rest) hlen hst (by show 2 * 0 + _ ≤ _; omega) (hb hby hd) (fun _ _ => ⟨has, eT, hc, hs⟩)
  subst hp
  exact ⟨v, B, X', hS1, hg, ⟨L, q⟩, fun t r => stp.trans r⟩
end Wide
section Strs
variable {Z : State} {h h' : Heap} {x t : Addr} {bs : List Value}
/-- a String of Latin-1 bytes -/
def Sg (Z : State) (h : Heap) (x t : Addr) (bs : List Value) : Prop := Exa Z h x "java/lang/String" ∧ Fld Z h x "java/lang/String" "coder" "B" (.int (0 : Int32)) ∧ Fld Z h x "java/lang/String" "value" "[B" (.ref t) ∧ Ax Z h t .byte bs
theorem Sg.lt (F : Sg Z h x t bs) : x < h.size := F.1.lt
theorem Sg.ltt (F : Sg Z h x t bs) : t < h.size := F.2.2.2.lt
theorem Sg.ext (F : Sg Z h x t bs) (E : Ext h h') : Sg Z h' x t bs := ⟨F.1.ext E, F.2.1.ext E, F.2.2.1.ext E, F.2.2.2.ext E⟩
theorem Sg.keep {ws : List Addr} (F : Sg Z h x t bs) (K : Keep h h' ws) (q : x ∉ ws) (r : t ∉ ws) : Sg Z h' x t bs := ⟨F.1.keep K, F.2.1.keep K q, F.2.2.1.keep K q, F.2.2.2.keep K r⟩
/-- the low byte, signed -/
def b8 (c : Int32) : Int32 := c.toInt8.toInt32
theorem nar_b8 (c : Int32) : nar .byte (b8 c) = b8 c := by
  show (c.toInt8.toInt32).toInt8.toInt32 = c.toInt8.toInt32
  rw [Int8.toInt8_toInt32]
theorem b8_fits (c : Int32) : fits .byte (.int (b8 c)) = true := fits_nar_byte c
end Strs
theorem own_if_t {p : Prop} [Decidable p] (h : p) : (some (Value.int (nar .boolean 1)) : Option Value) = some (.int (if p then 1 else 0)) := by rw [if_pos h]; rfl
theorem own_if_f {p : Prop} [Decidable p] (h : ¬ p) : (some (Value.int (nar .boolean 0)) : Option Value) = some (.int (if p then 1 else 0)) := by rw [if_neg h]; rfl
theorem pd_0 : parseMethodDescriptor "(C)Z" = some ⟨[.char], some .boolean⟩ := by decide +kernel
theorem pd_1 : parseMethodDescriptor "(C)[B" = some ⟨[.char], some (.array .byte)⟩ := by decide +kernel
theorem pd_2 : parseMethodDescriptor "([BB)V" = some ⟨[(.array .byte), .byte], none⟩ := by decide +kernel
theorem pd_3 : parseMethodDescriptor "([CI[BII)I" = some ⟨[(.array .char), .int, (.array .byte), .int, .int], some .int⟩ := by decide +kernel
theorem pd_4 : parseMethodDescriptor "([CII)[B" = some ⟨[(.array .char), .int, .int], some (.array .byte)⟩ := by decide +kernel
theorem pd_5 : parseMethodDescriptor "([BI)B" = some ⟨[(.array .byte), .int], some .byte⟩ := by decide +kernel
theorem pd_6 : parseMethodDescriptor "([CIILjava/lang/Void;)V" = some ⟨[(.array .char), .int, .int, (.object "java/lang/Void")], none⟩ := by decide +kernel
theorem pd_7 : parseMethodDescriptor "([C)V" = some ⟨[(.array .char)], none⟩ := by decide +kernel
theorem pd_8 : parseMethodDescriptor "(C)Ljava/lang/String;" = some ⟨[.char], some (.object "java/lang/String")⟩ := by decide +kernel
theorem pd_9 : parseMethodDescriptor "(Ljava/lang/Object;Ljava/lang/String;)Ljava/lang/Object;" = some ⟨[(.object "java/lang/Object"), (.object "java/lang/String")], some (.object "java/lang/Object")⟩ := by decide +kernel
theorem pd_10 : parseMethodDescriptor "()Z" = some ⟨[], some .boolean⟩ := by decide +kernel
theorem pd_11 : parseMethodDescriptor "(Ljava/lang/String;Ljava/lang/String;)Ljava/lang/String;" = some ⟨[(.object "java/lang/String"), (.object "java/lang/String")], some (.object "java/lang/String")⟩ := by decide +kernel
theorem pd_12 : parseMethodDescriptor "([B[B)Z" = some ⟨[(.array .byte), (.array .byte)], some .boolean⟩ := by decide +kernel
theorem pd_13 : parseMethodDescriptor "(Ljava/lang/Object;)Z" = some ⟨[(.object "java/lang/Object")], some .boolean⟩ := by decide +kernel
theorem pd_14 : parseMethodDescriptor "(I)Ljava/lang/String;" = some ⟨[.int], some (.object "java/lang/String")⟩ := by decide +kernel
theorem pd_15 : parseMethodDescriptor "(Ljava/lang/String;Ljava/lang/String;)V" = some ⟨[(.object "java/lang/String"), (.object "java/lang/String")], none⟩ := by decide +kernel
theorem pd_16 : parseMethodDescriptor "(II)Z" = some ⟨[.int, .int], some .boolean⟩ := by decide +kernel
theorem pn_0 : plainName "java/lang/StringLatin1" = true := by first | (simp [plainName, overriddenIn]; done) | decide +kernel
theorem pn_1 : plainName "java/lang/String" = true := by first | (simp [plainName, overriddenIn]; done) | decide +kernel
theorem pn_2 : plainName "java/lang/StringUTF16" = true := by first | (simp [plainName, overriddenIn]; done) | decide +kernel
theorem pn_3 : plainName "com/example/local_quorum/localquorum/PermissionEqualsPinLaw" = true := by first | (simp [plainName, overriddenIn]; done) | decide +kernel
theorem pn_4 : plainName "java/util/Objects" = true := by first | (simp [plainName, overriddenIn]; done) | decide +kernel
theorem pn_5 : plainName "com/example/local_quorum/localquorum/Names" = true := by first | (simp [plainName, overriddenIn]; done) | decide +kernel
theorem pn_6 : plainName "com/example/local_quorum/localquorum/Permission" = true := by first | (simp [plainName, overriddenIn]; done) | decide +kernel
/-- a char below 256 -/
def own_B (y : Int32) : Prop := (¬ 255 < y ∧ ¬ y < 0) ∧ nar .char y = y
theorem own_b (x : Int32) : own_B (x &&& (255 : Int32)) := by
  have h := c_and x 255 (by decide)
  have e : (255 : Int32).toInt = 255 := rfl
  rw [e] at h
  refine ⟨⟨?_, ?_⟩, i2c_mask x⟩ <;> rw [Int32.lt_iff_toInt_lt]
  · rw [e]; omega
  · have e0 : (0 : Int32).toInt = 0 := rfl
    rw [e0]; omega
theorem own_b8 {x y : Int32} (hx : own_B x) (hy : own_B y) (h : b8 x = b8 y) : x = y := by
  have h1 := c_i2b x
  have h2 := c_i2b y
  have e : b8 x = x.toInt8.toInt32 := rfl
  have e' : b8 y = y.toInt8.toInt32 := rfl
  rw [e, e'] at h
  rw [h] at h1
  obtain ⟨⟨a1, a2⟩, -⟩ := hx
  obtain ⟨⟨b1, b2⟩, -⟩ := hy
  rw [Int32.lt_iff_toInt_lt] at a1 a2 b1 b2
  have e5 : (255 : Int32).toInt = 255 := rfl
  have e0 : (0 : Int32).toInt = 0 := rfl
  exact Int32.toInt_inj.mp (by omega)
theorem own_wS {Z : State} {a0 : Array Value} (hw : ∀ d ∈ tables_1, d.before a0 Z = true) : ∀ a ∈ Bundle.stringAtoms, a.before a0 Z = true := by
  intro a ha
  simp only [Bundle.stringAtoms, List.mem_cons, List.not_mem_nil, or_false] at ha
  rcases ha with rfl | rfl | rfl | rfl | rfl | rfl | rfl
  · exact (hw _ (List.mem_of_getElem? (i := 9) rfl))
  · exact (hw _ (List.mem_of_getElem? (i := 17) rfl))
  · exact (hw _ (List.mem_of_getElem? (i := 21) rfl))
  · exact (hw _ (List.mem_of_getElem? (i := 30) rfl))
  · exact (hw _ (List.mem_of_getElem? (i := 32) rfl))
  · exact (hw _ (List.mem_of_getElem? (i := 38) rfl))
  · exact (hw _ (List.mem_of_getElem? (i := 39) rfl))
def own_nb (x : Int32) : Int32 := XT.ushr x (16 : Int32) &&& (1 : Int32)
def own_c0 (x : Int32) : Int32 := x &&& (255 : Int32)
def own_c1 (x : Int32) : Int32 := XT.ushr x (8 : Int32) &&& (255 : Int32)
def own_bs (x : Int32) : List Int32 := if own_nb x = 0 then [b8 (own_c0 x)] else [b8 (own_c0 x), b8 (own_c1 x)]
def own_bv (x : Int32) : List Value := (own_bs x).map Value.int
theorem own_bs1 {x : Int32} (h : own_nb x = 0) : own_bs x = [b8 (own_c0 x)] := if_pos h
theorem own_bs2 {x : Int32} (h : ¬ own_nb x = 0) : own_bs x = [b8 (own_c0 x), b8 (own_c1 x)] := if_neg h
theorem own_nb01 (x : Int32) : own_nb x = 0 ∨ own_nb x = 1 := by
  have h := c_and (XT.ushr x (16 : Int32)) 1 (by decide)
  have e : (1 : Int32).toInt = 1 := rfl
  rw [e] at h
  have t : ∀ j : Int32, (own_nb x).toInt = j.toInt → own_nb x = j := fun j q => Int32.toInt_inj.mp q
  have h' : 0 ≤ (own_nb x).toInt ∧ (own_nb x).toInt ≤ 1 := h
  rcases (by omega : (own_nb x).toInt = 0 ∨ (own_nb x).toInt = 1) with q | q
  · exact Or.inl (t 0 q)
  · exact Or.inr (t 1 q)
theorem own_same1 {x y : Int32} (h : ¬ own_nb x = own_nb y) : ¬ own_bs x = own_bs y := by
  intro e
  rcases own_nb01 x with hx | hx <;> rcases own_nb01 y with hy | hy
  · exact h (hx.trans hy.symm)
  · rw [own_bs1 hx, own_bs2 (by rw [hy]; decide)] at e; exact absurd e (by simp)
  · rw [own_bs1 hy, own_bs2 (by rw [hx]; decide)] at e; exact absurd e (by simp)
  · exact h (hx.trans hy.symm)
theorem own_hd {x y : Int32} (e : own_bs x = own_bs y) : own_c0 x = own_c0 y := by
  refine own_b8 (own_b x) (own_b y) ?_
  by_cases hx : own_nb x = 0 <;> by_cases hy : own_nb y = 0
  · rw [own_bs1 hx, own_bs1 hy] at e; exact (List.cons.inj e).1
  · rw [own_bs1 hx, own_bs2 hy] at e; exact (List.cons.inj e).1
  · rw [own_bs2 hx, own_bs1 hy] at e; exact (List.cons.inj e).1
  · rw [own_bs2 hx, own_bs2 hy] at e; exact (List.cons.inj e).1
theorem own_tl {x y : Int32} (hx : ¬ own_nb x = 0) (h : own_nb x = own_nb y) (e : own_bs x = own_bs y) : own_c1 x = own_c1 y := by
  refine own_b8 (own_b _) (own_b _) ?_
  rw [own_bs2 hx, own_bs2 (by rw [← h]; exact hx)] at e; exact (List.cons.inj (List.cons.inj e).2).1
theorem own_eq1 {x y : Int32} (hx : own_nb x = 0) (h : own_nb x = own_nb y) (e : own_c0 x = own_c0 y) : own_bs x = own_bs y := by
  rw [own_bs1 hx, own_bs1 (h ▸ hx), e]
theorem own_eq2 {x y : Int32} (hx : ¬ own_nb x = 0) (h : own_nb x = own_nb y) (e : own_c0 x = own_c0 y) (e' : own_c1 x = own_c1 y) : own_bs x = own_bs y := by
  rw [own_bs2 hx, own_bs2 (h ▸ hx), e, e']
theorem d2_0 : decode jdk_43_method_3_code 0 = .ok (.iload_n 0, 1) := by decide +kernel
theorem d2_1 : decode jdk_43_method_3_code 1 = .ok (.sipush 255, 3) := by decide +kernel
theorem d2_4 : decode jdk_43_method_3_code 4 = .ok (.if_icmp .gt 7, 3) := by decide +kernel
theorem d2_7 : decode jdk_43_method_3_code 7 = .ok (.iconst 1, 1) := by decide +kernel
theorem d2_8 : decode jdk_43_method_3_code 8 = .ok (.goto 4, 3) := by decide +kernel
theorem d2_11 : decode jdk_43_method_3_code 11 = .ok (.iconst 0, 1) := by decide +kernel
theorem d2_12 : decode jdk_43_method_3_code 12 = .ok (.ireturn, 1) := by decide +kernel
set_option maxRecDepth 65536 in
set_option maxHeartbeats 40000000 in
theorem ct_cenc (Z : State) (a0 : Array Value) (hw : ∀ d ∈ tables_1, d.before a0 Z = true) (c : Int32) (hp : ¬ 255 < c) (h0 : Heap) :
    Ct Z ⟨"java/lang/StringLatin1", "canEncode", "(C)Z"⟩ jdk_43_method_3_code 1 (Option.some FieldType.boolean) ({ frames := 0, cells := 0, slots := 0, locals := 0 } : Room) #[(.int c)] h0 [] (fun v h => v = some (.int (1 : Int32)) ∧ h0 = h) := by
  refine Ct.intro (Ls := #[.val (.int c)]) pn_0 (by intro m; first | (simp [entryFrame, mkF, argsToLocals, Value.category]; done) | rfl) ?_
  refine Rn.iloadN (pc' := 1) d2_0 rfl rfl ?_
  refine Rn.sipush (pc' := 4) (v := (255 : Int32)) d2_1 rfl rfl ?_
  refine Rn.icmp_gt (pc' := 11) (pn := 7) d2_4 (by decide) (by decide) rfl (fun cq1 => absurd cq1 hp) (fun cq1 => ?_)
  refine Rn.iconst (pc' := 8) (v := (1 : Int32)) d2_7 rfl rfl ?_
  refine Rn.goto (pc' := 12) d2_8 (by decide) (by decide) ?_
  refine Rn.retN (t := .boolean) rfl (by simp) d2_12 (Nat.le_of_ble_eq_true rfl) (Nat.le_of_ble_eq_true rfl) ?_
  exact ⟨rfl, rfl⟩
theorem d3_0 : decode jdk_43_method_46_code 0 = .ok (.iconst 1, 1) := by decide +kernel
theorem d3_1 : decode jdk_43_method_46_code 1 = .ok (.newarray .byte, 2) := by decide +kernel
theorem d3_3 : decode jdk_43_method_46_code 3 = .ok (.dup, 1) := by decide +kernel
theorem d3_4 : decode jdk_43_method_46_code 4 = .ok (.iconst 0, 1) := by decide +kernel
theorem d3_5 : decode jdk_43_method_46_code 5 = .ok (.iload_n 0, 1) := by decide +kernel
theorem d3_6 : decode jdk_43_method_46_code 6 = .ok (.i2b, 1) := by decide +kernel
theorem d3_7 : decode jdk_43_method_46_code 7 = .ok (.bastore, 1) := by decide +kernel
theorem d3_8 : decode jdk_43_method_46_code 8 = .ok (.areturn, 1) := by decide +kernel
set_option maxRecDepth 65536 in
set_option maxHeartbeats 40000000 in
theorem ct_tob (Z : State) (a0 : Array Value) (hw : ∀ d ∈ tables_1, d.before a0 Z = true) (c : Int32) (h0 : Heap) :
    Ct Z ⟨"java/lang/StringLatin1", "toBytes", "(C)[B"⟩ jdk_43_method_46_code 1 (Option.some (FieldType.array FieldType.byte)) ({ frames := 0, cells := 1, slots := 1, locals := 0 } : Room) #[(.int c)] h0 [] (fun v h => ∃ t, v = some (.ref t) ∧ h0.size ≤ t ∧ Ax Z h t .byte [.int (b8 c)]) := by
  refine Ct.intro (Ls := #[.val (.int c)]) pn_0 (by intro m; first | (simp [entryFrame, mkF, argsToLocals, Value.category]; done) | rfl) ?_
  refine Rn.iconst (pc' := 1) (v := (1 : Int32)) d3_0 rfl rfl ?_
  refine Rn.newP (pc' := 3) (cap := 1) (ty := .byte) (ad := "[B") (hw _ (List.mem_of_getElem? (i := 21) rfl)) rfl rfl d3_1 (by decide) (Nat.le_of_ble_eq_true rfl) (by decide) (Nat.le_of_ble_eq_true rfl) (Nat.le_of_ble_eq_true rfl) rfl (fun hq2 aq1 eq3 gq4 Eq5 ⟨Aq6, Bq7⟩ => ?_)
  have Aq8 : Ax Z hq2 aq1 .byte ([.int (0 : Int32)]) := Aq6
  refine Rn.dup (pc' := 4) d3_3 rfl rfl ?_
  refine Rn.iconst (pc' := 5) (v := (0 : Int32)) d3_4 rfl rfl ?_
  refine Rn.iloadN (pc' := 6) d3_5 rfl rfl ?_
  refine Rn.i2b (pc' := 7) (v := (b8 c)) d3_6 rfl rfl ?_
  refine Rn.bastore (pc' := 8) (v := .int (b8 c)) Aq8 (by decide) (Nat.le_of_ble_eq_true rfl) (congrArg Value.int (nar_b8 c)) (Or.inr gq4) Sf.no d3_7 rfl (fun hq10 Wq9 Aq11 => ?_)
  have Aq12 : Ax Z hq10 aq1 .byte ([.int (b8 c)]) := Aq11
  refine Rn.retA (t := (.array .byte)) rfl rfl rfl d3_8 (Nat.le_of_ble_eq_true rfl) (Nat.le_of_ble_eq_true rfl) ?_
  exact ⟨_, rfl, gq4, Aq12⟩
theorem d4_0 : decode jdk_42_method_151_code 0 = .ok (.aload_n 0, 1) := by decide +kernel
theorem d4_1 : decode jdk_42_method_151_code 1 = .ok (.invokespecial 1, 3) := by decide +kernel
theorem d4_4 : decode jdk_42_method_151_code 4 = .ok (.aload_n 0, 1) := by decide +kernel
theorem d4_5 : decode jdk_42_method_151_code 5 = .ok (.aload_n 1, 1) := by decide +kernel
theorem d4_6 : decode jdk_42_method_151_code 6 = .ok (.putfield 9, 3) := by decide +kernel
theorem d4_9 : decode jdk_42_method_151_code 9 = .ok (.aload_n 0, 1) := by decide +kernel
theorem d4_10 : decode jdk_42_method_151_code 10 = .ok (.iload_n 2, 1) := by decide +kernel
theorem d4_11 : decode jdk_42_method_151_code 11 = .ok (.putfield 15, 3) := by decide +kernel
theorem d4_14 : decode jdk_42_method_151_code 14 = .ok (.return_, 1) := by decide +kernel
set_option maxRecDepth 65536 in
set_option maxHeartbeats 40000000 in
theorem ct_sib (Z : State) (a0 : Array Value) (hw : ∀ d ∈ tables_1, d.before a0 Z = true) (x t : Addr) (bs : List Value) (h0 : Heap) (E : Exa Z h0 x "java/lang/String") (V : Fld Z h0 x "java/lang/String" "value" "[B" .null) (Co : Fld Z h0 x "java/lang/String" "coder" "B" (.int (0 : Int32))) (A : Ax Z h0 t .byte bs) (hn : t ≠ x) :
    Ct Z ⟨"java/lang/String", "<init>", "([BB)V"⟩ jdk_42_method_151_code 3 (Option.none : Option FieldType) ({ frames := 1, cells := 0, slots := 0, locals := 12 } : Room) #[(.ref x), (.ref t), (.int (0 : Int32))] h0 [x] (fun v h => v = none ∧ Sg Z h x t bs) := by
  refine Ct.intro (Ls := #[.val (.ref x), .val (.ref t), .val (.int (0 : Int32))]) pn_1 (by intro m; first | (simp [entryFrame, mkF, argsToLocals, Value.category]; done) | rfl) ?_
  refine Rn.aloadN (pc' := 1) d4_0 rfl rfl rfl ?_
  refine Rn.initO (pc' := 4) (hw _ (List.mem_of_getElem? (i := 26) rfl)) (hw _ (List.mem_of_getElem? (i := 27) rfl)) (hw _ (List.mem_of_getElem? (i := 28) rfl)) rfl d4_1 (Nat.le_of_ble_eq_true rfl) (Nat.le_of_ble_eq_true rfl) rfl ?_
  refine Rn.aloadN (pc' := 5) d4_4 rfl rfl rfl ?_
  refine Rn.aloadN (pc' := 6) d4_5 rfl rfl rfl ?_
  refine Rn.putF (pc' := 9) (hw _ (List.mem_of_getElem? (i := 29) rfl)) Via.refl V E (Or.inr ⟨(hw _ (List.mem_of_getElem? (i := 30) rfl)), rfl, rfl⟩) (hw _ (List.mem_of_getElem? (i := 17) rfl)) (ty := (.array .byte)) (by decide) rfl rfl (Or.inl (List.mem_of_getElem? (i := 0) rfl)) Sf.no d4_6 rfl (fun hq2 Wq1 => ?_)
  have Fq3 := V.same Wq1
  refine Rn.aloadN (pc' := 10) d4_9 rfl rfl rfl ?_
  refine Rn.iloadN (pc' := 11) d4_10 rfl rfl ?_
  have Fq4 := Co.other Wq1 (Or.inr (slot_ne (t := .byte) (t' := (.array .byte)) (Or.inr (hw _ (List.mem_of_getElem? (i := 32) rfl))) (Or.inr (hw _ (List.mem_of_getElem? (i := 30) rfl))) (by decide) (by decide) (by decide)))
  have Fq5 := E.wr Wq1
  refine Rn.putF (pc' := 14) (hw _ (List.mem_of_getElem? (i := 31) rfl)) Via.refl Fq4 Fq5 (Or.inr ⟨(hw _ (List.mem_of_getElem? (i := 32) rfl)), rfl, rfl⟩) (hw _ (List.mem_of_getElem? (i := 17) rfl)) (ty := .byte) (by decide) rfl rfl (Or.inl (List.mem_of_getElem? (i := 0) rfl)) Sf.no d4_11 rfl (fun hq7 Wq6 => ?_)
  have Fq8 := Fq4.same Wq6
  refine Rn.retV rfl d4_14 (Nat.le_of_ble_eq_true rfl) (Nat.le_of_ble_eq_true rfl) ?_
  have Fq9 := Fq5.wr Wq6
  have Fq10 := Fq3.other Wq6 (Or.inr (slot_ne (t := (.array .byte)) (t' := .byte) (Or.inr (hw _ (List.mem_of_getElem? (i := 30) rfl))) (Or.inr (hw _ (List.mem_of_getElem? (i := 32) rfl))) (by decide) (by decide) (by decide)))
  have Fq11 := A.other Wq1 hn
  have Fq12 := Fq11.other Wq6 hn
  exact ⟨rfl, Fq9, Fq8, Fq10, Fq12⟩
theorem d1_0 : decode jdk_42_method_139_code 0 = .ok (.getstatic 38, 3) := by decide +kernel
theorem d1_3 : decode jdk_42_method_139_code 3 = .ok (.ifCond .eq 23, 3) := by decide +kernel
theorem d1_6 : decode jdk_42_method_139_code 6 = .ok (.iload_n 0, 1) := by decide +kernel
theorem d1_7 : decode jdk_42_method_139_code 7 = .ok (.invokestatic 1015, 3) := by decide +kernel
theorem d1_10 : decode jdk_42_method_139_code 10 = .ok (.ifCond .eq 16, 3) := by decide +kernel
theorem d1_13 : decode jdk_42_method_139_code 13 = .ok (.new 10, 3) := by decide +kernel
theorem d1_16 : decode jdk_42_method_139_code 16 = .ok (.dup, 1) := by decide +kernel
theorem d1_17 : decode jdk_42_method_139_code 17 = .ok (.iload_n 0, 1) := by decide +kernel
theorem d1_18 : decode jdk_42_method_139_code 18 = .ok (.invokestatic 1018, 3) := by decide +kernel
theorem d1_21 : decode jdk_42_method_139_code 21 = .ok (.iconst 0, 1) := by decide +kernel
theorem d1_22 : decode jdk_42_method_139_code 22 = .ok (.invokespecial 209, 3) := by decide +kernel
theorem d1_25 : decode jdk_42_method_139_code 25 = .ok (.areturn, 1) := by decide +kernel
theorem d1_26 : decode jdk_42_method_139_code 26 = .ok (.new 10, 3) := by decide +kernel
theorem d1_29 : decode jdk_42_method_139_code 29 = .ok (.dup, 1) := by decide +kernel
theorem d1_30 : decode jdk_42_method_139_code 30 = .ok (.iload_n 0, 1) := by decide +kernel
theorem d1_31 : decode jdk_42_method_139_code 31 = .ok (.invokestatic 1021, 3) := by decide +kernel
theorem d1_34 : decode jdk_42_method_139_code 34 = .ok (.iconst 1, 1) := by decide +kernel
theorem d1_35 : decode jdk_42_method_139_code 35 = .ok (.invokespecial 209, 3) := by decide +kernel
theorem d1_38 : decode jdk_42_method_139_code 38 = .ok (.areturn, 1) := by decide +kernel
set_option maxRecDepth 65536 in
set_option maxHeartbeats 40000000 in
theorem ct_vof (Z : State) (a0 : Array Value) (hw : ∀ d ∈ tables_1, d.before a0 Z = true) (c : Int32) (hp : ¬ 255 < c) (z : Int32) (hz : z ≠ 0) (h0 : Heap) (S : Sta Z Z.heap "java/lang/String" "COMPACT_STRINGS" "Z" (.int z)) :
    Ct Z ⟨"java/lang/String", "valueOf", "(C)Ljava/lang/String;"⟩ jdk_42_method_139_code 1 (Option.some (FieldType.object "java/lang/String")) ({ frames := 2, cells := 2, slots := 5, locals := 27 } : Room) #[(.int c)] h0 [] (fun v h => ∃ x t, v = some (.ref x) ∧ h0.size ≤ x ∧ h0.size ≤ t ∧ Sg Z h x t [.int (b8 c)]) := by
  refine Ct.intro (Ls := #[.val (.int c)]) pn_1 (by intro m; first | (simp [entryFrame, mkF, argsToLocals, Value.category]; done) | rfl) ?_
  refine Rn.old fun Oq1 _ => ?_
  refine Rn.getS (pc' := 3) (hw _ (List.mem_of_getElem? (i := 11) rfl)) Via.refl (S.ext Oq1) d1_0 rfl ?_
  refine Rn.if_eq (pc' := 26) (pn := 6) d1_3 (by decide) (by decide) rfl (fun cq2 => absurd cq2 hz) (fun cq2 => ?_)
  refine Rn.iloadN (pc' := 7) d1_6 rfl rfl ?_
  refine Rn.callS (pc' := 10) (argsL := [.int c]) (rest := []) (ct_cenc Z a0 hw c hp h0) (hw _ (List.mem_of_getElem? (i := 12) rfl)) (hw _ (List.mem_of_getElem? (i := 13) rfl)) (hw _ (List.mem_of_getElem? (i := 14) rfl)) (hw _ (List.mem_of_getElem? (i := 15) rfl)) (by decide) rfl rfl (lenOf pd_0 rfl) rfl d1_7 rfl (Nat.le_of_ble_eq_true rfl) (Nat.le_of_ble_eq_true rfl) (Nat.le_of_ble_eq_true rfl) (Nat.le_of_ble_eq_true rfl) (fun _ z => nomatch z) (fun _ z => nomatch z) (fun vq3 hq4 Kq5 qq6 => ?_)
  obtain ⟨rfl, rfl⟩ := qq6
  simp only [Option.toList, List.cons_append, List.nil_append]
  refine Rn.if_eq (pc' := 26) (pn := 13) d1_10 (by decide) (by decide) rfl (fun cq7 => absurd cq7 (by decide)) (fun cq7 => ?_)
  refine Rn.newO (pc' := 16) (hw _ (List.mem_of_getElem? (i := 16) rfl)) (hw _ (List.mem_of_getElem? (i := 17) rfl)) (hw _ (List.mem_of_getElem? (i := 9) rfl)) d1_13 (Nat.le_of_ble_eq_true rfl) (Nat.le_of_ble_eq_true rfl) rfl (fun hq9 aq8 eq10 gq11 Eq12 ⟨Aq13, Dq14, Uq15⟩ => ?_)
  have Fq16 : Fld Z hq9 aq8 "java/lang/String" "value" "[B" (.null) := Dq14 (Or.inr (hw _ (List.mem_of_getElem? (i := 30) rfl))) (ty := (.array .byte)) (by decide)
  have Fq17 : Fld Z hq9 aq8 "java/lang/String" "coder" "B" (.int (0 : Int32)) := Dq14 (Or.inr (hw _ (List.mem_of_getElem? (i := 32) rfl))) (ty := .byte) (by decide)
  refine Rn.dup (pc' := 17) d1_16 rfl rfl ?_
  refine Rn.iloadN (pc' := 18) d1_17 rfl rfl ?_
  refine Rn.callS (pc' := 21) (argsL := [.int c]) (rest := [.ref aq8, .ref aq8]) (ct_tob Z a0 hw c hq9) (hw _ (List.mem_of_getElem? (i := 18) rfl)) (hw _ (List.mem_of_getElem? (i := 19) rfl)) (hw _ (List.mem_of_getElem? (i := 14) rfl)) (hw _ (List.mem_of_getElem? (i := 20) rfl)) (by decide) rfl rfl (lenOf pd_1 rfl) rfl d1_18 rfl (Nat.le_of_ble_eq_true rfl) (Nat.le_of_ble_eq_true rfl) (Nat.le_of_ble_eq_true rfl) (Nat.le_of_ble_eq_true rfl) (fun _ z => nomatch z) (fun _ z => nomatch z) (fun vq18 hq19 Kq20 qq21 => ?_)
  obtain ⟨t, rfl, ht, At⟩ := qq21
  simp only [Option.toList, List.cons_append, List.nil_append]
  have nt : t ≠ aq8 := Ne.symm (Nat.ne_of_lt (Nat.lt_of_lt_of_le Aq13.lt ht))
  refine Rn.iconst (pc' := 22) (v := (0 : Int32)) d1_21 rfl rfl ?_
  have Fq22 := Aq13.keep Kq20
  have Fq23 := Fq16.keep Kq20 nin0
  have Fq24 := Fq17.keep Kq20 nin0
  refine Rn.callI (pc' := 25) (argsL := [.ref t, .int (0 : Int32)]) (a := aq8) (rest := [.ref aq8]) (ct_sib Z a0 hw aq8 t [.int (b8 c)] hq19 Fq22 Fq23 Fq24 At nt) rfl (hw _ (List.mem_of_getElem? (i := 22) rfl)) (hw _ (List.mem_of_getElem? (i := 23) rfl)) (hw _ (List.mem_of_getElem? (i := 9) rfl)) (hw _ (List.mem_of_getElem? (i := 25) rfl)) (by decide) rfl rfl (lenOf pd_2 rfl) rfl d1_22 rfl (Nat.le_of_ble_eq_true rfl) (Nat.le_of_ble_eq_true rfl) (Nat.le_of_ble_eq_true rfl) (Nat.le_of_ble_eq_true rfl) (allS (Or.inr gq11) all0) (allS Sf.no (all0)) (fun vq25 hq26 Kq27 qq28 => ?_)
  obtain ⟨rfl, G⟩ := qq28
  simp only [Option.toList, List.cons_append, List.nil_append]
  refine Rn.retA (t := (.object "java/lang/String")) rfl rfl rfl d1_25 (Nat.le_of_ble_eq_true rfl) (Nat.le_of_ble_eq_true rfl) ?_
  exact ⟨aq8, t, rfl, gq11, Nat.le_trans gq11 (Nat.le_trans (Nat.le_of_lt Aq13.lt) ht), G⟩
theorem d17_0 : decode jdk_52_method_21_code 0 = .ok (.iconst 0, 1) := by decide +kernel
theorem d17_1 : decode jdk_52_method_21_code 1 = .ok (.istore 5, 2) := by decide +kernel
theorem d17_3 : decode jdk_52_method_21_code 3 = .ok (.iload 5, 2) := by decide +kernel
theorem d17_5 : decode jdk_52_method_21_code 5 = .ok (.iload 4, 2) := by decide +kernel
theorem d17_7 : decode jdk_52_method_21_code 7 = .ok (.if_icmp .ge 37, 3) := by decide +kernel
theorem d17_10 : decode jdk_52_method_21_code 10 = .ok (.aload_n 0, 1) := by decide +kernel
theorem d17_11 : decode jdk_52_method_21_code 11 = .ok (.iload_n 1, 1) := by decide +kernel
theorem d17_12 : decode jdk_52_method_21_code 12 = .ok (.caload, 1) := by decide +kernel
theorem d17_13 : decode jdk_52_method_21_code 13 = .ok (.istore 6, 2) := by decide +kernel
theorem d17_15 : decode jdk_52_method_21_code 15 = .ok (.iload 6, 2) := by decide +kernel
theorem d17_17 : decode jdk_52_method_21_code 17 = .ok (.sipush 255, 3) := by decide +kernel
theorem d17_20 : decode jdk_52_method_21_code 20 = .ok (.if_icmp .le 6, 3) := by decide +kernel
theorem d17_23 : decode jdk_52_method_21_code 23 = .ok (.iload 5, 2) := by decide +kernel
theorem d17_25 : decode jdk_52_method_21_code 25 = .ok (.ireturn, 1) := by decide +kernel
theorem d17_26 : decode jdk_52_method_21_code 26 = .ok (.aload_n 2, 1) := by decide +kernel
theorem d17_27 : decode jdk_52_method_21_code 27 = .ok (.iload_n 3, 1) := by decide +kernel
theorem d17_28 : decode jdk_52_method_21_code 28 = .ok (.iload 6, 2) := by decide +kernel
theorem d17_30 : decode jdk_52_method_21_code 30 = .ok (.i2b, 1) := by decide +kernel
theorem d17_31 : decode jdk_52_method_21_code 31 = .ok (.bastore, 1) := by decide +kernel
theorem d17_32 : decode jdk_52_method_21_code 32 = .ok (.iinc 1 1, 3) := by decide +kernel
theorem d17_35 : decode jdk_52_method_21_code 35 = .ok (.iinc 3 1, 3) := by decide +kernel
theorem d17_38 : decode jdk_52_method_21_code 38 = .ok (.iinc 5 1, 3) := by decide +kernel
theorem d17_41 : decode jdk_52_method_21_code 41 = .ok (.goto (-38), 3) := by decide +kernel
theorem d17_44 : decode jdk_52_method_21_code 44 = .ok (.iload 4, 2) := by decide +kernel
theorem d17_46 : decode jdk_52_method_21_code 46 = .ok (.ireturn, 1) := by decide +kernel
set_option maxRecDepth 65536 in
set_option maxHeartbeats 40000000 in
theorem ct_cmpb2 (Z : State) (a0 : Array Value) (hw : ∀ d ∈ tables_1, d.before a0 Z = true) (src t : Addr) (c0 c1 : Int32) (hp0 : ¬ 255 < c0) (hp1 : ¬ 255 < c1) (h0 : Heap) (A : Ax Z h0 src .char [.int c0, .int c1]) (B : Ax Z h0 t .byte [.int (0 : Int32), .int (0 : Int32)]) (hn : src ≠ t) :
    Ct Z ⟨"java/lang/StringUTF16", "compress", "([CI[BII)I"⟩ jdk_52_method_21_code 7 (Option.some FieldType.int) ({ frames := 0, cells := 0, slots := 0, locals := 0 } : Room) #[(.ref src), (.int (0 : Int32)), (.ref t), (.int (0 : Int32)), (.int (2 : Int32))] h0 [t] (fun v h => v = some (.int (2 : Int32)) ∧ Ax Z h t .byte [.int (b8 c0), .int (b8 c1)]) := by
  refine Ct.intro (Ls := #[.val (.ref src), .val (.int (0 : Int32)), .val (.ref t), .val (.int (0 : Int32)), .val (.int (2 : Int32)), .unset, .unset]) pn_2 (by intro m; first | (simp [entryFrame, mkF, argsToLocals, Value.category]; done) | rfl) ?_
  refine Rn.iconst (pc' := 1) (v := (0 : Int32)) d17_0 rfl rfl ?_
  refine Rn.istore (pc' := 3) (Ls' := #[.val (.ref src), .val (.int (0 : Int32)), .val (.ref t), .val (.int (0 : Int32)), .val (.int (2 : Int32)), .val (.int (0 : Int32)), .unset]) d17_1 rfl rfl ?_
  refine Rn.iload (pc' := 5) d17_3 rfl rfl ?_
  refine Rn.iload (pc' := 7) d17_5 rfl rfl ?_
  refine Rn.icmp_ge (pc' := 44) (pn := 10) d17_7 (by decide) (by decide) rfl (fun cq1 => absurd cq1 (by decide)) (fun cq1 => ?_)
  refine Rn.aloadN (pc' := 11) d17_10 rfl rfl rfl ?_
  refine Rn.iloadN (pc' := 12) d17_11 rfl rfl ?_
  refine Rn.caload (pc' := 13) (v := .int c0) A (by decide) rfl d17_12 rfl ?_
  refine Rn.istore (pc' := 15) (Ls' := #[.val (.ref src), .val (.int (0 : Int32)), .val (.ref t), .val (.int (0 : Int32)), .val (.int (2 : Int32)), .val (.int (0 : Int32)), .val (.int c0)]) d17_13 rfl rfl ?_
  refine Rn.iload (pc' := 17) d17_15 rfl rfl ?_
  refine Rn.sipush (pc' := 20) (v := (255 : Int32)) d17_17 rfl rfl ?_
  refine Rn.icmp_le (pc' := 26) (pn := 23) d17_20 (by decide) (by decide) rfl (fun cq2 => ?_) (fun cq2 => absurd cq2 hp0)
  refine Rn.aloadN (pc' := 27) d17_26 rfl rfl rfl ?_
  refine Rn.iloadN (pc' := 28) d17_27 rfl rfl ?_
  refine Rn.iload (pc' := 30) d17_28 rfl rfl ?_
  refine Rn.i2b (pc' := 31) (v := (b8 c0)) d17_30 rfl rfl ?_
  refine Rn.bastore (pc' := 32) (v := .int (b8 c0)) B (by decide) (Nat.le_of_ble_eq_true rfl) (congrArg Value.int (nar_b8 c0)) (Or.inl (List.mem_of_getElem? (i := 0) rfl)) Sf.no d17_31 rfl (fun hq4 Wq3 Aq5 => ?_)
  have Aq6 : Ax Z hq4 t .byte ([.int (b8 c0), .int (0 : Int32)]) := Aq5
  refine Rn.iinc (pc' := 35) (v := (1 : Int32)) (Ls' := #[.val (.ref src), .val (.int (1 : Int32)), .val (.ref t), .val (.int (0 : Int32)), .val (.int (2 : Int32)), .val (.int (0 : Int32)), .val (.int c0)]) d17_32 rfl rfl rfl rfl ?_
  refine Rn.iinc (pc' := 38) (v := (1 : Int32)) (Ls' := #[.val (.ref src), .val (.int (1 : Int32)), .val (.ref t), .val (.int (1 : Int32)), .val (.int (2 : Int32)), .val (.int (0 : Int32)), .val (.int c0)]) d17_35 rfl rfl rfl rfl ?_
  refine Rn.iinc (pc' := 41) (v := (1 : Int32)) (Ls' := #[.val (.ref src), .val (.int (1 : Int32)), .val (.ref t), .val (.int (1 : Int32)), .val (.int (2 : Int32)), .val (.int (1 : Int32)), .val (.int c0)]) d17_38 rfl rfl rfl rfl ?_
  refine Rn.goto (pc' := 3) d17_41 (by decide) (by decide) ?_
  refine Rn.iload (pc' := 5) d17_3 rfl rfl ?_
  refine Rn.iload (pc' := 7) d17_5 rfl rfl ?_
  refine Rn.icmp_ge (pc' := 44) (pn := 10) d17_7 (by decide) (by decide) rfl (fun cq7 => absurd cq7 (by decide)) (fun cq7 => ?_)
  refine Rn.aloadN (pc' := 11) d17_10 rfl rfl rfl ?_
  refine Rn.iloadN (pc' := 12) d17_11 rfl rfl ?_
  have Fq8 := A.other Wq3 hn
  refine Rn.caload (pc' := 13) (v := .int c1) Fq8 (by decide) rfl d17_12 rfl ?_
  refine Rn.istore (pc' := 15) (Ls' := #[.val (.ref src), .val (.int (1 : Int32)), .val (.ref t), .val (.int (1 : Int32)), .val (.int (2 : Int32)), .val (.int (1 : Int32)), .val (.int c1)]) d17_13 rfl rfl ?_
  refine Rn.iload (pc' := 17) d17_15 rfl rfl ?_
  refine Rn.sipush (pc' := 20) (v := (255 : Int32)) d17_17 rfl rfl ?_
  refine Rn.icmp_le (pc' := 26) (pn := 23) d17_20 (by decide) (by decide) rfl (fun cq9 => ?_) (fun cq9 => absurd cq9 hp1)
  refine Rn.aloadN (pc' := 27) d17_26 rfl rfl rfl ?_
  refine Rn.iloadN (pc' := 28) d17_27 rfl rfl ?_
  refine Rn.iload (pc' := 30) d17_28 rfl rfl ?_
  refine Rn.i2b (pc' := 31) (v := (b8 c1)) d17_30 rfl rfl ?_
  refine Rn.bastore (pc' := 32) (v := .int (b8 c1)) Aq6 (by decide) (Nat.le_of_ble_eq_true rfl) (congrArg Value.int (nar_b8 c1)) (Or.inl (List.mem_of_getElem? (i := 0) rfl)) Sf.no d17_31 rfl (fun hq11 Wq10 Aq12 => ?_)
  have Aq13 : Ax Z hq11 t .byte ([.int (b8 c0), .int (b8 c1)]) := Aq12
  refine Rn.iinc (pc' := 35) (v := (2 : Int32)) (Ls' := #[.val (.ref src), .val (.int (2 : Int32)), .val (.ref t), .val (.int (1 : Int32)), .val (.int (2 : Int32)), .val (.int (1 : Int32)), .val (.int c1)]) d17_32 rfl rfl rfl rfl ?_
  refine Rn.iinc (pc' := 38) (v := (2 : Int32)) (Ls' := #[.val (.ref src), .val (.int (2 : Int32)), .val (.ref t), .val (.int (2 : Int32)), .val (.int (2 : Int32)), .val (.int (1 : Int32)), .val (.int c1)]) d17_35 rfl rfl rfl rfl ?_
  refine Rn.iinc (pc' := 41) (v := (2 : Int32)) (Ls' := #[.val (.ref src), .val (.int (2 : Int32)), .val (.ref t), .val (.int (2 : Int32)), .val (.int (2 : Int32)), .val (.int (2 : Int32)), .val (.int c1)]) d17_38 rfl rfl rfl rfl ?_
  refine Rn.goto (pc' := 3) d17_41 (by decide) (by decide) ?_
  refine Rn.iload (pc' := 5) d17_3 rfl rfl ?_
  refine Rn.iload (pc' := 7) d17_5 rfl rfl ?_
  refine Rn.icmp_ge (pc' := 44) (pn := 10) d17_7 (by decide) (by decide) rfl (fun cq14 => ?_) (fun cq14 => absurd cq14 (by decide))
  refine Rn.iload (pc' := 46) d17_44 rfl rfl ?_
  refine Rn.retI rfl d17_46 (Nat.le_of_ble_eq_true rfl) (Nat.le_of_ble_eq_true rfl) ?_
  exact ⟨rfl, Aq13⟩
theorem d16_0 : decode jdk_52_method_16_code 0 = .ok (.iload_n 2, 1) := by decide +kernel
theorem d16_1 : decode jdk_52_method_16_code 1 = .ok (.newarray .byte, 2) := by decide +kernel
theorem d16_3 : decode jdk_52_method_16_code 3 = .ok (.astore_n 3, 1) := by decide +kernel
theorem d16_4 : decode jdk_52_method_16_code 4 = .ok (.aload_n 0, 1) := by decide +kernel
theorem d16_5 : decode jdk_52_method_16_code 5 = .ok (.iload_n 1, 1) := by decide +kernel
theorem d16_6 : decode jdk_52_method_16_code 6 = .ok (.aload_n 3, 1) := by decide +kernel
theorem d16_7 : decode jdk_52_method_16_code 7 = .ok (.iconst 0, 1) := by decide +kernel
theorem d16_8 : decode jdk_52_method_16_code 8 = .ok (.iload_n 2, 1) := by decide +kernel
theorem d16_9 : decode jdk_52_method_16_code 9 = .ok (.invokestatic 115, 3) := by decide +kernel
theorem d16_12 : decode jdk_52_method_16_code 12 = .ok (.istore 4, 2) := by decide +kernel
theorem d16_14 : decode jdk_52_method_16_code 14 = .ok (.iload 4, 2) := by decide +kernel
theorem d16_16 : decode jdk_52_method_16_code 16 = .ok (.iload_n 2, 1) := by decide +kernel
theorem d16_17 : decode jdk_52_method_16_code 17 = .ok (.if_icmp .eq 40, 3) := by decide +kernel
theorem d16_20 : decode jdk_52_method_16_code 20 = .ok (.aload_n 0, 1) := by decide +kernel
theorem d16_21 : decode jdk_52_method_16_code 21 = .ok (.iload_n 1, 1) := by decide +kernel
theorem d16_22 : decode jdk_52_method_16_code 22 = .ok (.iload_n 2, 1) := by decide +kernel
theorem d16_23 : decode jdk_52_method_16_code 23 = .ok (.invokestatic 119, 3) := by decide +kernel
theorem d16_26 : decode jdk_52_method_16_code 26 = .ok (.astore 5, 2) := by decide +kernel
theorem d16_28 : decode jdk_52_method_16_code 28 = .ok (.aload 5, 2) := by decide +kernel
theorem d16_30 : decode jdk_52_method_16_code 30 = .ok (.iload 4, 2) := by decide +kernel
theorem d16_32 : decode jdk_52_method_16_code 32 = .ok (.invokestatic 71, 3) := by decide +kernel
theorem d16_35 : decode jdk_52_method_16_code 35 = .ok (.sipush 255, 3) := by decide +kernel
theorem d16_38 : decode jdk_52_method_16_code 38 = .ok (.if_icmp .gt 16, 3) := by decide +kernel
theorem d16_41 : decode jdk_52_method_16_code 41 = .ok (.aload 5, 2) := by decide +kernel
theorem d16_43 : decode jdk_52_method_16_code 43 = .ok (.iconst 0, 1) := by decide +kernel
theorem d16_44 : decode jdk_52_method_16_code 44 = .ok (.aload_n 3, 1) := by decide +kernel
theorem d16_45 : decode jdk_52_method_16_code 45 = .ok (.iconst 0, 1) := by decide +kernel
theorem d16_46 : decode jdk_52_method_16_code 46 = .ok (.iload_n 2, 1) := by decide +kernel
theorem d16_47 : decode jdk_52_method_16_code 47 = .ok (.invokestatic 123, 3) := by decide +kernel
theorem d16_50 : decode jdk_52_method_16_code 50 = .ok (.iload_n 2, 1) := by decide +kernel
theorem d16_51 : decode jdk_52_method_16_code 51 = .ok (.if_icmp .eq 6, 3) := by decide +kernel
theorem d16_54 : decode jdk_52_method_16_code 54 = .ok (.aload 5, 2) := by decide +kernel
theorem d16_56 : decode jdk_52_method_16_code 56 = .ok (.areturn, 1) := by decide +kernel
theorem d16_57 : decode jdk_52_method_16_code 57 = .ok (.aload_n 3, 1) := by decide +kernel
theorem d16_58 : decode jdk_52_method_16_code 58 = .ok (.areturn, 1) := by decide +kernel
set_option maxRecDepth 65536 in
set_option maxHeartbeats 40000000 in
theorem ct_cmpa2 (Z : State) (a0 : Array Value) (hw : ∀ d ∈ tables_1, d.before a0 Z = true) (src : Addr) (c0 c1 : Int32) (hp0 : ¬ 255 < c0) (hp1 : ¬ 255 < c1) (h0 : Heap) (A : Ax Z h0 src .char [.int c0, .int c1]) :
    Ct Z ⟨"java/lang/StringUTF16", "compress", "([CII)[B"⟩ jdk_52_method_16_code 6 (Option.some (FieldType.array FieldType.byte)) ({ frames := 1, cells := 1, slots := 2, locals := 18 } : Room) #[(.ref src), (.int (0 : Int32)), (.int (2 : Int32))] h0 [] (fun v h => ∃ t, v = some (.ref t) ∧ h0.size ≤ t ∧ Ax Z h t .byte [.int (b8 c0), .int (b8 c1)]) := by
  refine Ct.intro (Ls := #[.val (.ref src), .val (.int (0 : Int32)), .val (.int (2 : Int32)), .unset, .unset, .unset]) pn_2 (by intro m; first | (simp [entryFrame, mkF, argsToLocals, Value.category]; done) | rfl) ?_
  refine Rn.iloadN (pc' := 1) d16_0 rfl rfl ?_
  refine Rn.newP (pc' := 3) (cap := 2) (ty := .byte) (ad := "[B") (hw _ (List.mem_of_getElem? (i := 21) rfl)) rfl rfl d16_1 (by decide) (Nat.le_of_ble_eq_true rfl) (by decide) (Nat.le_of_ble_eq_true rfl) (Nat.le_of_ble_eq_true rfl) rfl (fun hq2 aq1 eq3 gq4 Eq5 ⟨Aq6, Bq7⟩ => ?_)
  have nq8 : src ≠ aq1 := by rw [eq3]; exact Nat.ne_of_lt (A.lt)
  have Aq9 : Ax Z hq2 aq1 .byte ([.int (0 : Int32), .int (0 : Int32)]) := Aq6
  refine Rn.astoreN (pc' := 4) (Ls' := #[.val (.ref src), .val (.int (0 : Int32)), .val (.int (2 : Int32)), .val (.ref aq1), .unset, .unset]) d16_3 rfl rfl rfl ?_
  refine Rn.aloadN (pc' := 5) d16_4 rfl rfl rfl ?_
  refine Rn.iloadN (pc' := 6) d16_5 rfl rfl ?_
  refine Rn.aloadN (pc' := 7) d16_6 rfl rfl rfl ?_
  refine Rn.iconst (pc' := 8) (v := (0 : Int32)) d16_7 rfl rfl ?_
  refine Rn.iloadN (pc' := 9) d16_8 rfl rfl ?_
  have Fq10 := A.ext Eq5
  refine Rn.callS (pc' := 12) (argsL := [.ref src, .int (0 : Int32), .ref aq1, .int (0 : Int32), .int (2 : Int32)]) (rest := []) (ct_cmpb2 Z a0 hw src aq1 c0 c1 hp0 hp1 hq2 Fq10 Aq9 nq8) (hw _ (List.mem_of_getElem? (i := 90) rfl)) (hw _ (List.mem_of_getElem? (i := 91) rfl)) (hw _ (List.mem_of_getElem? (i := 88) rfl)) (hw _ (List.mem_of_getElem? (i := 92) rfl)) (by decide) rfl rfl (lenOf pd_3 rfl) rfl d16_9 rfl (Nat.le_of_ble_eq_true rfl) (Nat.le_of_ble_eq_true rfl) (Nat.le_of_ble_eq_true rfl) (Nat.le_of_ble_eq_true rfl) (allS (Or.inr gq4) all0) (allS Sf.no (all0)) (fun vq11 hq12 Kq13 qq14 => ?_)
  obtain ⟨rfl, At⟩ := qq14
  simp only [Option.toList, List.cons_append, List.nil_append]
  refine Rn.istore (pc' := 14) (Ls' := #[.val (.ref src), .val (.int (0 : Int32)), .val (.int (2 : Int32)), .val (.ref aq1), .val (.int (2 : Int32)), .unset]) d16_12 rfl rfl ?_
  refine Rn.iload (pc' := 16) d16_14 rfl rfl ?_
  refine Rn.iloadN (pc' := 17) d16_16 rfl rfl ?_
  refine Rn.icmp_eq (pc' := 57) (pn := 20) d16_17 (by decide) (by decide) rfl (fun cq15 => ?_) (fun cq15 => absurd cq15 (by decide))
  refine Rn.aloadN (pc' := 58) d16_57 rfl rfl rfl ?_
  refine Rn.retA (t := (.array .byte)) rfl rfl rfl d16_58 (Nat.le_of_ble_eq_true rfl) (Nat.le_of_ble_eq_true rfl) ?_
  exact ⟨_, rfl, gq4, At⟩
theorem d18_0 : decode jdk_52_method_15_code 0 = .ok (.iload_n 1, 1) := by decide +kernel
theorem d18_1 : decode jdk_52_method_15_code 1 = .ok (.aload_n 0, 1) := by decide +kernel
theorem d18_2 : decode jdk_52_method_15_code 2 = .ok (.arraylength, 1) := by decide +kernel
theorem d18_3 : decode jdk_52_method_15_code 3 = .ok (.isub, 1) := by decide +kernel
theorem d18_4 : decode jdk_52_method_15_code 4 = .ok (.bipush 31, 2) := by decide +kernel
theorem d18_6 : decode jdk_52_method_15_code 6 = .ok (.iushr, 1) := by decide +kernel
theorem d18_7 : decode jdk_52_method_15_code 7 = .ok (.i2b, 1) := by decide +kernel
theorem d18_8 : decode jdk_52_method_15_code 8 = .ok (.ireturn, 1) := by decide +kernel
set_option maxRecDepth 65536 in
set_option maxHeartbeats 40000000 in
theorem ct_cod2 (Z : State) (a0 : Array Value) (hw : ∀ d ∈ tables_1, d.before a0 Z = true) (t : Addr) (c0 c1 : Int32) (h0 : Heap) (A : Ax Z h0 t .byte [.int (b8 c0), .int (b8 c1)]) :
    Ct Z ⟨"java/lang/StringUTF16", "coderFromArrayLen", "([BI)B"⟩ jdk_52_method_15_code 2 (Option.some FieldType.byte) ({ frames := 0, cells := 0, slots := 0, locals := 0 } : Room) #[(.ref t), (.int (2 : Int32))] h0 [] (fun v h => v = some (.int (0 : Int32)) ∧ h0 = h) := by
  refine Ct.intro (Ls := #[.val (.ref t), .val (.int (2 : Int32))]) pn_2 (by intro m; first | (simp [entryFrame, mkF, argsToLocals, Value.category]; done) | rfl) ?_
  refine Rn.iloadN (pc' := 1) d18_0 rfl rfl ?_
  refine Rn.aloadN (pc' := 2) d18_1 rfl rfl rfl ?_
  refine Rn.arraylength (pc' := 3) (n := (2 : Int32)) A rfl d18_2 rfl ?_
  refine Rn.isub (pc' := 4) (v := (0 : Int32)) d18_3 rfl rfl ?_
  refine Rn.bipush (pc' := 6) (v := (31 : Int32)) d18_4 rfl rfl ?_
  refine Rn.iushr (pc' := 7) (v := (0 : Int32)) d18_6 rfl rfl ?_
  refine Rn.i2b (pc' := 8) (v := (0 : Int32)) d18_7 rfl rfl ?_
  refine Rn.retN (t := .byte) rfl (by simp) d18_8 (Nat.le_of_ble_eq_true rfl) (Nat.le_of_ble_eq_true rfl) ?_
  exact ⟨rfl, rfl⟩
theorem d15_0 : decode jdk_42_method_149_code 0 = .ok (.aload_n 0, 1) := by decide +kernel
theorem d15_1 : decode jdk_42_method_149_code 1 = .ok (.invokespecial 1, 3) := by decide +kernel
theorem d15_4 : decode jdk_42_method_149_code 4 = .ok (.iload_n 3, 1) := by decide +kernel
theorem d15_5 : decode jdk_42_method_149_code 5 = .ok (.ifCond .ne 22, 3) := by decide +kernel
theorem d15_8 : decode jdk_42_method_149_code 8 = .ok (.aload_n 0, 1) := by decide +kernel
theorem d15_9 : decode jdk_42_method_149_code 9 = .ok (.ldc 7, 2) := by decide +kernel
theorem d15_11 : decode jdk_42_method_149_code 11 = .ok (.getfield 9, 3) := by decide +kernel
theorem d15_14 : decode jdk_42_method_149_code 14 = .ok (.putfield 9, 3) := by decide +kernel
theorem d15_17 : decode jdk_42_method_149_code 17 = .ok (.aload_n 0, 1) := by decide +kernel
theorem d15_18 : decode jdk_42_method_149_code 18 = .ok (.ldc 7, 2) := by decide +kernel
theorem d15_20 : decode jdk_42_method_149_code 20 = .ok (.getfield 15, 3) := by decide +kernel
theorem d15_23 : decode jdk_42_method_149_code 23 = .ok (.putfield 15, 3) := by decide +kernel
theorem d15_26 : decode jdk_42_method_149_code 26 = .ok (.return_, 1) := by decide +kernel
theorem d15_27 : decode jdk_42_method_149_code 27 = .ok (.getstatic 38, 3) := by decide +kernel
theorem d15_30 : decode jdk_42_method_149_code 30 = .ok (.ifCond .eq 28, 3) := by decide +kernel
theorem d15_33 : decode jdk_42_method_149_code 33 = .ok (.aload_n 1, 1) := by decide +kernel
theorem d15_34 : decode jdk_42_method_149_code 34 = .ok (.iload_n 2, 1) := by decide +kernel
theorem d15_35 : decode jdk_42_method_149_code 35 = .ok (.iload_n 3, 1) := by decide +kernel
theorem d15_36 : decode jdk_42_method_149_code 36 = .ok (.invokestatic 177, 3) := by decide +kernel
theorem d15_39 : decode jdk_42_method_149_code 39 = .ok (.astore 5, 2) := by decide +kernel
theorem d15_41 : decode jdk_42_method_149_code 41 = .ok (.aload_n 0, 1) := by decide +kernel
theorem d15_42 : decode jdk_42_method_149_code 42 = .ok (.aload 5, 2) := by decide +kernel
theorem d15_44 : decode jdk_42_method_149_code 44 = .ok (.iload_n 3, 1) := by decide +kernel
theorem d15_45 : decode jdk_42_method_149_code 45 = .ok (.invokestatic 47, 3) := by decide +kernel
theorem d15_48 : decode jdk_42_method_149_code 48 = .ok (.putfield 15, 3) := by decide +kernel
theorem d15_51 : decode jdk_42_method_149_code 51 = .ok (.aload_n 0, 1) := by decide +kernel
theorem d15_52 : decode jdk_42_method_149_code 52 = .ok (.aload 5, 2) := by decide +kernel
theorem d15_54 : decode jdk_42_method_149_code 54 = .ok (.putfield 9, 3) := by decide +kernel
theorem d15_57 : decode jdk_42_method_149_code 57 = .ok (.return_, 1) := by decide +kernel
theorem d15_58 : decode jdk_42_method_149_code 58 = .ok (.aload_n 0, 1) := by decide +kernel
theorem d15_59 : decode jdk_42_method_149_code 59 = .ok (.iconst 1, 1) := by decide +kernel
theorem d15_60 : decode jdk_42_method_149_code 60 = .ok (.putfield 15, 3) := by decide +kernel
theorem d15_63 : decode jdk_42_method_149_code 63 = .ok (.aload_n 0, 1) := by decide +kernel
theorem d15_64 : decode jdk_42_method_149_code 64 = .ok (.aload_n 1, 1) := by decide +kernel
theorem d15_65 : decode jdk_42_method_149_code 65 = .ok (.iload_n 2, 1) := by decide +kernel
theorem d15_66 : decode jdk_42_method_149_code 66 = .ok (.iload_n 3, 1) := by decide +kernel
theorem d15_67 : decode jdk_42_method_149_code 67 = .ok (.invokestatic 180, 3) := by decide +kernel
theorem d15_70 : decode jdk_42_method_149_code 70 = .ok (.putfield 9, 3) := by decide +kernel
theorem d15_73 : decode jdk_42_method_149_code 73 = .ok (.return_, 1) := by decide +kernel
set_option maxRecDepth 65536 in
set_option maxHeartbeats 40000000 in
theorem ct_siv2 (Z : State) (a0 : Array Value) (hw : ∀ d ∈ tables_1, d.before a0 Z = true) (x src : Addr) (c0 c1 : Int32) (hp0 : ¬ 255 < c0) (hp1 : ¬ 255 < c1) (z : Int32) (hz : z ≠ 0) (h0 : Heap) (E : Exa Z h0 x "java/lang/String") (V : Fld Z h0 x "java/lang/String" "value" "[B" .null) (Co : Fld Z h0 x "java/lang/String" "coder" "B" (.int (0 : Int32))) (A : Ax Z h0 src .char [.int c0, .int c1]) (hn : src ≠ x) (S : Sta Z Z.heap "java/lang/String" "COMPACT_STRINGS" "Z" (.int z)) :
    Ct Z ⟨"java/lang/String", "<init>", "([CIILjava/lang/Void;)V"⟩ jdk_42_method_149_code 6 (Option.none : Option FieldType) ({ frames := 2, cells := 1, slots := 2, locals := 36 } : Room) #[(.ref x), (.ref src), (.int (0 : Int32)), (.int (2 : Int32)), (.null)] h0 [x] (fun v h => v = none ∧ ∃ t, h0.size ≤ t ∧ Sg Z h x t [.int (b8 c0), .int (b8 c1)]) := by
  refine Ct.intro (Ls := #[.val (.ref x), .val (.ref src), .val (.int (0 : Int32)), .val (.int (2 : Int32)), .val (.null), .unset]) pn_1 (by intro m; first | (simp [entryFrame, mkF, argsToLocals, Value.category]; done) | rfl) ?_
  refine Rn.aloadN (pc' := 1) d15_0 rfl rfl rfl ?_
  refine Rn.initO (pc' := 4) (hw _ (List.mem_of_getElem? (i := 26) rfl)) (hw _ (List.mem_of_getElem? (i := 27) rfl)) (hw _ (List.mem_of_getElem? (i := 28) rfl)) rfl d15_1 (Nat.le_of_ble_eq_true rfl) (Nat.le_of_ble_eq_true rfl) rfl ?_
  refine Rn.iloadN (pc' := 5) d15_4 rfl rfl ?_
  refine Rn.if_ne (pc' := 27) (pn := 8) d15_5 (by decide) (by decide) rfl (fun cq1 => ?_) (fun cq1 => absurd cq1 (by decide))
  refine Rn.old fun Oq2 _ => ?_
  refine Rn.getS (pc' := 30) (hw _ (List.mem_of_getElem? (i := 11) rfl)) Via.refl (S.ext Oq2) d15_27 rfl ?_
  refine Rn.if_eq (pc' := 58) (pn := 33) d15_30 (by decide) (by decide) rfl (fun cq3 => absurd cq3 hz) (fun cq3 => ?_)
  refine Rn.aloadN (pc' := 34) d15_33 rfl rfl rfl ?_
  refine Rn.iloadN (pc' := 35) d15_34 rfl rfl ?_
  refine Rn.iloadN (pc' := 36) d15_35 rfl rfl ?_
  refine Rn.callS (pc' := 39) (argsL := [.ref src, .int (0 : Int32), .int (2 : Int32)]) (rest := []) (ct_cmpa2 Z a0 hw src c0 c1 hp0 hp1 h0 A) (hw _ (List.mem_of_getElem? (i := 86) rfl)) (hw _ (List.mem_of_getElem? (i := 87) rfl)) (hw _ (List.mem_of_getElem? (i := 88) rfl)) (hw _ (List.mem_of_getElem? (i := 89) rfl)) (by decide) rfl rfl (lenOf pd_4 rfl) rfl d15_36 rfl (Nat.le_of_ble_eq_true rfl) (Nat.le_of_ble_eq_true rfl) (Nat.le_of_ble_eq_true rfl) (Nat.le_of_ble_eq_true rfl) (fun _ z => nomatch z) (fun _ z => nomatch z) (fun vq4 hq5 Kq6 qq7 => ?_)
  obtain ⟨t, rfl, ht, At⟩ := qq7
  simp only [Option.toList, List.cons_append, List.nil_append]
  have Fq8 := E.keep Kq6
  have nt_x : x ≠ t := Nat.ne_of_lt (Nat.lt_of_lt_of_le E.lt ht)
  have Fq9 := A.keep Kq6 nin0
  have nt_src : src ≠ t := Nat.ne_of_lt (Nat.lt_of_lt_of_le A.lt ht)
  refine Rn.astore (pc' := 41) (Ls' := #[.val (.ref x), .val (.ref src), .val (.int (0 : Int32)), .val (.int (2 : Int32)), .val (.null), .val (.ref t)]) d15_39 rfl rfl rfl ?_
  refine Rn.aloadN (pc' := 42) d15_41 rfl rfl rfl ?_
  refine Rn.aload (pc' := 44) d15_42 rfl rfl rfl ?_
  refine Rn.iloadN (pc' := 45) d15_44 rfl rfl ?_
  refine Rn.callS (pc' := 48) (argsL := [.ref t, .int (2 : Int32)]) (rest := [.ref x]) (ct_cod2 Z a0 hw t c0 c1 hq5 At) (hw _ (List.mem_of_getElem? (i := 93) rfl)) (hw _ (List.mem_of_getElem? (i := 94) rfl)) (hw _ (List.mem_of_getElem? (i := 88) rfl)) (hw _ (List.mem_of_getElem? (i := 95) rfl)) (by decide) rfl rfl (lenOf pd_5 rfl) rfl d15_45 rfl (Nat.le_of_ble_eq_true rfl) (Nat.le_of_ble_eq_true rfl) (Nat.le_of_ble_eq_true rfl) (Nat.le_of_ble_eq_true rfl) (fun _ z => nomatch z) (fun _ z => nomatch z) (fun vq10 hq11 Kq12 qq13 => ?_)
  obtain ⟨rfl, rfl⟩ := qq13
  simp only [Option.toList, List.cons_append, List.nil_append]
  have Fq14 := Co.keep Kq6 nin0
  refine Rn.putF (pc' := 51) (hw _ (List.mem_of_getElem? (i := 31) rfl)) Via.refl Fq14 Fq8 (Or.inr ⟨(hw _ (List.mem_of_getElem? (i := 32) rfl)), rfl, rfl⟩) (hw _ (List.mem_of_getElem? (i := 17) rfl)) (ty := .byte) (by decide) rfl rfl (Or.inl (List.mem_of_getElem? (i := 0) rfl)) Sf.no d15_48 rfl (fun hq16 Wq15 => ?_)
  have Fq17 := Fq14.same Wq15
  refine Rn.aloadN (pc' := 52) d15_51 rfl rfl rfl ?_
  refine Rn.aload (pc' := 54) d15_52 rfl rfl rfl ?_
  have Fq18 := V.keep Kq6 nin0
  have Fq19 := Fq18.other Wq15 (Or.inr (slot_ne (t := (.array .byte)) (t' := .byte) (Or.inr (hw _ (List.mem_of_getElem? (i := 30) rfl))) (Or.inr (hw _ (List.mem_of_getElem? (i := 32) rfl))) (by decide) (by decide) (by decide)))
  have Fq20 := Fq8.wr Wq15
  refine Rn.putF (pc' := 57) (hw _ (List.mem_of_getElem? (i := 29) rfl)) Via.refl Fq19 Fq20 (Or.inr ⟨(hw _ (List.mem_of_getElem? (i := 30) rfl)), rfl, rfl⟩) (hw _ (List.mem_of_getElem? (i := 17) rfl)) (ty := (.array .byte)) (by decide) rfl rfl (Or.inl (List.mem_of_getElem? (i := 0) rfl)) Sf.no d15_54 rfl (fun hq22 Wq21 => ?_)
  have Fq23 := Fq19.same Wq21
  refine Rn.retV rfl d15_57 (Nat.le_of_ble_eq_true rfl) (Nat.le_of_ble_eq_true rfl) ?_
  have Fq24 := Fq20.wr Wq21
  have Fq25 := Fq17.other Wq21 (Or.inr (slot_ne (t := .byte) (t' := (.array .byte)) (Or.inr (hw _ (List.mem_of_getElem? (i := 32) rfl))) (Or.inr (hw _ (List.mem_of_getElem? (i := 30) rfl))) (by decide) (by decide) (by decide)))
  have Fq26 := At.other Wq15 (Ne.symm nt_x)
  have Fq27 := Fq26.other Wq21 (Ne.symm nt_x)
  exact ⟨rfl, t, ht, Fq24, Fq25, Fq23, Fq27⟩
theorem d14_0 : decode jdk_42_method_3_code 0 = .ok (.aload_n 0, 1) := by decide +kernel
theorem d14_1 : decode jdk_42_method_3_code 1 = .ok (.aload_n 1, 1) := by decide +kernel
theorem d14_2 : decode jdk_42_method_3_code 2 = .ok (.iconst 0, 1) := by decide +kernel
theorem d14_3 : decode jdk_42_method_3_code 3 = .ok (.aload_n 1, 1) := by decide +kernel
theorem d14_4 : decode jdk_42_method_3_code 4 = .ok (.arraylength, 1) := by decide +kernel
theorem d14_5 : decode jdk_42_method_3_code 5 = .ok (.aconst_null, 1) := by decide +kernel
theorem d14_6 : decode jdk_42_method_3_code 6 = .ok (.invokespecial 27, 3) := by decide +kernel
theorem d14_9 : decode jdk_42_method_3_code 9 = .ok (.return_, 1) := by decide +kernel
set_option maxRecDepth 65536 in
set_option maxHeartbeats 40000000 in
theorem ct_si2 (Z : State) (a0 : Array Value) (hw : ∀ d ∈ tables_1, d.before a0 Z = true) (x src : Addr) (c0 c1 : Int32) (hp0 : ¬ 255 < c0) (hp1 : ¬ 255 < c1) (z : Int32) (hz : z ≠ 0) (h0 : Heap) (E : Exa Z h0 x "java/lang/String") (V : Fld Z h0 x "java/lang/String" "value" "[B" .null) (Co : Fld Z h0 x "java/lang/String" "coder" "B" (.int (0 : Int32))) (A : Ax Z h0 src .char [.int c0, .int c1]) (hn : src ≠ x) (S : Sta Z Z.heap "java/lang/String" "COMPACT_STRINGS" "Z" (.int z)) :
    Ct Z ⟨"java/lang/String", "<init>", "([C)V"⟩ jdk_42_method_3_code 2 (Option.none : Option FieldType) ({ frames := 3, cells := 1, slots := 2, locals := 53 } : Room) #[(.ref x), (.ref src)] h0 [x] (fun v h => v = none ∧ ∃ t, h0.size ≤ t ∧ Sg Z h x t [.int (b8 c0), .int (b8 c1)]) := by
  refine Ct.intro (Ls := #[.val (.ref x), .val (.ref src)]) pn_1 (by intro m; first | (simp [entryFrame, mkF, argsToLocals, Value.category]; done) | rfl) ?_
  refine Rn.aloadN (pc' := 1) d14_0 rfl rfl rfl ?_
  refine Rn.aloadN (pc' := 2) d14_1 rfl rfl rfl ?_
  refine Rn.iconst (pc' := 3) (v := (0 : Int32)) d14_2 rfl rfl ?_
  refine Rn.aloadN (pc' := 4) d14_3 rfl rfl rfl ?_
  refine Rn.arraylength (pc' := 5) (n := (2 : Int32)) A rfl d14_4 rfl ?_
  refine Rn.aconst_null (pc' := 6) d14_5 rfl ?_
  refine Rn.callI (pc' := 9) (argsL := [.ref src, .int (0 : Int32), .int (2 : Int32), .null]) (a := x) (rest := []) (ct_siv2 Z a0 hw x src c0 c1 hp0 hp1 z hz h0 E V Co A hn S) rfl (hw _ (List.mem_of_getElem? (i := 83) rfl)) (hw _ (List.mem_of_getElem? (i := 84) rfl)) (hw _ (List.mem_of_getElem? (i := 9) rfl)) (hw _ (List.mem_of_getElem? (i := 85) rfl)) (by decide) rfl rfl (lenOf pd_6 rfl) rfl d14_6 rfl (Nat.le_of_ble_eq_true rfl) (Nat.le_of_ble_eq_true rfl) (Nat.le_of_ble_eq_true rfl) (Nat.le_of_ble_eq_true rfl) (allS (Or.inl (List.mem_of_getElem? (i := 0) rfl)) all0) (allS Sf.no (all0)) (fun vq1 hq2 Kq3 qq4 => ?_)
  obtain ⟨rfl, t, ht, G⟩ := qq4
  simp only [Option.toList, List.cons_append, List.nil_append]
  refine Rn.retV rfl d14_9 (Nat.le_of_ble_eq_true rfl) (Nat.le_of_ble_eq_true rfl) ?_
  exact ⟨rfl, t, ht, G⟩
theorem d0_0 : decode method_2_code 0 = .ok (.iload_n 0, 1) := by decide +kernel
theorem d0_1 : decode method_2_code 1 = .ok (.sipush 255, 3) := by decide +kernel
theorem d0_4 : decode method_2_code 4 = .ok (.iand, 1) := by decide +kernel
theorem d0_5 : decode method_2_code 5 = .ok (.i2c, 1) := by decide +kernel
theorem d0_6 : decode method_2_code 6 = .ok (.istore_n 1, 1) := by decide +kernel
theorem d0_7 : decode method_2_code 7 = .ok (.iload_n 0, 1) := by decide +kernel
theorem d0_8 : decode method_2_code 8 = .ok (.bipush 8, 2) := by decide +kernel
theorem d0_10 : decode method_2_code 10 = .ok (.iushr, 1) := by decide +kernel
theorem d0_11 : decode method_2_code 11 = .ok (.sipush 255, 3) := by decide +kernel
theorem d0_14 : decode method_2_code 14 = .ok (.iand, 1) := by decide +kernel
theorem d0_15 : decode method_2_code 15 = .ok (.i2c, 1) := by decide +kernel
theorem d0_16 : decode method_2_code 16 = .ok (.istore_n 2, 1) := by decide +kernel
theorem d0_17 : decode method_2_code 17 = .ok (.iload_n 0, 1) := by decide +kernel
theorem d0_18 : decode method_2_code 18 = .ok (.bipush 16, 2) := by decide +kernel
theorem d0_20 : decode method_2_code 20 = .ok (.iushr, 1) := by decide +kernel
theorem d0_21 : decode method_2_code 21 = .ok (.iconst 1, 1) := by decide +kernel
theorem d0_22 : decode method_2_code 22 = .ok (.iand, 1) := by decide +kernel
theorem d0_23 : decode method_2_code 23 = .ok (.ifCond .ne 8, 3) := by decide +kernel
theorem d0_26 : decode method_2_code 26 = .ok (.iload_n 1, 1) := by decide +kernel
theorem d0_27 : decode method_2_code 27 = .ok (.invokestatic 7, 3) := by decide +kernel
theorem d0_30 : decode method_2_code 30 = .ok (.areturn, 1) := by decide +kernel
theorem d0_31 : decode method_2_code 31 = .ok (.new 8, 3) := by decide +kernel
theorem d0_34 : decode method_2_code 34 = .ok (.dup, 1) := by decide +kernel
theorem d0_35 : decode method_2_code 35 = .ok (.iconst 2, 1) := by decide +kernel
theorem d0_36 : decode method_2_code 36 = .ok (.newarray .char, 2) := by decide +kernel
theorem d0_38 : decode method_2_code 38 = .ok (.dup, 1) := by decide +kernel
theorem d0_39 : decode method_2_code 39 = .ok (.iconst 0, 1) := by decide +kernel
theorem d0_40 : decode method_2_code 40 = .ok (.iload_n 1, 1) := by decide +kernel
theorem d0_41 : decode method_2_code 41 = .ok (.castore, 1) := by decide +kernel
theorem d0_42 : decode method_2_code 42 = .ok (.dup, 1) := by decide +kernel
theorem d0_43 : decode method_2_code 43 = .ok (.iconst 1, 1) := by decide +kernel
theorem d0_44 : decode method_2_code 44 = .ok (.iload_n 2, 1) := by decide +kernel
theorem d0_45 : decode method_2_code 45 = .ok (.castore, 1) := by decide +kernel
theorem d0_46 : decode method_2_code 46 = .ok (.invokespecial 13, 3) := by decide +kernel
theorem d0_49 : decode method_2_code 49 = .ok (.areturn, 1) := by decide +kernel
set_option maxRecDepth 65536 in
set_option maxHeartbeats 40000000 in
theorem ct_str (Z : State) (a0 : Array Value) (hw : ∀ d ∈ tables_1, d.before a0 Z = true) (x : Int32) (h0 : Heap) (z : Int32) (hz : z ≠ 0) (S : Sta Z Z.heap "java/lang/String" "COMPACT_STRINGS" "Z" (.int z)) :
    Ct Z ⟨"com/example/local_quorum/localquorum/PermissionEqualsPinLaw", "str", "(I)Ljava/lang/String;"⟩ method_2_code 3 (Option.some (FieldType.object "java/lang/String")) ({ frames := 4, cells := 3, slots := 8, locals := 67 } : Room) #[(.int x)] h0 [] (fun v h => ∃ s t, v = some (.ref s) ∧ h0.size ≤ s ∧ h0.size ≤ t ∧ Sg Z h s t (own_bv x)) := by
  refine Ct.intro (Ls := #[.val (.int x), .unset, .unset]) pn_3 (by intro m; first | (simp [entryFrame, mkF, argsToLocals, Value.category]; done) | rfl) ?_
  refine Rn.iloadN (pc' := 1) d0_0 rfl rfl ?_
  refine Rn.sipush (pc' := 4) (v := (255 : Int32)) d0_1 rfl rfl ?_
  refine Rn.iand (pc' := 5) (v := (x &&& (255 : Int32))) d0_4 rfl rfl ?_
  refine Rn.i2c (pc' := 6) (v := (own_c0 x)) d0_5 (i2c_mask _) rfl ?_
  refine Rn.istoreN (pc' := 7) (Ls' := #[.val (.int x), .val (.int (own_c0 x)), .unset]) d0_6 rfl rfl ?_
  refine Rn.iloadN (pc' := 8) d0_7 rfl rfl ?_
  refine Rn.bipush (pc' := 10) (v := (8 : Int32)) d0_8 rfl rfl ?_
  refine Rn.iushr (pc' := 11) (v := (XT.ushr x (8 : Int32))) d0_10 rfl rfl ?_
  refine Rn.sipush (pc' := 14) (v := (255 : Int32)) d0_11 rfl rfl ?_
  refine Rn.iand (pc' := 15) (v := ((XT.ushr x (8 : Int32)) &&& (255 : Int32))) d0_14 rfl rfl ?_
  refine Rn.i2c (pc' := 16) (v := (own_c1 x)) d0_15 (i2c_mask _) rfl ?_
  refine Rn.istoreN (pc' := 17) (Ls' := #[.val (.int x), .val (.int (own_c0 x)), .val (.int (own_c1 x))]) d0_16 rfl rfl ?_
  refine Rn.iloadN (pc' := 18) d0_17 rfl rfl ?_
  refine Rn.bipush (pc' := 20) (v := (16 : Int32)) d0_18 rfl rfl ?_
  refine Rn.iushr (pc' := 21) (v := (XT.ushr x (16 : Int32))) d0_20 rfl rfl ?_
  refine Rn.iconst (pc' := 22) (v := (1 : Int32)) d0_21 rfl rfl ?_
  refine Rn.iand (pc' := 23) (v := (own_nb x)) d0_22 rfl rfl ?_
  refine Rn.if_ne (pc' := 31) (pn := 26) d0_23 (by decide) (by decide) rfl (fun cq1 => ?_) (fun cq1 => ?_)
  ·
    refine Rn.newO (pc' := 34) (hw _ (List.mem_of_getElem? (i := 78) rfl)) (hw _ (List.mem_of_getElem? (i := 17) rfl)) (hw _ (List.mem_of_getElem? (i := 9) rfl)) d0_31 (Nat.le_of_ble_eq_true rfl) (Nat.le_of_ble_eq_true rfl) rfl (fun hq3 aq2 eq4 gq5 Eq6 ⟨Aq7, Dq8, Uq9⟩ => ?_)
    have Fq10 : Fld Z hq3 aq2 "java/lang/String" "value" "[B" (.null) := Dq8 (Or.inr (hw _ (List.mem_of_getElem? (i := 30) rfl))) (ty := (.array .byte)) (by decide)
    have Fq11 : Fld Z hq3 aq2 "java/lang/String" "coder" "B" (.int (0 : Int32)) := Dq8 (Or.inr (hw _ (List.mem_of_getElem? (i := 32) rfl))) (ty := .byte) (by decide)
    refine Rn.dup (pc' := 35) d0_34 rfl rfl ?_
    refine Rn.iconst (pc' := 36) (v := (2 : Int32)) d0_35 rfl rfl ?_
    refine Rn.newP (pc' := 38) (cap := 2) (ty := .char) (ad := "[C") (hw _ (List.mem_of_getElem? (i := 79) rfl)) rfl rfl d0_36 (by decide) (Nat.le_of_ble_eq_true rfl) (by decide) (Nat.le_of_ble_eq_true rfl) (Nat.le_of_ble_eq_true rfl) rfl (fun hq13 aq12 eq14 gq15 Eq16 ⟨Aq17, Bq18⟩ => ?_)
    have nq19 : aq2 ≠ aq12 := by rw [eq14]; exact Nat.ne_of_lt (Aq7.lt)
    have Aq20 : Ax Z hq13 aq12 .char ([.int (0 : Int32), .int (0 : Int32)]) := Aq17
    refine Rn.dup (pc' := 39) d0_38 rfl rfl ?_
    refine Rn.iconst (pc' := 40) (v := (0 : Int32)) d0_39 rfl rfl ?_
    refine Rn.iloadN (pc' := 41) d0_40 rfl rfl ?_
    refine Rn.castore (pc' := 42) (v := .int (own_c0 x)) Aq20 (by decide) (Nat.le_of_ble_eq_true rfl) (congrArg Value.int (own_b _).2) (Or.inr gq15) Sf.no d0_41 rfl (fun hq22 Wq21 Aq23 => ?_)
    have Aq24 : Ax Z hq22 aq12 .char ([.int (own_c0 x), .int (0 : Int32)]) := Aq23
    refine Rn.dup (pc' := 43) d0_42 rfl rfl ?_
    refine Rn.iconst (pc' := 44) (v := (1 : Int32)) d0_43 rfl rfl ?_
    refine Rn.iloadN (pc' := 45) d0_44 rfl rfl ?_
    refine Rn.castore (pc' := 46) (v := .int (own_c1 x)) Aq24 (by decide) (Nat.le_of_ble_eq_true rfl) (congrArg Value.int (own_b _).2) (Or.inr gq15) Sf.no d0_45 rfl (fun hq26 Wq25 Aq27 => ?_)
    have Aq28 : Ax Z hq26 aq12 .char ([.int (own_c0 x), .int (own_c1 x)]) := Aq27
    have Fq32 := Aq7.ext Eq16
    have Fq33 := Fq32.wr Wq21
    have Fq34 := Fq33.wr Wq25
    have Fq35 := Fq10.ext Eq16
    have Fq36 := Fq35.other Wq21 (Or.inl nq19)
    have Fq37 := Fq36.other Wq25 (Or.inl nq19)
    have Fq38 := Fq11.ext Eq16
    have Fq39 := Fq38.other Wq21 (Or.inl nq19)
    have Fq40 := Fq39.other Wq25 (Or.inl nq19)
    refine Rn.callI (pc' := 49) (argsL := [.ref aq12]) (a := aq2) (rest := [.ref aq2]) (ct_si2 Z a0 hw aq2 aq12 (own_c0 x) (own_c1 x) (own_b _).1.1 (own_b _).1.1 z hz hq26 Fq34 Fq37 Fq40 Aq28 (Ne.symm nq19) S) rfl (hw _ (List.mem_of_getElem? (i := 80) rfl)) (hw _ (List.mem_of_getElem? (i := 81) rfl)) (hw _ (List.mem_of_getElem? (i := 9) rfl)) (hw _ (List.mem_of_getElem? (i := 82) rfl)) (by decide) rfl rfl (lenOf pd_7 rfl) rfl d0_46 rfl (Nat.le_of_ble_eq_true rfl) (Nat.le_of_ble_eq_true rfl) (Nat.le_of_ble_eq_true rfl) (Nat.le_of_ble_eq_true rfl) (allS (Or.inr gq5) all0) (allS Sf.no (all0)) (fun vq41 hq42 Kq43 qq44 => ?_)
    obtain ⟨rfl, tq29, htq30, Gq31⟩ := qq44
    simp only [Option.toList, List.cons_append, List.nil_append]
    have nq45 : aq2 ≠ tq29 := Nat.ne_of_lt (Nat.lt_of_lt_of_le Fq34.lt htq30)
    have nq46 : aq12 ≠ tq29 := Nat.ne_of_lt (Nat.lt_of_lt_of_le Aq28.lt htq30)
    refine Rn.retA (t := (.object "java/lang/String")) rfl rfl rfl d0_49 (Nat.le_of_ble_eq_true rfl) (Nat.le_of_ble_eq_true rfl) ?_
    exact ⟨_, _, rfl, gq5, (Nat.le_trans (Nat.le_trans gq5 (Nat.le_of_lt (Exa.lt Fq34))) htq30), by unfold own_bv; rw [own_bs2 cq1]; exact ⟨Gq31.1, Gq31.2.1, Gq31.2.2.1, Gq31.2.2.2⟩⟩
  ·
    refine Rn.iloadN (pc' := 27) d0_26 rfl rfl ?_
    refine Rn.callS (pc' := 30) (argsL := [.int (own_c0 x)]) (rest := []) (ct_vof Z a0 hw (own_c0 x) (own_b x).1.1 z hz h0 S) (hw _ (List.mem_of_getElem? (i := 7) rfl)) (hw _ (List.mem_of_getElem? (i := 8) rfl)) (hw _ (List.mem_of_getElem? (i := 9) rfl)) (hw _ (List.mem_of_getElem? (i := 10) rfl)) (by decide) rfl rfl (lenOf pd_8 rfl) rfl d0_27 rfl (Nat.le_of_ble_eq_true rfl) (Nat.le_of_ble_eq_true rfl) (Nat.le_of_ble_eq_true rfl) (Nat.le_of_ble_eq_true rfl) (fun _ z => nomatch z) (fun _ z => nomatch z) (fun vq47 hq48 Kq49 qq50 => ?_)
    obtain ⟨sv, tv, rfl, hsv, htv, Gv⟩ := qq50
    simp only [Option.toList, List.cons_append, List.nil_append]
    refine Rn.retA (t := (.object "java/lang/String")) rfl rfl rfl d0_30 (Nat.le_of_ble_eq_true rfl) (Nat.le_of_ble_eq_true rfl) ?_
    exact ⟨sv, tv, rfl, hsv, htv, by unfold own_bv; rw [own_bs1 cq1]; exact Gv⟩
theorem d12_0 : decode method_3_code 0 = .ok (.iload_n 0, 1) := by decide +kernel
theorem d12_1 : decode method_3_code 1 = .ok (.bipush 16, 2) := by decide +kernel
theorem d12_3 : decode method_3_code 3 = .ok (.iushr, 1) := by decide +kernel
theorem d12_4 : decode method_3_code 4 = .ok (.iconst 1, 1) := by decide +kernel
theorem d12_5 : decode method_3_code 5 = .ok (.iand, 1) := by decide +kernel
theorem d12_6 : decode method_3_code 6 = .ok (.istore_n 2, 1) := by decide +kernel
theorem d12_7 : decode method_3_code 7 = .ok (.iload_n 1, 1) := by decide +kernel
theorem d12_8 : decode method_3_code 8 = .ok (.bipush 16, 2) := by decide +kernel
theorem d12_10 : decode method_3_code 10 = .ok (.iushr, 1) := by decide +kernel
theorem d12_11 : decode method_3_code 11 = .ok (.iconst 1, 1) := by decide +kernel
theorem d12_12 : decode method_3_code 12 = .ok (.iand, 1) := by decide +kernel
theorem d12_13 : decode method_3_code 13 = .ok (.istore_n 3, 1) := by decide +kernel
theorem d12_14 : decode method_3_code 14 = .ok (.iload_n 2, 1) := by decide +kernel
theorem d12_15 : decode method_3_code 15 = .ok (.iload_n 3, 1) := by decide +kernel
theorem d12_16 : decode method_3_code 16 = .ok (.if_icmp .eq 5, 3) := by decide +kernel
theorem d12_19 : decode method_3_code 19 = .ok (.iconst 0, 1) := by decide +kernel
theorem d12_20 : decode method_3_code 20 = .ok (.ireturn, 1) := by decide +kernel
theorem d12_21 : decode method_3_code 21 = .ok (.iload_n 0, 1) := by decide +kernel
theorem d12_22 : decode method_3_code 22 = .ok (.sipush 255, 3) := by decide +kernel
theorem d12_25 : decode method_3_code 25 = .ok (.iand, 1) := by decide +kernel
theorem d12_26 : decode method_3_code 26 = .ok (.iload_n 1, 1) := by decide +kernel
theorem d12_27 : decode method_3_code 27 = .ok (.sipush 255, 3) := by decide +kernel
theorem d12_30 : decode method_3_code 30 = .ok (.iand, 1) := by decide +kernel
theorem d12_31 : decode method_3_code 31 = .ok (.if_icmp .eq 5, 3) := by decide +kernel
theorem d12_34 : decode method_3_code 34 = .ok (.iconst 0, 1) := by decide +kernel
theorem d12_35 : decode method_3_code 35 = .ok (.ireturn, 1) := by decide +kernel
theorem d12_36 : decode method_3_code 36 = .ok (.iload_n 2, 1) := by decide +kernel
theorem d12_37 : decode method_3_code 37 = .ok (.ifCond .ne 5, 3) := by decide +kernel
theorem d12_40 : decode method_3_code 40 = .ok (.iconst 1, 1) := by decide +kernel
theorem d12_41 : decode method_3_code 41 = .ok (.ireturn, 1) := by decide +kernel
theorem d12_42 : decode method_3_code 42 = .ok (.iload_n 0, 1) := by decide +kernel
theorem d12_43 : decode method_3_code 43 = .ok (.bipush 8, 2) := by decide +kernel
theorem d12_45 : decode method_3_code 45 = .ok (.iushr, 1) := by decide +kernel
theorem d12_46 : decode method_3_code 46 = .ok (.sipush 255, 3) := by decide +kernel
theorem d12_49 : decode method_3_code 49 = .ok (.iand, 1) := by decide +kernel
theorem d12_50 : decode method_3_code 50 = .ok (.iload_n 1, 1) := by decide +kernel
theorem d12_51 : decode method_3_code 51 = .ok (.bipush 8, 2) := by decide +kernel
theorem d12_53 : decode method_3_code 53 = .ok (.iushr, 1) := by decide +kernel
theorem d12_54 : decode method_3_code 54 = .ok (.sipush 255, 3) := by decide +kernel
theorem d12_57 : decode method_3_code 57 = .ok (.iand, 1) := by decide +kernel
theorem d12_58 : decode method_3_code 58 = .ok (.if_icmp .ne 7, 3) := by decide +kernel
theorem d12_61 : decode method_3_code 61 = .ok (.iconst 1, 1) := by decide +kernel
theorem d12_62 : decode method_3_code 62 = .ok (.goto 4, 3) := by decide +kernel
theorem d12_65 : decode method_3_code 65 = .ok (.iconst 0, 1) := by decide +kernel
theorem d12_66 : decode method_3_code 66 = .ok (.ireturn, 1) := by decide +kernel
set_option maxRecDepth 65536 in
set_option maxHeartbeats 40000000 in
theorem ct_sm (Z : State) (a0 : Array Value) (hw : ∀ d ∈ tables_1, d.before a0 Z = true) (x y : Int32) (h0 : Heap) :
    Ct Z ⟨"com/example/local_quorum/localquorum/PermissionEqualsPinLaw", "same", "(II)Z"⟩ method_3_code 4 (Option.some FieldType.boolean) ({ frames := 0, cells := 0, slots := 0, locals := 0 } : Room) #[(.int x), (.int y)] h0 [] (fun v h => v = some (.int (if own_bs x = own_bs y then 1 else 0)) ∧ h0 = h) := by
  refine Ct.intro (Ls := #[.val (.int x), .val (.int y), .unset, .unset]) pn_3 (by intro m; first | (simp [entryFrame, mkF, argsToLocals, Value.category]; done) | rfl) ?_
  refine Rn.iloadN (pc' := 1) d12_0 rfl rfl ?_
  refine Rn.bipush (pc' := 3) (v := (16 : Int32)) d12_1 rfl rfl ?_
  refine Rn.iushr (pc' := 4) (v := (XT.ushr x (16 : Int32))) d12_3 rfl rfl ?_
  refine Rn.iconst (pc' := 5) (v := (1 : Int32)) d12_4 rfl rfl ?_
  refine Rn.iand (pc' := 6) (v := (own_nb x)) d12_5 rfl rfl ?_
  refine Rn.istoreN (pc' := 7) (Ls' := #[.val (.int x), .val (.int y), .val (.int (own_nb x)), .unset]) d12_6 rfl rfl ?_
  refine Rn.iloadN (pc' := 8) d12_7 rfl rfl ?_
  refine Rn.bipush (pc' := 10) (v := (16 : Int32)) d12_8 rfl rfl ?_
  refine Rn.iushr (pc' := 11) (v := (XT.ushr y (16 : Int32))) d12_10 rfl rfl ?_
  refine Rn.iconst (pc' := 12) (v := (1 : Int32)) d12_11 rfl rfl ?_
  refine Rn.iand (pc' := 13) (v := (own_nb y)) d12_12 rfl rfl ?_
  refine Rn.istoreN (pc' := 14) (Ls' := #[.val (.int x), .val (.int y), .val (.int (own_nb x)), .val (.int (own_nb y))]) d12_13 rfl rfl ?_
  refine Rn.iloadN (pc' := 15) d12_14 rfl rfl ?_
  refine Rn.iloadN (pc' := 16) d12_15 rfl rfl ?_
  refine Rn.icmp_eq (pc' := 21) (pn := 19) d12_16 (by decide) (by decide) rfl (fun cq1 => ?_) (fun cq1 => ?_)
  ·
    refine Rn.iloadN (pc' := 22) d12_21 rfl rfl ?_
    refine Rn.sipush (pc' := 25) (v := (255 : Int32)) d12_22 rfl rfl ?_
    refine Rn.iand (pc' := 26) (v := (own_c0 x)) d12_25 rfl rfl ?_
    refine Rn.iloadN (pc' := 27) d12_26 rfl rfl ?_
    refine Rn.sipush (pc' := 30) (v := (255 : Int32)) d12_27 rfl rfl ?_
    refine Rn.iand (pc' := 31) (v := (own_c0 y)) d12_30 rfl rfl ?_
    refine Rn.icmp_eq (pc' := 36) (pn := 34) d12_31 (by decide) (by decide) rfl (fun cq2 => ?_) (fun cq2 => ?_)
    ·
      refine Rn.iloadN (pc' := 37) d12_36 rfl rfl ?_
      refine Rn.if_ne (pc' := 42) (pn := 40) d12_37 (by decide) (by decide) rfl (fun cq3 => ?_) (fun cq3 => ?_)
      ·
        refine Rn.iloadN (pc' := 43) d12_42 rfl rfl ?_
        refine Rn.bipush (pc' := 45) (v := (8 : Int32)) d12_43 rfl rfl ?_
        refine Rn.iushr (pc' := 46) (v := (XT.ushr x (8 : Int32))) d12_45 rfl rfl ?_
        refine Rn.sipush (pc' := 49) (v := (255 : Int32)) d12_46 rfl rfl ?_
        refine Rn.iand (pc' := 50) (v := (own_c1 x)) d12_49 rfl rfl ?_
        refine Rn.iloadN (pc' := 51) d12_50 rfl rfl ?_
        refine Rn.bipush (pc' := 53) (v := (8 : Int32)) d12_51 rfl rfl ?_
        refine Rn.iushr (pc' := 54) (v := (XT.ushr y (8 : Int32))) d12_53 rfl rfl ?_
        refine Rn.sipush (pc' := 57) (v := (255 : Int32)) d12_54 rfl rfl ?_
        refine Rn.iand (pc' := 58) (v := (own_c1 y)) d12_57 rfl rfl ?_
        refine Rn.icmp_ne (pc' := 65) (pn := 61) d12_58 (by decide) (by decide) rfl (fun cq4 => ?_) (fun cq4 => ?_)
        ·
          refine Rn.iconst (pc' := 66) (v := (0 : Int32)) d12_65 rfl rfl ?_
          refine Rn.retN (t := .boolean) rfl (by simp) d12_66 (Nat.le_of_ble_eq_true rfl) (Nat.le_of_ble_eq_true rfl) ?_
          refine ⟨?_, rfl⟩
          exact own_if_f (fun q => cq4 (own_tl cq3 cq1 q))
        ·
          refine Rn.iconst (pc' := 62) (v := (1 : Int32)) d12_61 rfl rfl ?_
          refine Rn.goto (pc' := 66) d12_62 (by decide) (by decide) ?_
          refine Rn.retN (t := .boolean) rfl (by simp) d12_66 (Nat.le_of_ble_eq_true rfl) (Nat.le_of_ble_eq_true rfl) ?_
          refine ⟨?_, rfl⟩
          exact own_if_t (own_eq2 cq3 cq1 cq2 (by simpa using cq4))
      ·
        refine Rn.iconst (pc' := 41) (v := (1 : Int32)) d12_40 rfl rfl ?_
        refine Rn.retN (t := .boolean) rfl (by simp) d12_41 (Nat.le_of_ble_eq_true rfl) (Nat.le_of_ble_eq_true rfl) ?_
        refine ⟨?_, rfl⟩
        exact own_if_t (own_eq1 (by simpa using cq3) cq1 cq2)
    ·
      refine Rn.iconst (pc' := 35) (v := (0 : Int32)) d12_34 rfl rfl ?_
      refine Rn.retN (t := .boolean) rfl (by simp) d12_35 (Nat.le_of_ble_eq_true rfl) (Nat.le_of_ble_eq_true rfl) ?_
      refine ⟨?_, rfl⟩
      exact own_if_f (fun q => cq2 (own_hd q))
  ·
    refine Rn.iconst (pc' := 20) (v := (0 : Int32)) d12_19 rfl rfl ?_
    refine Rn.retN (t := .boolean) rfl (by simp) d12_20 (Nat.le_of_ble_eq_true rfl) (Nat.le_of_ble_eq_true rfl) ?_
    refine ⟨?_, rfl⟩
    exact own_if_f (own_same1 cq1)
theorem own_ln (x : Int32) : ∃ n : Int32, (own_bv x).length.toInt32 = n ∧ n ≠ 0 := by
  by_cases h : own_nb x = 0
  · exact ⟨1, by unfold own_bv; rw [own_bs1 h]; rfl, by decide⟩
  · exact ⟨2, by unfold own_bv; rw [own_bs2 h]; rfl, by decide⟩
theorem d9_0 : decode jdk_42_method_55_code 0 = .ok (.aload_n 0, 1) := by decide +kernel
theorem d9_1 : decode jdk_42_method_55_code 1 = .ok (.getfield 9, 3) := by decide +kernel
theorem d9_4 : decode jdk_42_method_55_code 4 = .ok (.arraylength, 1) := by decide +kernel
theorem d9_5 : decode jdk_42_method_55_code 5 = .ok (.ifCond .ne 7, 3) := by decide +kernel
theorem d9_8 : decode jdk_42_method_55_code 8 = .ok (.iconst 1, 1) := by decide +kernel
theorem d9_9 : decode jdk_42_method_55_code 9 = .ok (.goto 4, 3) := by decide +kernel
theorem d9_12 : decode jdk_42_method_55_code 12 = .ok (.iconst 0, 1) := by decide +kernel
theorem d9_13 : decode jdk_42_method_55_code 13 = .ok (.ireturn, 1) := by decide +kernel
set_option maxRecDepth 65536 in
set_option maxHeartbeats 40000000 in
theorem ct_ie (Z : State) (a0 : Array Value) (hw : ∀ d ∈ tables_1, d.before a0 Z = true) (s t : Addr) (x : Int32) (h0 : Heap) (G : Sg Z h0 s t (own_bv x)) :
    Ct Z ⟨"java/lang/String", "isEmpty", "()Z"⟩ jdk_42_method_55_code 1 (Option.some FieldType.boolean) ({ frames := 0, cells := 0, slots := 0, locals := 0 } : Room) #[(.ref s)] h0 [] (fun v h => v = some (.int (0 : Int32)) ∧ h0 = h) := by
  refine Ct.intro (Ls := #[.val (.ref s)]) pn_1 (by intro m; first | (simp [entryFrame, mkF, argsToLocals, Value.category]; done) | rfl) ?_
  obtain ⟨n, en, hn⟩ := own_ln x
  refine Rn.aloadN (pc' := 1) d9_0 rfl rfl rfl ?_
  refine Rn.getF (pc' := 4) (host := "") (Or.inl (hw _ (List.mem_of_getElem? (i := 29) rfl))) Via.refl G.2.2.1 d9_1 rfl ?_
  refine Rn.arraylength (pc' := 5) (n := n) G.2.2.2 en d9_4 rfl ?_
  refine Rn.if_ne (pc' := 12) (pn := 8) d9_5 (by decide) (by decide) rfl (fun cq1 => ?_) (fun cq1 => absurd (by simpa using cq1) hn)
  refine Rn.iconst (pc' := 13) (v := (0 : Int32)) d9_12 rfl rfl ?_
  refine Rn.retN (t := .boolean) rfl (by simp) d9_13 (Nat.le_of_ble_eq_true rfl) (Nat.le_of_ble_eq_true rfl) ?_
  exact ⟨rfl, rfl⟩
theorem d8_0 : decode jdk_31_method_11_code 0 = .ok (.aload_n 0, 1) := by decide +kernel
theorem d8_1 : decode jdk_31_method_11_code 1 = .ok (.ifnonnull 12, 3) := by decide +kernel
theorem d8_4 : decode jdk_31_method_11_code 4 = .ok (.new 84, 3) := by decide +kernel
theorem d8_7 : decode jdk_31_method_11_code 7 = .ok (.dup, 1) := by decide +kernel
theorem d8_8 : decode jdk_31_method_11_code 8 = .ok (.aload_n 1, 1) := by decide +kernel
theorem d8_9 : decode jdk_31_method_11_code 9 = .ok (.invokespecial 87, 3) := by decide +kernel
theorem d8_12 : decode jdk_31_method_11_code 12 = .ok (.athrow, 1) := by decide +kernel
theorem d8_13 : decode jdk_31_method_11_code 13 = .ok (.aload_n 0, 1) := by decide +kernel
theorem d8_14 : decode jdk_31_method_11_code 14 = .ok (.areturn, 1) := by decide +kernel
set_option maxRecDepth 65536 in
set_option maxHeartbeats 40000000 in
theorem ct_rn (Z : State) (a0 : Array Value) (hw : ∀ d ∈ tables_1, d.before a0 Z = true) (s m : Addr) (h0 : Heap) :
    Ct Z ⟨"java/util/Objects", "requireNonNull", "(Ljava/lang/Object;Ljava/lang/String;)Ljava/lang/Object;"⟩ jdk_31_method_11_code 2 (Option.some (FieldType.object "java/lang/Object")) ({ frames := 0, cells := 0, slots := 0, locals := 0 } : Room) #[(.ref s), (.ref m)] h0 [] (fun v h => v = some (.ref s) ∧ h0 = h) := by
  refine Ct.intro (Ls := #[.val (.ref s), .val (.ref m)]) pn_4 (by intro m; first | (simp [entryFrame, mkF, argsToLocals, Value.category]; done) | rfl) ?_
  refine Rn.aloadN (pc' := 1) d8_0 rfl rfl rfl ?_
  refine Rn.ifnonnull_y (pc' := 13) d8_1 (by decide) (by decide) ?_
  refine Rn.aloadN (pc' := 14) d8_13 rfl rfl rfl ?_
  refine Rn.retA (t := (.object "java/lang/Object")) rfl rfl rfl d8_14 (Nat.le_of_ble_eq_true rfl) (Nat.le_of_ble_eq_true rfl) ?_
  exact ⟨rfl, rfl⟩
theorem d7_0 : decode prog_17_method_2_code 0 = .ok (.aload_n 0, 1) := by decide +kernel
theorem d7_1 : decode prog_17_method_2_code 1 = .ok (.aload_n 1, 1) := by decide +kernel
theorem d7_2 : decode prog_17_method_2_code 2 = .ok (.invokestatic 7, 3) := by decide +kernel
theorem d7_5 : decode prog_17_method_2_code 5 = .ok (.pop, 1) := by decide +kernel
theorem d7_6 : decode prog_17_method_2_code 6 = .ok (.aload_n 0, 1) := by decide +kernel
theorem d7_7 : decode prog_17_method_2_code 7 = .ok (.invokevirtual 13, 3) := by decide +kernel
theorem d7_10 : decode prog_17_method_2_code 10 = .ok (.ifCond .eq 17, 3) := by decide +kernel
theorem d7_13 : decode prog_17_method_2_code 13 = .ok (.new 19, 3) := by decide +kernel
theorem d7_16 : decode prog_17_method_2_code 16 = .ok (.dup, 1) := by decide +kernel
theorem d7_17 : decode prog_17_method_2_code 17 = .ok (.aload_n 1, 1) := by decide +kernel
theorem d7_18 : decode prog_17_method_2_code 18 = .ok (.invokedynamic 21, 5) := by decide +kernel
theorem d7_23 : decode prog_17_method_2_code 23 = .ok (.invokespecial 25, 3) := by decide +kernel
theorem d7_26 : decode prog_17_method_2_code 26 = .ok (.athrow, 1) := by decide +kernel
theorem d7_27 : decode prog_17_method_2_code 27 = .ok (.aload_n 0, 1) := by decide +kernel
theorem d7_28 : decode prog_17_method_2_code 28 = .ok (.areturn, 1) := by decide +kernel
set_option maxRecDepth 65536 in
set_option maxHeartbeats 40000000 in
theorem ct_rq (Z : State) (a0 : Array Value) (hw : ∀ d ∈ tables_1, d.before a0 Z = true) (s t m : Addr) (x : Int32) (h0 : Heap) (G : Sg Z h0 s t (own_bv x)) :
    Ct Z ⟨"com/example/local_quorum/localquorum/Names", "require", "(Ljava/lang/String;Ljava/lang/String;)Ljava/lang/String;"⟩ prog_17_method_2_code 2 (Option.some (FieldType.object "java/lang/String")) ({ frames := 1, cells := 0, slots := 0, locals := 13 } : Room) #[(.ref s), (.ref m)] h0 [] (fun v h => v = some (.ref s) ∧ h0 = h) := by
  refine Ct.intro (Ls := #[.val (.ref s), .val (.ref m)]) pn_5 (by intro m; first | (simp [entryFrame, mkF, argsToLocals, Value.category]; done) | rfl) ?_
  refine Rn.aloadN (pc' := 1) d7_0 rfl rfl rfl ?_
  refine Rn.aloadN (pc' := 2) d7_1 rfl rfl rfl ?_
  refine Rn.callS (pc' := 5) (argsL := [.ref s, .ref m]) (rest := []) (ct_rn Z a0 hw s m h0) (hw _ (List.mem_of_getElem? (i := 44) rfl)) (hw _ (List.mem_of_getElem? (i := 45) rfl)) (hw _ (List.mem_of_getElem? (i := 46) rfl)) (hw _ (List.mem_of_getElem? (i := 47) rfl)) (by decide) rfl rfl (lenOf pd_9 rfl) rfl d7_2 rfl (Nat.le_of_ble_eq_true rfl) (Nat.le_of_ble_eq_true rfl) (Nat.le_of_ble_eq_true rfl) (Nat.le_of_ble_eq_true rfl) (fun _ z => nomatch z) (fun _ z => nomatch z) (fun vq1 hq2 Kq3 qq4 => ?_)
  obtain ⟨rfl, rfl⟩ := qq4
  simp only [Option.toList, List.cons_append, List.nil_append]
  refine Rn.pop (pc' := 6) d7_5 rfl rfl ?_
  refine Rn.aloadN (pc' := 7) d7_6 rfl rfl rfl ?_
  refine Rn.callV (pc' := 10) (argsL := []) (a := s) (rest := []) (ct_ie Z a0 hw s t x h0 G) G.1 (hw _ (List.mem_of_getElem? (i := 48) rfl)) (hw _ (List.mem_of_getElem? (i := 49) rfl)) (fun _ hZ => notFace_of_selects (args := #[]) (mvT hZ (hw _ (List.mem_of_getElem? (i := 51) rfl)))) (hw _ (List.mem_of_getElem? (i := 51) rfl)) (hw _ (List.mem_of_getElem? (i := 50) rfl)) (hw _ (List.mem_of_getElem? (i := 9) rfl)) (hw _ (List.mem_of_getElem? (i := 52) rfl)) (by decide) rfl rfl (lenOf pd_10 rfl) rfl d7_7 rfl (Nat.le_of_ble_eq_true rfl) (Nat.le_of_ble_eq_true rfl) (Nat.le_of_ble_eq_true rfl) (Nat.le_of_ble_eq_true rfl) (fun _ z => nomatch z) (fun _ z => nomatch z) (fun vq5 hq6 Kq7 qq8 => ?_)
  obtain ⟨rfl, rfl⟩ := qq8
  simp only [Option.toList, List.cons_append, List.nil_append]
  refine Rn.if_eq (pc' := 27) (pn := 13) d7_10 (by decide) (by decide) rfl (fun cq9 => ?_) (fun cq9 => absurd cq9 (by decide))
  refine Rn.aloadN (pc' := 28) d7_27 rfl rfl rfl ?_
  refine Rn.retA (t := (.object "java/lang/String")) rfl rfl rfl d7_28 (Nat.le_of_ble_eq_true rfl) (Nat.le_of_ble_eq_true rfl) ?_
  exact ⟨rfl, rfl⟩
theorem d6_0 : decode prog_20_method_1_code 0 = .ok (.aload_n 0, 1) := by decide +kernel
theorem d6_1 : decode prog_20_method_1_code 1 = .ok (.invokespecial 1, 3) := by decide +kernel
theorem d6_4 : decode prog_20_method_1_code 4 = .ok (.aload_n 0, 1) := by decide +kernel
theorem d6_5 : decode prog_20_method_1_code 5 = .ok (.aload_n 1, 1) := by decide +kernel
theorem d6_6 : decode prog_20_method_1_code 6 = .ok (.ldc 7, 2) := by decide +kernel
theorem d6_8 : decode prog_20_method_1_code 8 = .ok (.invokestatic 9, 3) := by decide +kernel
theorem d6_11 : decode prog_20_method_1_code 11 = .ok (.putfield 15, 3) := by decide +kernel
theorem d6_14 : decode prog_20_method_1_code 14 = .ok (.aload_n 0, 1) := by decide +kernel
theorem d6_15 : decode prog_20_method_1_code 15 = .ok (.aload_n 2, 1) := by decide +kernel
theorem d6_16 : decode prog_20_method_1_code 16 = .ok (.ldc 20, 2) := by decide +kernel
theorem d6_18 : decode prog_20_method_1_code 18 = .ok (.invokestatic 9, 3) := by decide +kernel
theorem d6_21 : decode prog_20_method_1_code 21 = .ok (.putfield 22, 3) := by decide +kernel
theorem d6_24 : decode prog_20_method_1_code 24 = .ok (.return_, 1) := by decide +kernel
set_option maxRecDepth 65536 in
set_option maxHeartbeats 40000000 in
theorem ct_pi (Z : State) (a0 : Array Value) (hw : ∀ d ∈ tables_1, d.before a0 Z = true) (hE : EW Z a0 []) (p s t s' t' : Addr) (x x' : Int32) (h0 : Heap) (E : Exa Z h0 p "com/example/local_quorum/localquorum/Permission") (F : Fld Z h0 p "com/example/local_quorum/localquorum/Permission" "action" "Ljava/lang/String;" .null) (F' : Fld Z h0 p "com/example/local_quorum/localquorum/Permission" "object" "Ljava/lang/String;" .null) (G : Sg Z h0 s t (own_bv x)) (G' : Sg Z h0 s' t' (own_bv x')) (n1 : s ≠ p) (n2 : t ≠ p) (n3 : s' ≠ p) (n4 : t' ≠ p) :
    CtW Z [] ⟨"com/example/local_quorum/localquorum/Permission", "<init>", "(Ljava/lang/String;Ljava/lang/String;)V"⟩ prog_20_method_1_code 3 (Option.none : Option FieldType) ({ frames := 2, cells := 4, slots := 56, locals := 27 } : Room) #[(.ref p), (.ref s), (.ref s')] h0 [] [p] (fun v h => v = none ∧ Exa Z h p "com/example/local_quorum/localquorum/Permission" ∧ Fld Z h p "com/example/local_quorum/localquorum/Permission" "action" "Ljava/lang/String;" (.ref s) ∧ Fld Z h p "com/example/local_quorum/localquorum/Permission" "object" "Ljava/lang/String;" (.ref s')) := by
  refine CtW.intro (Ls := #[.val (.ref p), .val (.ref s), .val (.ref s')]) pn_6 (by intro m; first | (simp [entryFrame, mkF, argsToLocals, Value.category]; done) | rfl) ?_
  refine Rn.aloadN (pc' := 1) d6_0 rfl rfl rfl ?_
  refine Rn.initO (pc' := 4) (hw _ (List.mem_of_getElem? (i := 36) rfl)) (hw _ (List.mem_of_getElem? (i := 27) rfl)) (hw _ (List.mem_of_getElem? (i := 28) rfl)) rfl d6_1 (Nat.le_of_ble_eq_true rfl) (Nat.le_of_ble_eq_true rfl) rfl ?_
  refine Rn.aloadN (pc' := 5) d6_4 rfl rfl rfl ?_
  refine Rn.aloadN (pc' := 6) d6_5 rfl rfl rfl ?_
  refine Rn.ldcO (pc' := 8) (n := 24) hE (own_wS hw) (hw _ (List.mem_of_getElem? (i := 37) rfl)) d6_6 (Nat.le_of_ble_eq_true rfl) (Nat.le_of_ble_eq_true rfl) (Nat.le_of_ble_eq_true rfl) (Nat.le_of_ble_eq_true rfl) rfl (fun hq1 aq2 Eq3 => ?_)
  have Fq4 := G.1.ext Eq3
  have Fq5 := G.2.1.ext Eq3
  have Fq6 := G.2.2.1.ext Eq3
  have Fq7 := G.2.2.2.ext Eq3
  refine Rn.callS (pc' := 11) (argsL := [.ref s, .ref aq2]) (rest := [.ref p]) (ct_rq Z a0 hw s t aq2 x hq1 ⟨Fq4, Fq5, Fq6, Fq7⟩) (hw _ (List.mem_of_getElem? (i := 40) rfl)) (hw _ (List.mem_of_getElem? (i := 41) rfl)) (hw _ (List.mem_of_getElem? (i := 42) rfl)) (hw _ (List.mem_of_getElem? (i := 43) rfl)) (by decide) rfl rfl (lenOf pd_11 rfl) rfl d6_8 rfl (Nat.le_of_ble_eq_true rfl) (Nat.le_of_ble_eq_true rfl) (Nat.le_of_ble_eq_true rfl) (Nat.le_of_ble_eq_true rfl) (fun _ z => nomatch z) (fun _ z => nomatch z) (fun vq8 hq9 Kq10 qq11 => ?_)
  obtain ⟨rfl, rfl⟩ := qq11
  simp only [Option.toList, List.cons_append, List.nil_append]
  have Fq12 := F.ext Eq3
  have Fq13 := E.ext Eq3
  refine Rn.putF (pc' := 14) (hw _ (List.mem_of_getElem? (i := 53) rfl)) Via.refl Fq12 Fq13 (Or.inr ⟨(hw _ (List.mem_of_getElem? (i := 54) rfl)), rfl, rfl⟩) (hw _ (List.mem_of_getElem? (i := 1) rfl)) (ty := (.object "java/lang/String")) (by decide) rfl rfl (Or.inl (List.mem_of_getElem? (i := 0) rfl)) (Sf.exa Fq13 (by decide) (by decide)) d6_11 rfl (fun hq15 Wq14 => ?_)
  have Fq16 := Fq12.same Wq14
  refine Rn.aloadN (pc' := 15) d6_14 rfl rfl rfl ?_
  refine Rn.aloadN (pc' := 16) d6_15 rfl rfl rfl ?_
  refine Rn.ldcO (pc' := 18) (n := 24) hE (own_wS hw) (hw _ (List.mem_of_getElem? (i := 55) rfl)) d6_16 (Nat.le_of_ble_eq_true rfl) (Nat.le_of_ble_eq_true rfl) (Nat.le_of_ble_eq_true rfl) (Nat.le_of_ble_eq_true rfl) rfl (fun hq17 aq18 Eq19 => ?_)
  have Fq20 := G'.1.ext Eq3
  have Fq21 := Fq20.wr Wq14
  have Fq22 := Fq21.ext Eq19
  have Fq23 := G'.2.1.ext Eq3
  have Fq24 := Fq23.other Wq14 (Or.inl n3)
  have Fq25 := Fq24.ext Eq19
  have Fq26 := G'.2.2.1.ext Eq3
  have Fq27 := Fq26.other Wq14 (Or.inl n3)
  have Fq28 := Fq27.ext Eq19
  have Fq29 := G'.2.2.2.ext Eq3
  have Fq30 := Fq29.other Wq14 n4
  have Fq31 := Fq30.ext Eq19
  refine Rn.callS (pc' := 21) (argsL := [.ref s', .ref aq18]) (rest := [.ref p]) (ct_rq Z a0 hw s' t' aq18 x' hq17 ⟨Fq22, Fq25, Fq28, Fq31⟩) (hw _ (List.mem_of_getElem? (i := 40) rfl)) (hw _ (List.mem_of_getElem? (i := 41) rfl)) (hw _ (List.mem_of_getElem? (i := 42) rfl)) (hw _ (List.mem_of_getElem? (i := 43) rfl)) (by decide) rfl rfl (lenOf pd_11 rfl) rfl d6_18 rfl (Nat.le_of_ble_eq_true rfl) (Nat.le_of_ble_eq_true rfl) (Nat.le_of_ble_eq_true rfl) (Nat.le_of_ble_eq_true rfl) (fun _ z => nomatch z) (fun _ z => nomatch z) (fun vq32 hq33 Kq34 qq35 => ?_)
  obtain ⟨rfl, rfl⟩ := qq35
  simp only [Option.toList, List.cons_append, List.nil_append]
  have Fq36 := F'.ext Eq3
  have Fq37 := Fq36.other Wq14 (Or.inr (slot_ne (t := (.object "java/lang/String")) (t' := (.object "java/lang/String")) (Or.inr (hw _ (List.mem_of_getElem? (i := 57) rfl))) (Or.inr (hw _ (List.mem_of_getElem? (i := 54) rfl))) (by decide) (by decide) (by decide)))
  have Fq38 := Fq37.ext Eq19
  have Fq39 := Fq13.wr Wq14
  have Fq40 := Fq39.ext Eq19
  refine Rn.putF (pc' := 24) (hw _ (List.mem_of_getElem? (i := 56) rfl)) Via.refl Fq38 Fq40 (Or.inr ⟨(hw _ (List.mem_of_getElem? (i := 57) rfl)), rfl, rfl⟩) (hw _ (List.mem_of_getElem? (i := 1) rfl)) (ty := (.object "java/lang/String")) (by decide) rfl rfl (Or.inl (List.mem_of_getElem? (i := 0) rfl)) (Sf.exa Fq40 (by decide) (by decide)) d6_21 rfl (fun hq42 Wq41 => ?_)
  have Fq43 := Fq38.same Wq41
  refine Rn.retV rfl d6_24 (Nat.le_of_ble_eq_true rfl) (Nat.le_of_ble_eq_true rfl) ?_
  have Fq44 := Fq40.wr Wq41
  have Fq45 := Fq16.ext Eq19
  have Fq46 := Fq45.other Wq41 (Or.inr (slot_ne (t := (.object "java/lang/String")) (t' := (.object "java/lang/String")) (Or.inr (hw _ (List.mem_of_getElem? (i := 54) rfl))) (Or.inr (hw _ (List.mem_of_getElem? (i := 57) rfl))) (by decide) (by decide) (by decide)))
  exact ⟨rfl, Fq44, Fq46, Fq43⟩
theorem d13_0 : decode jdk_43_method_13_code 0 = .ok (.aload_n 0, 1) := by decide +kernel
theorem d13_1 : decode jdk_43_method_13_code 1 = .ok (.arraylength, 1) := by decide +kernel
theorem d13_2 : decode jdk_43_method_13_code 2 = .ok (.aload_n 1, 1) := by decide +kernel
theorem d13_3 : decode jdk_43_method_13_code 3 = .ok (.arraylength, 1) := by decide +kernel
theorem d13_4 : decode jdk_43_method_13_code 4 = .ok (.if_icmp .ne 30, 3) := by decide +kernel
theorem d13_7 : decode jdk_43_method_13_code 7 = .ok (.iconst 0, 1) := by decide +kernel
theorem d13_8 : decode jdk_43_method_13_code 8 = .ok (.istore_n 2, 1) := by decide +kernel
theorem d13_9 : decode jdk_43_method_13_code 9 = .ok (.iload_n 2, 1) := by decide +kernel
theorem d13_10 : decode jdk_43_method_13_code 10 = .ok (.aload_n 0, 1) := by decide +kernel
theorem d13_11 : decode jdk_43_method_13_code 11 = .ok (.arraylength, 1) := by decide +kernel
theorem d13_12 : decode jdk_43_method_13_code 12 = .ok (.if_icmp .ge 20, 3) := by decide +kernel
theorem d13_15 : decode jdk_43_method_13_code 15 = .ok (.aload_n 0, 1) := by decide +kernel
theorem d13_16 : decode jdk_43_method_13_code 16 = .ok (.iload_n 2, 1) := by decide +kernel
theorem d13_17 : decode jdk_43_method_13_code 17 = .ok (.baload, 1) := by decide +kernel
theorem d13_18 : decode jdk_43_method_13_code 18 = .ok (.aload_n 1, 1) := by decide +kernel
theorem d13_19 : decode jdk_43_method_13_code 19 = .ok (.iload_n 2, 1) := by decide +kernel
theorem d13_20 : decode jdk_43_method_13_code 20 = .ok (.baload, 1) := by decide +kernel
theorem d13_21 : decode jdk_43_method_13_code 21 = .ok (.if_icmp .eq 5, 3) := by decide +kernel
theorem d13_24 : decode jdk_43_method_13_code 24 = .ok (.iconst 0, 1) := by decide +kernel
theorem d13_25 : decode jdk_43_method_13_code 25 = .ok (.ireturn, 1) := by decide +kernel
theorem d13_26 : decode jdk_43_method_13_code 26 = .ok (.iinc 2 1, 3) := by decide +kernel
theorem d13_29 : decode jdk_43_method_13_code 29 = .ok (.goto (-20), 3) := by decide +kernel
theorem d13_32 : decode jdk_43_method_13_code 32 = .ok (.iconst 1, 1) := by decide +kernel
theorem d13_33 : decode jdk_43_method_13_code 33 = .ok (.ireturn, 1) := by decide +kernel
theorem d13_34 : decode jdk_43_method_13_code 34 = .ok (.iconst 0, 1) := by decide +kernel
theorem d13_35 : decode jdk_43_method_13_code 35 = .ok (.ireturn, 1) := by decide +kernel
set_option maxRecDepth 65536 in
set_option maxHeartbeats 40000000 in
theorem ct_leq1_1 (Z : State) (a0 : Array Value) (hw : ∀ d ∈ tables_1, d.before a0 Z = true) (t u : Addr) (b0 d0 : Int32) (h0 : Heap) (A : Ax Z h0 t .byte [.int b0]) (B : Ax Z h0 u .byte [.int d0]) :
    Ct Z ⟨"java/lang/StringLatin1", "equals", "([B[B)Z"⟩ jdk_43_method_13_code 3 (Option.some FieldType.boolean) ({ frames := 0, cells := 0, slots := 0, locals := 0 } : Room) #[(.ref t), (.ref u)] h0 [] (fun v h => v = some (.int (if [b0] = [d0] then 1 else 0)) ∧ h0 = h) := by
  refine Ct.intro (Ls := #[.val (.ref t), .val (.ref u), .unset]) pn_0 (by intro m; first | (simp [entryFrame, mkF, argsToLocals, Value.category]; done) | rfl) ?_
  refine Rn.aloadN (pc' := 1) d13_0 rfl rfl rfl ?_
  refine Rn.arraylength (pc' := 2) (n := (1 : Int32)) A rfl d13_1 rfl ?_
  refine Rn.aloadN (pc' := 3) d13_2 rfl rfl rfl ?_
  refine Rn.arraylength (pc' := 4) (n := (1 : Int32)) B rfl d13_3 rfl ?_
  refine Rn.icmp_ne (pc' := 34) (pn := 7) d13_4 (by decide) (by decide) rfl (fun cq1 => absurd cq1 (by decide)) (fun cq1 => ?_)
  refine Rn.iconst (pc' := 8) (v := (0 : Int32)) d13_7 rfl rfl ?_
  refine Rn.istoreN (pc' := 9) (Ls' := #[.val (.ref t), .val (.ref u), .val (.int (0 : Int32))]) d13_8 rfl rfl ?_
  refine Rn.iloadN (pc' := 10) d13_9 rfl rfl ?_
  refine Rn.aloadN (pc' := 11) d13_10 rfl rfl rfl ?_
  refine Rn.arraylength (pc' := 12) (n := (1 : Int32)) A rfl d13_11 rfl ?_
  refine Rn.icmp_ge (pc' := 32) (pn := 15) d13_12 (by decide) (by decide) rfl (fun cq2 => absurd cq2 (by decide)) (fun cq2 => ?_)
  refine Rn.aloadN (pc' := 16) d13_15 rfl rfl rfl ?_
  refine Rn.iloadN (pc' := 17) d13_16 rfl rfl ?_
  refine Rn.baload (pc' := 18) (v := .int b0) A (by decide) rfl d13_17 rfl ?_
  refine Rn.aloadN (pc' := 19) d13_18 rfl rfl rfl ?_
  refine Rn.iloadN (pc' := 20) d13_19 rfl rfl ?_
  refine Rn.baload (pc' := 21) (v := .int d0) B (by decide) rfl d13_20 rfl ?_
  refine Rn.icmp_eq (pc' := 26) (pn := 24) d13_21 (by decide) (by decide) rfl (fun cq3 => ?_) (fun cq3 => ?_)
  ·
    refine Rn.iinc (pc' := 29) (v := (1 : Int32)) (Ls' := #[.val (.ref t), .val (.ref u), .val (.int (1 : Int32))]) d13_26 rfl rfl rfl rfl ?_
    refine Rn.goto (pc' := 9) d13_29 (by decide) (by decide) ?_
    refine Rn.iloadN (pc' := 10) d13_9 rfl rfl ?_
    refine Rn.aloadN (pc' := 11) d13_10 rfl rfl rfl ?_
    refine Rn.arraylength (pc' := 12) (n := (1 : Int32)) A rfl d13_11 rfl ?_
    refine Rn.icmp_ge (pc' := 32) (pn := 15) d13_12 (by decide) (by decide) rfl (fun cq4 => ?_) (fun cq4 => absurd cq4 (by decide))
    refine Rn.iconst (pc' := 33) (v := (1 : Int32)) d13_32 rfl rfl ?_
    refine Rn.retN (t := .boolean) rfl (by simp) d13_33 (Nat.le_of_ble_eq_true rfl) (Nat.le_of_ble_eq_true rfl) ?_
    exact ⟨own_if_t (by simp only [*]), rfl⟩
  ·
    refine Rn.iconst (pc' := 25) (v := (0 : Int32)) d13_24 rfl rfl ?_
    refine Rn.retN (t := .boolean) rfl (by simp) d13_25 (Nat.le_of_ble_eq_true rfl) (Nat.le_of_ble_eq_true rfl) ?_
    exact ⟨own_if_f (fun q => by simp only [List.cons.injEq] at q; simp_all), rfl⟩
theorem d11_0 : decode jdk_42_method_66_code 0 = .ok (.aload_n 0, 1) := by decide +kernel
theorem d11_1 : decode jdk_42_method_66_code 1 = .ok (.aload_n 1, 1) := by decide +kernel
theorem d11_2 : decode jdk_42_method_66_code 2 = .ok (.if_acmp .ne 5, 3) := by decide +kernel
theorem d11_5 : decode jdk_42_method_66_code 5 = .ok (.iconst 1, 1) := by decide +kernel
theorem d11_6 : decode jdk_42_method_66_code 6 = .ok (.ireturn, 1) := by decide +kernel
theorem d11_7 : decode jdk_42_method_66_code 7 = .ok (.aload_n 1, 1) := by decide +kernel
theorem d11_8 : decode jdk_42_method_66_code 8 = .ok (.instanceof 10, 3) := by decide +kernel
theorem d11_11 : decode jdk_42_method_66_code 11 = .ok (.ifCond .eq 43, 3) := by decide +kernel
theorem d11_14 : decode jdk_42_method_66_code 14 = .ok (.aload_n 1, 1) := by decide +kernel
theorem d11_15 : decode jdk_42_method_66_code 15 = .ok (.checkcast 10, 3) := by decide +kernel
theorem d11_18 : decode jdk_42_method_66_code 18 = .ok (.astore_n 2, 1) := by decide +kernel
theorem d11_19 : decode jdk_42_method_66_code 19 = .ok (.getstatic 38, 3) := by decide +kernel
theorem d11_22 : decode jdk_42_method_66_code 22 = .ok (.ifCond .eq 14, 3) := by decide +kernel
theorem d11_25 : decode jdk_42_method_66_code 25 = .ok (.aload_n 0, 1) := by decide +kernel
theorem d11_26 : decode jdk_42_method_66_code 26 = .ok (.getfield 15, 3) := by decide +kernel
theorem d11_29 : decode jdk_42_method_66_code 29 = .ok (.aload_n 2, 1) := by decide +kernel
theorem d11_30 : decode jdk_42_method_66_code 30 = .ok (.getfield 15, 3) := by decide +kernel
theorem d11_33 : decode jdk_42_method_66_code 33 = .ok (.if_icmp .ne 21, 3) := by decide +kernel
theorem d11_36 : decode jdk_42_method_66_code 36 = .ok (.aload_n 0, 1) := by decide +kernel
theorem d11_37 : decode jdk_42_method_66_code 37 = .ok (.getfield 9, 3) := by decide +kernel
theorem d11_40 : decode jdk_42_method_66_code 40 = .ok (.aload_n 2, 1) := by decide +kernel
theorem d11_41 : decode jdk_42_method_66_code 41 = .ok (.getfield 9, 3) := by decide +kernel
theorem d11_44 : decode jdk_42_method_66_code 44 = .ok (.invokestatic 541, 3) := by decide +kernel
theorem d11_47 : decode jdk_42_method_66_code 47 = .ok (.ifCond .eq 7, 3) := by decide +kernel
theorem d11_50 : decode jdk_42_method_66_code 50 = .ok (.iconst 1, 1) := by decide +kernel
theorem d11_51 : decode jdk_42_method_66_code 51 = .ok (.goto 4, 3) := by decide +kernel
theorem d11_54 : decode jdk_42_method_66_code 54 = .ok (.iconst 0, 1) := by decide +kernel
theorem d11_55 : decode jdk_42_method_66_code 55 = .ok (.ireturn, 1) := by decide +kernel
set_option maxRecDepth 65536 in
set_option maxHeartbeats 40000000 in
theorem ct_seq1_1 (Z : State) (a0 : Array Value) (hw : ∀ d ∈ tables_1, d.before a0 Z = true) (x t y u : Addr) (b0 d0 : Int32) (z : Int32) (hz : z ≠ 0) (h0 : Heap) (G : Sg Z h0 x t [.int b0]) (H : Sg Z h0 y u [.int d0]) (hn : x ≠ y) (S : Sta Z Z.heap "java/lang/String" "COMPACT_STRINGS" "Z" (.int z)) :
    Ct Z ⟨"java/lang/String", "equals", "(Ljava/lang/Object;)Z"⟩ jdk_42_method_66_code 3 (Option.some FieldType.boolean) ({ frames := 1, cells := 0, slots := 0, locals := 14 } : Room) #[(.ref x), (.ref y)] h0 [] (fun v h => v = some (.int (if [b0] = [d0] then 1 else 0)) ∧ h0 = h) := by
  refine Ct.intro (Ls := #[.val (.ref x), .val (.ref y), .unset]) pn_1 (by intro m; first | (simp [entryFrame, mkF, argsToLocals, Value.category]; done) | rfl) ?_
  obtain ⟨E, Co, V, A⟩ := G
  obtain ⟨E', Co', V', B⟩ := H
  refine Rn.aloadN (pc' := 1) d11_0 rfl rfl rfl ?_
  refine Rn.aloadN (pc' := 2) d11_1 rfl rfl rfl ?_
  refine Rn.acmp_ne (pc' := 7) (pn := 5) rfl rfl d11_2 (by decide) (by decide) rfl (fun cq1 => ?_) (fun cq1 => absurd (Value.ref.inj cq1) hn)
  refine Rn.aloadN (pc' := 8) d11_7 rfl rfl rfl ?_
  refine Rn.instY (pc' := 11) (hw _ (List.mem_of_getElem? (i := 16) rfl)) (Ins.self E') d11_8 rfl ?_
  refine Rn.if_eq (pc' := 54) (pn := 14) d11_11 (by decide) (by decide) rfl (fun cq2 => absurd cq2 (by decide)) (fun cq2 => ?_)
  refine Rn.aloadN (pc' := 15) d11_14 rfl rfl rfl ?_
  refine Rn.castY (pc' := 18) (hw _ (List.mem_of_getElem? (i := 16) rfl)) (Ins.self E') d11_15 rfl ?_
  refine Rn.astoreN (pc' := 19) (Ls' := #[.val (.ref x), .val (.ref y), .val (.ref y)]) d11_18 rfl rfl rfl ?_
  refine Rn.old fun Oq3 _ => ?_
  refine Rn.getS (pc' := 22) (hw _ (List.mem_of_getElem? (i := 11) rfl)) Via.refl (S.ext Oq3) d11_19 rfl ?_
  refine Rn.if_eq (pc' := 36) (pn := 25) d11_22 (by decide) (by decide) rfl (fun cq4 => absurd cq4 hz) (fun cq4 => ?_)
  refine Rn.aloadN (pc' := 26) d11_25 rfl rfl rfl ?_
  refine Rn.getF (pc' := 29) (host := "") (Or.inl (hw _ (List.mem_of_getElem? (i := 31) rfl))) Via.refl Co d11_26 rfl ?_
  refine Rn.aloadN (pc' := 30) d11_29 rfl rfl rfl ?_
  refine Rn.getF (pc' := 33) (host := "") (Or.inl (hw _ (List.mem_of_getElem? (i := 31) rfl))) Via.refl Co' d11_30 rfl ?_
  refine Rn.icmp_ne (pc' := 54) (pn := 36) d11_33 (by decide) (by decide) rfl (fun cq5 => absurd cq5 (by decide)) (fun cq5 => ?_)
  refine Rn.aloadN (pc' := 37) d11_36 rfl rfl rfl ?_
  refine Rn.getF (pc' := 40) (host := "") (Or.inl (hw _ (List.mem_of_getElem? (i := 29) rfl))) Via.refl V d11_37 rfl ?_
  refine Rn.aloadN (pc' := 41) d11_40 rfl rfl rfl ?_
  refine Rn.getF (pc' := 44) (host := "") (Or.inl (hw _ (List.mem_of_getElem? (i := 29) rfl))) Via.refl V' d11_41 rfl ?_
  refine Rn.callS (pc' := 47) (argsL := [.ref t, .ref u]) (rest := []) (ct_leq1_1 Z a0 hw t u b0 d0 h0 A B) (hw _ (List.mem_of_getElem? (i := 73) rfl)) (hw _ (List.mem_of_getElem? (i := 74) rfl)) (hw _ (List.mem_of_getElem? (i := 14) rfl)) (hw _ (List.mem_of_getElem? (i := 75) rfl)) (by decide) rfl rfl (lenOf pd_12 rfl) rfl d11_44 rfl (Nat.le_of_ble_eq_true rfl) (Nat.le_of_ble_eq_true rfl) (Nat.le_of_ble_eq_true rfl) (Nat.le_of_ble_eq_true rfl) (fun _ z => nomatch z) (fun _ z => nomatch z) (fun vq6 hq7 Kq8 qq9 => ?_)
  obtain ⟨rfl, rfl⟩ := qq9
  simp only [Option.toList, List.cons_append, List.nil_append]
  refine Rn.if_eq (pc' := 54) (pn := 50) d11_47 (by decide) (by decide) rfl (fun cq10 => ?_) (fun cq10 => ?_)
  ·
    refine Rn.iconst (pc' := 55) (v := (0 : Int32)) d11_54 rfl rfl ?_
    refine Rn.retN (t := .boolean) rfl (by simp) d11_55 (Nat.le_of_ble_eq_true rfl) (Nat.le_of_ble_eq_true rfl) ?_
    refine ⟨?_, rfl⟩
    first | exact own_if_t (by by_cases q : [b0] = [d0]; exact q; simp_all) | exact own_if_f (fun q => by simp_all)
  ·
    refine Rn.iconst (pc' := 51) (v := (1 : Int32)) d11_50 rfl rfl ?_
    refine Rn.goto (pc' := 55) d11_51 (by decide) (by decide) ?_
    refine Rn.retN (t := .boolean) rfl (by simp) d11_55 (Nat.le_of_ble_eq_true rfl) (Nat.le_of_ble_eq_true rfl) ?_
    refine ⟨?_, rfl⟩
    first | exact own_if_t (by by_cases q : [b0] = [d0]; exact q; simp_all) | exact own_if_f (fun q => by simp_all)
set_option maxRecDepth 65536 in
set_option maxHeartbeats 40000000 in
theorem ct_leq1_2 (Z : State) (a0 : Array Value) (hw : ∀ d ∈ tables_1, d.before a0 Z = true) (t u : Addr) (b0 d0 d1 : Int32) (h0 : Heap) (A : Ax Z h0 t .byte [.int b0]) (B : Ax Z h0 u .byte [.int d0, .int d1]) :
    Ct Z ⟨"java/lang/StringLatin1", "equals", "([B[B)Z"⟩ jdk_43_method_13_code 3 (Option.some FieldType.boolean) ({ frames := 0, cells := 0, slots := 0, locals := 0 } : Room) #[(.ref t), (.ref u)] h0 [] (fun v h => v = some (.int (if [b0] = [d0, d1] then 1 else 0)) ∧ h0 = h) := by
  refine Ct.intro (Ls := #[.val (.ref t), .val (.ref u), .unset]) pn_0 (by intro m; first | (simp [entryFrame, mkF, argsToLocals, Value.category]; done) | rfl) ?_
  refine Rn.aloadN (pc' := 1) d13_0 rfl rfl rfl ?_
  refine Rn.arraylength (pc' := 2) (n := (1 : Int32)) A rfl d13_1 rfl ?_
  refine Rn.aloadN (pc' := 3) d13_2 rfl rfl rfl ?_
  refine Rn.arraylength (pc' := 4) (n := (2 : Int32)) B rfl d13_3 rfl ?_
  refine Rn.icmp_ne (pc' := 34) (pn := 7) d13_4 (by decide) (by decide) rfl (fun cq1 => ?_) (fun cq1 => absurd cq1 (by decide))
  refine Rn.iconst (pc' := 35) (v := (0 : Int32)) d13_34 rfl rfl ?_
  refine Rn.retN (t := .boolean) rfl (by simp) d13_35 (Nat.le_of_ble_eq_true rfl) (Nat.le_of_ble_eq_true rfl) ?_
  exact ⟨own_if_f (fun q => by simp at q), rfl⟩
set_option maxRecDepth 65536 in
set_option maxHeartbeats 40000000 in
theorem ct_seq1_2 (Z : State) (a0 : Array Value) (hw : ∀ d ∈ tables_1, d.before a0 Z = true) (x t y u : Addr) (b0 d0 d1 : Int32) (z : Int32) (hz : z ≠ 0) (h0 : Heap) (G : Sg Z h0 x t [.int b0]) (H : Sg Z h0 y u [.int d0, .int d1]) (hn : x ≠ y) (S : Sta Z Z.heap "java/lang/String" "COMPACT_STRINGS" "Z" (.int z)) :
    Ct Z ⟨"java/lang/String", "equals", "(Ljava/lang/Object;)Z"⟩ jdk_42_method_66_code 3 (Option.some FieldType.boolean) ({ frames := 1, cells := 0, slots := 0, locals := 14 } : Room) #[(.ref x), (.ref y)] h0 [] (fun v h => v = some (.int (if [b0] = [d0, d1] then 1 else 0)) ∧ h0 = h) := by
  refine Ct.intro (Ls := #[.val (.ref x), .val (.ref y), .unset]) pn_1 (by intro m; first | (simp [entryFrame, mkF, argsToLocals, Value.category]; done) | rfl) ?_
  obtain ⟨E, Co, V, A⟩ := G
  obtain ⟨E', Co', V', B⟩ := H
  refine Rn.aloadN (pc' := 1) d11_0 rfl rfl rfl ?_
  refine Rn.aloadN (pc' := 2) d11_1 rfl rfl rfl ?_
  refine Rn.acmp_ne (pc' := 7) (pn := 5) rfl rfl d11_2 (by decide) (by decide) rfl (fun cq1 => ?_) (fun cq1 => absurd (Value.ref.inj cq1) hn)
  refine Rn.aloadN (pc' := 8) d11_7 rfl rfl rfl ?_
  refine Rn.instY (pc' := 11) (hw _ (List.mem_of_getElem? (i := 16) rfl)) (Ins.self E') d11_8 rfl ?_
  refine Rn.if_eq (pc' := 54) (pn := 14) d11_11 (by decide) (by decide) rfl (fun cq2 => absurd cq2 (by decide)) (fun cq2 => ?_)
  refine Rn.aloadN (pc' := 15) d11_14 rfl rfl rfl ?_
  refine Rn.castY (pc' := 18) (hw _ (List.mem_of_getElem? (i := 16) rfl)) (Ins.self E') d11_15 rfl ?_
  refine Rn.astoreN (pc' := 19) (Ls' := #[.val (.ref x), .val (.ref y), .val (.ref y)]) d11_18 rfl rfl rfl ?_
  refine Rn.old fun Oq3 _ => ?_
  refine Rn.getS (pc' := 22) (hw _ (List.mem_of_getElem? (i := 11) rfl)) Via.refl (S.ext Oq3) d11_19 rfl ?_
  refine Rn.if_eq (pc' := 36) (pn := 25) d11_22 (by decide) (by decide) rfl (fun cq4 => absurd cq4 hz) (fun cq4 => ?_)
  refine Rn.aloadN (pc' := 26) d11_25 rfl rfl rfl ?_
  refine Rn.getF (pc' := 29) (host := "") (Or.inl (hw _ (List.mem_of_getElem? (i := 31) rfl))) Via.refl Co d11_26 rfl ?_
  refine Rn.aloadN (pc' := 30) d11_29 rfl rfl rfl ?_
  refine Rn.getF (pc' := 33) (host := "") (Or.inl (hw _ (List.mem_of_getElem? (i := 31) rfl))) Via.refl Co' d11_30 rfl ?_
  refine Rn.icmp_ne (pc' := 54) (pn := 36) d11_33 (by decide) (by decide) rfl (fun cq5 => absurd cq5 (by decide)) (fun cq5 => ?_)
  refine Rn.aloadN (pc' := 37) d11_36 rfl rfl rfl ?_
  refine Rn.getF (pc' := 40) (host := "") (Or.inl (hw _ (List.mem_of_getElem? (i := 29) rfl))) Via.refl V d11_37 rfl ?_
  refine Rn.aloadN (pc' := 41) d11_40 rfl rfl rfl ?_
  refine Rn.getF (pc' := 44) (host := "") (Or.inl (hw _ (List.mem_of_getElem? (i := 29) rfl))) Via.refl V' d11_41 rfl ?_
  refine Rn.callS (pc' := 47) (argsL := [.ref t, .ref u]) (rest := []) (ct_leq1_2 Z a0 hw t u b0 d0 d1 h0 A B) (hw _ (List.mem_of_getElem? (i := 73) rfl)) (hw _ (List.mem_of_getElem? (i := 74) rfl)) (hw _ (List.mem_of_getElem? (i := 14) rfl)) (hw _ (List.mem_of_getElem? (i := 75) rfl)) (by decide) rfl rfl (lenOf pd_12 rfl) rfl d11_44 rfl (Nat.le_of_ble_eq_true rfl) (Nat.le_of_ble_eq_true rfl) (Nat.le_of_ble_eq_true rfl) (Nat.le_of_ble_eq_true rfl) (fun _ z => nomatch z) (fun _ z => nomatch z) (fun vq6 hq7 Kq8 qq9 => ?_)
  obtain ⟨rfl, rfl⟩ := qq9
  simp only [Option.toList, List.cons_append, List.nil_append]
  refine Rn.if_eq (pc' := 54) (pn := 50) d11_47 (by decide) (by decide) rfl (fun cq10 => ?_) (fun cq10 => ?_)
  ·
    refine Rn.iconst (pc' := 55) (v := (0 : Int32)) d11_54 rfl rfl ?_
    refine Rn.retN (t := .boolean) rfl (by simp) d11_55 (Nat.le_of_ble_eq_true rfl) (Nat.le_of_ble_eq_true rfl) ?_
    refine ⟨?_, rfl⟩
    first | exact own_if_t (by by_cases q : [b0] = [d0, d1]; exact q; simp_all) | exact own_if_f (fun q => by simp_all)
  ·
    refine Rn.iconst (pc' := 51) (v := (1 : Int32)) d11_50 rfl rfl ?_
    refine Rn.goto (pc' := 55) d11_51 (by decide) (by decide) ?_
    refine Rn.retN (t := .boolean) rfl (by simp) d11_55 (Nat.le_of_ble_eq_true rfl) (Nat.le_of_ble_eq_true rfl) ?_
    refine ⟨?_, rfl⟩
    first | exact own_if_t (by by_cases q : [b0] = [d0, d1]; exact q; simp_all) | exact own_if_f (fun q => by simp_all)
set_option maxRecDepth 65536 in
set_option maxHeartbeats 40000000 in
theorem ct_leq2_1 (Z : State) (a0 : Array Value) (hw : ∀ d ∈ tables_1, d.before a0 Z = true) (t u : Addr) (b0 b1 d0 : Int32) (h0 : Heap) (A : Ax Z h0 t .byte [.int b0, .int b1]) (B : Ax Z h0 u .byte [.int d0]) :
    Ct Z ⟨"java/lang/StringLatin1", "equals", "([B[B)Z"⟩ jdk_43_method_13_code 3 (Option.some FieldType.boolean) ({ frames := 0, cells := 0, slots := 0, locals := 0 } : Room) #[(.ref t), (.ref u)] h0 [] (fun v h => v = some (.int (if [b0, b1] = [d0] then 1 else 0)) ∧ h0 = h) := by
  refine Ct.intro (Ls := #[.val (.ref t), .val (.ref u), .unset]) pn_0 (by intro m; first | (simp [entryFrame, mkF, argsToLocals, Value.category]; done) | rfl) ?_
  refine Rn.aloadN (pc' := 1) d13_0 rfl rfl rfl ?_
  refine Rn.arraylength (pc' := 2) (n := (2 : Int32)) A rfl d13_1 rfl ?_
  refine Rn.aloadN (pc' := 3) d13_2 rfl rfl rfl ?_
  refine Rn.arraylength (pc' := 4) (n := (1 : Int32)) B rfl d13_3 rfl ?_
  refine Rn.icmp_ne (pc' := 34) (pn := 7) d13_4 (by decide) (by decide) rfl (fun cq1 => ?_) (fun cq1 => absurd cq1 (by decide))
  refine Rn.iconst (pc' := 35) (v := (0 : Int32)) d13_34 rfl rfl ?_
  refine Rn.retN (t := .boolean) rfl (by simp) d13_35 (Nat.le_of_ble_eq_true rfl) (Nat.le_of_ble_eq_true rfl) ?_
  exact ⟨own_if_f (fun q => by simp at q), rfl⟩
set_option maxRecDepth 65536 in
set_option maxHeartbeats 40000000 in
theorem ct_seq2_1 (Z : State) (a0 : Array Value) (hw : ∀ d ∈ tables_1, d.before a0 Z = true) (x t y u : Addr) (b0 b1 d0 : Int32) (z : Int32) (hz : z ≠ 0) (h0 : Heap) (G : Sg Z h0 x t [.int b0, .int b1]) (H : Sg Z h0 y u [.int d0]) (hn : x ≠ y) (S : Sta Z Z.heap "java/lang/String" "COMPACT_STRINGS" "Z" (.int z)) :
    Ct Z ⟨"java/lang/String", "equals", "(Ljava/lang/Object;)Z"⟩ jdk_42_method_66_code 3 (Option.some FieldType.boolean) ({ frames := 1, cells := 0, slots := 0, locals := 14 } : Room) #[(.ref x), (.ref y)] h0 [] (fun v h => v = some (.int (if [b0, b1] = [d0] then 1 else 0)) ∧ h0 = h) := by
  refine Ct.intro (Ls := #[.val (.ref x), .val (.ref y), .unset]) pn_1 (by intro m; first | (simp [entryFrame, mkF, argsToLocals, Value.category]; done) | rfl) ?_
  obtain ⟨E, Co, V, A⟩ := G
  obtain ⟨E', Co', V', B⟩ := H
  refine Rn.aloadN (pc' := 1) d11_0 rfl rfl rfl ?_
  refine Rn.aloadN (pc' := 2) d11_1 rfl rfl rfl ?_
  refine Rn.acmp_ne (pc' := 7) (pn := 5) rfl rfl d11_2 (by decide) (by decide) rfl (fun cq1 => ?_) (fun cq1 => absurd (Value.ref.inj cq1) hn)
  refine Rn.aloadN (pc' := 8) d11_7 rfl rfl rfl ?_
  refine Rn.instY (pc' := 11) (hw _ (List.mem_of_getElem? (i := 16) rfl)) (Ins.self E') d11_8 rfl ?_
  refine Rn.if_eq (pc' := 54) (pn := 14) d11_11 (by decide) (by decide) rfl (fun cq2 => absurd cq2 (by decide)) (fun cq2 => ?_)
  refine Rn.aloadN (pc' := 15) d11_14 rfl rfl rfl ?_
  refine Rn.castY (pc' := 18) (hw _ (List.mem_of_getElem? (i := 16) rfl)) (Ins.self E') d11_15 rfl ?_
  refine Rn.astoreN (pc' := 19) (Ls' := #[.val (.ref x), .val (.ref y), .val (.ref y)]) d11_18 rfl rfl rfl ?_
  refine Rn.old fun Oq3 _ => ?_
  refine Rn.getS (pc' := 22) (hw _ (List.mem_of_getElem? (i := 11) rfl)) Via.refl (S.ext Oq3) d11_19 rfl ?_
  refine Rn.if_eq (pc' := 36) (pn := 25) d11_22 (by decide) (by decide) rfl (fun cq4 => absurd cq4 hz) (fun cq4 => ?_)
  refine Rn.aloadN (pc' := 26) d11_25 rfl rfl rfl ?_
  refine Rn.getF (pc' := 29) (host := "") (Or.inl (hw _ (List.mem_of_getElem? (i := 31) rfl))) Via.refl Co d11_26 rfl ?_
  refine Rn.aloadN (pc' := 30) d11_29 rfl rfl rfl ?_
  refine Rn.getF (pc' := 33) (host := "") (Or.inl (hw _ (List.mem_of_getElem? (i := 31) rfl))) Via.refl Co' d11_30 rfl ?_
  refine Rn.icmp_ne (pc' := 54) (pn := 36) d11_33 (by decide) (by decide) rfl (fun cq5 => absurd cq5 (by decide)) (fun cq5 => ?_)
  refine Rn.aloadN (pc' := 37) d11_36 rfl rfl rfl ?_
  refine Rn.getF (pc' := 40) (host := "") (Or.inl (hw _ (List.mem_of_getElem? (i := 29) rfl))) Via.refl V d11_37 rfl ?_
  refine Rn.aloadN (pc' := 41) d11_40 rfl rfl rfl ?_
  refine Rn.getF (pc' := 44) (host := "") (Or.inl (hw _ (List.mem_of_getElem? (i := 29) rfl))) Via.refl V' d11_41 rfl ?_
  refine Rn.callS (pc' := 47) (argsL := [.ref t, .ref u]) (rest := []) (ct_leq2_1 Z a0 hw t u b0 b1 d0 h0 A B) (hw _ (List.mem_of_getElem? (i := 73) rfl)) (hw _ (List.mem_of_getElem? (i := 74) rfl)) (hw _ (List.mem_of_getElem? (i := 14) rfl)) (hw _ (List.mem_of_getElem? (i := 75) rfl)) (by decide) rfl rfl (lenOf pd_12 rfl) rfl d11_44 rfl (Nat.le_of_ble_eq_true rfl) (Nat.le_of_ble_eq_true rfl) (Nat.le_of_ble_eq_true rfl) (Nat.le_of_ble_eq_true rfl) (fun _ z => nomatch z) (fun _ z => nomatch z) (fun vq6 hq7 Kq8 qq9 => ?_)
  obtain ⟨rfl, rfl⟩ := qq9
  simp only [Option.toList, List.cons_append, List.nil_append]
  refine Rn.if_eq (pc' := 54) (pn := 50) d11_47 (by decide) (by decide) rfl (fun cq10 => ?_) (fun cq10 => ?_)
  ·
    refine Rn.iconst (pc' := 55) (v := (0 : Int32)) d11_54 rfl rfl ?_
    refine Rn.retN (t := .boolean) rfl (by simp) d11_55 (Nat.le_of_ble_eq_true rfl) (Nat.le_of_ble_eq_true rfl) ?_
    refine ⟨?_, rfl⟩
    first | exact own_if_t (by by_cases q : [b0, b1] = [d0]; exact q; simp_all) | exact own_if_f (fun q => by simp_all)
  ·
    refine Rn.iconst (pc' := 51) (v := (1 : Int32)) d11_50 rfl rfl ?_
    refine Rn.goto (pc' := 55) d11_51 (by decide) (by decide) ?_
    refine Rn.retN (t := .boolean) rfl (by simp) d11_55 (Nat.le_of_ble_eq_true rfl) (Nat.le_of_ble_eq_true rfl) ?_
    refine ⟨?_, rfl⟩
    first | exact own_if_t (by by_cases q : [b0, b1] = [d0]; exact q; simp_all) | exact own_if_f (fun q => by simp_all)
set_option maxRecDepth 65536 in
set_option maxHeartbeats 40000000 in
theorem ct_leq2_2 (Z : State) (a0 : Array Value) (hw : ∀ d ∈ tables_1, d.before a0 Z = true) (t u : Addr) (b0 b1 d0 d1 : Int32) (h0 : Heap) (A : Ax Z h0 t .byte [.int b0, .int b1]) (B : Ax Z h0 u .byte [.int d0, .int d1]) :
    Ct Z ⟨"java/lang/StringLatin1", "equals", "([B[B)Z"⟩ jdk_43_method_13_code 3 (Option.some FieldType.boolean) ({ frames := 0, cells := 0, slots := 0, locals := 0 } : Room) #[(.ref t), (.ref u)] h0 [] (fun v h => v = some (.int (if [b0, b1] = [d0, d1] then 1 else 0)) ∧ h0 = h) := by
  refine Ct.intro (Ls := #[.val (.ref t), .val (.ref u), .unset]) pn_0 (by intro m; first | (simp [entryFrame, mkF, argsToLocals, Value.category]; done) | rfl) ?_
  refine Rn.aloadN (pc' := 1) d13_0 rfl rfl rfl ?_
  refine Rn.arraylength (pc' := 2) (n := (2 : Int32)) A rfl d13_1 rfl ?_
  refine Rn.aloadN (pc' := 3) d13_2 rfl rfl rfl ?_
  refine Rn.arraylength (pc' := 4) (n := (2 : Int32)) B rfl d13_3 rfl ?_
  refine Rn.icmp_ne (pc' := 34) (pn := 7) d13_4 (by decide) (by decide) rfl (fun cq1 => absurd cq1 (by decide)) (fun cq1 => ?_)
  refine Rn.iconst (pc' := 8) (v := (0 : Int32)) d13_7 rfl rfl ?_
  refine Rn.istoreN (pc' := 9) (Ls' := #[.val (.ref t), .val (.ref u), .val (.int (0 : Int32))]) d13_8 rfl rfl ?_
  refine Rn.iloadN (pc' := 10) d13_9 rfl rfl ?_
  refine Rn.aloadN (pc' := 11) d13_10 rfl rfl rfl ?_
  refine Rn.arraylength (pc' := 12) (n := (2 : Int32)) A rfl d13_11 rfl ?_
  refine Rn.icmp_ge (pc' := 32) (pn := 15) d13_12 (by decide) (by decide) rfl (fun cq2 => absurd cq2 (by decide)) (fun cq2 => ?_)
  refine Rn.aloadN (pc' := 16) d13_15 rfl rfl rfl ?_
  refine Rn.iloadN (pc' := 17) d13_16 rfl rfl ?_
  refine Rn.baload (pc' := 18) (v := .int b0) A (by decide) rfl d13_17 rfl ?_
  refine Rn.aloadN (pc' := 19) d13_18 rfl rfl rfl ?_
  refine Rn.iloadN (pc' := 20) d13_19 rfl rfl ?_
  refine Rn.baload (pc' := 21) (v := .int d0) B (by decide) rfl d13_20 rfl ?_
  refine Rn.icmp_eq (pc' := 26) (pn := 24) d13_21 (by decide) (by decide) rfl (fun cq3 => ?_) (fun cq3 => ?_)
  ·
    refine Rn.iinc (pc' := 29) (v := (1 : Int32)) (Ls' := #[.val (.ref t), .val (.ref u), .val (.int (1 : Int32))]) d13_26 rfl rfl rfl rfl ?_
    refine Rn.goto (pc' := 9) d13_29 (by decide) (by decide) ?_
    refine Rn.iloadN (pc' := 10) d13_9 rfl rfl ?_
    refine Rn.aloadN (pc' := 11) d13_10 rfl rfl rfl ?_
    refine Rn.arraylength (pc' := 12) (n := (2 : Int32)) A rfl d13_11 rfl ?_
    refine Rn.icmp_ge (pc' := 32) (pn := 15) d13_12 (by decide) (by decide) rfl (fun cq4 => absurd cq4 (by decide)) (fun cq4 => ?_)
    refine Rn.aloadN (pc' := 16) d13_15 rfl rfl rfl ?_
    refine Rn.iloadN (pc' := 17) d13_16 rfl rfl ?_
    refine Rn.baload (pc' := 18) (v := .int b1) A (by decide) rfl d13_17 rfl ?_
    refine Rn.aloadN (pc' := 19) d13_18 rfl rfl rfl ?_
    refine Rn.iloadN (pc' := 20) d13_19 rfl rfl ?_
    refine Rn.baload (pc' := 21) (v := .int d1) B (by decide) rfl d13_20 rfl ?_
    refine Rn.icmp_eq (pc' := 26) (pn := 24) d13_21 (by decide) (by decide) rfl (fun cq5 => ?_) (fun cq5 => ?_)
    ·
      refine Rn.iinc (pc' := 29) (v := (2 : Int32)) (Ls' := #[.val (.ref t), .val (.ref u), .val (.int (2 : Int32))]) d13_26 rfl rfl rfl rfl ?_
      refine Rn.goto (pc' := 9) d13_29 (by decide) (by decide) ?_
      refine Rn.iloadN (pc' := 10) d13_9 rfl rfl ?_
      refine Rn.aloadN (pc' := 11) d13_10 rfl rfl rfl ?_
      refine Rn.arraylength (pc' := 12) (n := (2 : Int32)) A rfl d13_11 rfl ?_
      refine Rn.icmp_ge (pc' := 32) (pn := 15) d13_12 (by decide) (by decide) rfl (fun cq6 => ?_) (fun cq6 => absurd cq6 (by decide))
      refine Rn.iconst (pc' := 33) (v := (1 : Int32)) d13_32 rfl rfl ?_
      refine Rn.retN (t := .boolean) rfl (by simp) d13_33 (Nat.le_of_ble_eq_true rfl) (Nat.le_of_ble_eq_true rfl) ?_
      exact ⟨own_if_t (by simp only [*]), rfl⟩
    ·
      refine Rn.iconst (pc' := 25) (v := (0 : Int32)) d13_24 rfl rfl ?_
      refine Rn.retN (t := .boolean) rfl (by simp) d13_25 (Nat.le_of_ble_eq_true rfl) (Nat.le_of_ble_eq_true rfl) ?_
      exact ⟨own_if_f (fun q => by simp only [List.cons.injEq] at q; simp_all), rfl⟩
  ·
    refine Rn.iconst (pc' := 25) (v := (0 : Int32)) d13_24 rfl rfl ?_
    refine Rn.retN (t := .boolean) rfl (by simp) d13_25 (Nat.le_of_ble_eq_true rfl) (Nat.le_of_ble_eq_true rfl) ?_
    exact ⟨own_if_f (fun q => by simp only [List.cons.injEq] at q; simp_all), rfl⟩
set_option maxRecDepth 65536 in
set_option maxHeartbeats 40000000 in
theorem ct_seq2_2 (Z : State) (a0 : Array Value) (hw : ∀ d ∈ tables_1, d.before a0 Z = true) (x t y u : Addr) (b0 b1 d0 d1 : Int32) (z : Int32) (hz : z ≠ 0) (h0 : Heap) (G : Sg Z h0 x t [.int b0, .int b1]) (H : Sg Z h0 y u [.int d0, .int d1]) (hn : x ≠ y) (S : Sta Z Z.heap "java/lang/String" "COMPACT_STRINGS" "Z" (.int z)) :
    Ct Z ⟨"java/lang/String", "equals", "(Ljava/lang/Object;)Z"⟩ jdk_42_method_66_code 3 (Option.some FieldType.boolean) ({ frames := 1, cells := 0, slots := 0, locals := 14 } : Room) #[(.ref x), (.ref y)] h0 [] (fun v h => v = some (.int (if [b0, b1] = [d0, d1] then 1 else 0)) ∧ h0 = h) := by
  refine Ct.intro (Ls := #[.val (.ref x), .val (.ref y), .unset]) pn_1 (by intro m; first | (simp [entryFrame, mkF, argsToLocals, Value.category]; done) | rfl) ?_
  obtain ⟨E, Co, V, A⟩ := G
  obtain ⟨E', Co', V', B⟩ := H
  refine Rn.aloadN (pc' := 1) d11_0 rfl rfl rfl ?_
  refine Rn.aloadN (pc' := 2) d11_1 rfl rfl rfl ?_
  refine Rn.acmp_ne (pc' := 7) (pn := 5) rfl rfl d11_2 (by decide) (by decide) rfl (fun cq1 => ?_) (fun cq1 => absurd (Value.ref.inj cq1) hn)
  refine Rn.aloadN (pc' := 8) d11_7 rfl rfl rfl ?_
  refine Rn.instY (pc' := 11) (hw _ (List.mem_of_getElem? (i := 16) rfl)) (Ins.self E') d11_8 rfl ?_
  refine Rn.if_eq (pc' := 54) (pn := 14) d11_11 (by decide) (by decide) rfl (fun cq2 => absurd cq2 (by decide)) (fun cq2 => ?_)
  refine Rn.aloadN (pc' := 15) d11_14 rfl rfl rfl ?_
  refine Rn.castY (pc' := 18) (hw _ (List.mem_of_getElem? (i := 16) rfl)) (Ins.self E') d11_15 rfl ?_
  refine Rn.astoreN (pc' := 19) (Ls' := #[.val (.ref x), .val (.ref y), .val (.ref y)]) d11_18 rfl rfl rfl ?_
  refine Rn.old fun Oq3 _ => ?_
  refine Rn.getS (pc' := 22) (hw _ (List.mem_of_getElem? (i := 11) rfl)) Via.refl (S.ext Oq3) d11_19 rfl ?_
  refine Rn.if_eq (pc' := 36) (pn := 25) d11_22 (by decide) (by decide) rfl (fun cq4 => absurd cq4 hz) (fun cq4 => ?_)
  refine Rn.aloadN (pc' := 26) d11_25 rfl rfl rfl ?_
  refine Rn.getF (pc' := 29) (host := "") (Or.inl (hw _ (List.mem_of_getElem? (i := 31) rfl))) Via.refl Co d11_26 rfl ?_
  refine Rn.aloadN (pc' := 30) d11_29 rfl rfl rfl ?_
  refine Rn.getF (pc' := 33) (host := "") (Or.inl (hw _ (List.mem_of_getElem? (i := 31) rfl))) Via.refl Co' d11_30 rfl ?_
  refine Rn.icmp_ne (pc' := 54) (pn := 36) d11_33 (by decide) (by decide) rfl (fun cq5 => absurd cq5 (by decide)) (fun cq5 => ?_)
  refine Rn.aloadN (pc' := 37) d11_36 rfl rfl rfl ?_
  refine Rn.getF (pc' := 40) (host := "") (Or.inl (hw _ (List.mem_of_getElem? (i := 29) rfl))) Via.refl V d11_37 rfl ?_
  refine Rn.aloadN (pc' := 41) d11_40 rfl rfl rfl ?_
  refine Rn.getF (pc' := 44) (host := "") (Or.inl (hw _ (List.mem_of_getElem? (i := 29) rfl))) Via.refl V' d11_41 rfl ?_
  refine Rn.callS (pc' := 47) (argsL := [.ref t, .ref u]) (rest := []) (ct_leq2_2 Z a0 hw t u b0 b1 d0 d1 h0 A B) (hw _ (List.mem_of_getElem? (i := 73) rfl)) (hw _ (List.mem_of_getElem? (i := 74) rfl)) (hw _ (List.mem_of_getElem? (i := 14) rfl)) (hw _ (List.mem_of_getElem? (i := 75) rfl)) (by decide) rfl rfl (lenOf pd_12 rfl) rfl d11_44 rfl (Nat.le_of_ble_eq_true rfl) (Nat.le_of_ble_eq_true rfl) (Nat.le_of_ble_eq_true rfl) (Nat.le_of_ble_eq_true rfl) (fun _ z => nomatch z) (fun _ z => nomatch z) (fun vq6 hq7 Kq8 qq9 => ?_)
  obtain ⟨rfl, rfl⟩ := qq9
  simp only [Option.toList, List.cons_append, List.nil_append]
  refine Rn.if_eq (pc' := 54) (pn := 50) d11_47 (by decide) (by decide) rfl (fun cq10 => ?_) (fun cq10 => ?_)
  ·
    refine Rn.iconst (pc' := 55) (v := (0 : Int32)) d11_54 rfl rfl ?_
    refine Rn.retN (t := .boolean) rfl (by simp) d11_55 (Nat.le_of_ble_eq_true rfl) (Nat.le_of_ble_eq_true rfl) ?_
    refine ⟨?_, rfl⟩
    first | exact own_if_t (by by_cases q : [b0, b1] = [d0, d1]; exact q; simp_all) | exact own_if_f (fun q => by simp_all)
  ·
    refine Rn.iconst (pc' := 51) (v := (1 : Int32)) d11_50 rfl rfl ?_
    refine Rn.goto (pc' := 55) d11_51 (by decide) (by decide) ?_
    refine Rn.retN (t := .boolean) rfl (by simp) d11_55 (Nat.le_of_ble_eq_true rfl) (Nat.le_of_ble_eq_true rfl) ?_
    refine ⟨?_, rfl⟩
    first | exact own_if_t (by by_cases q : [b0, b1] = [d0, d1]; exact q; simp_all) | exact own_if_f (fun q => by simp_all)
set_option maxRecDepth 65536 in
set_option maxHeartbeats 40000000 in
theorem ct_seqs (Z : State) (a0 : Array Value) (hw : ∀ d ∈ tables_1, d.before a0 Z = true) (s : Addr) (h0 : Heap) :
    Ct Z ⟨"java/lang/String", "equals", "(Ljava/lang/Object;)Z"⟩ jdk_42_method_66_code 3 (Option.some FieldType.boolean) ({ frames := 1, cells := 0, slots := 0, locals := 14 } : Room) #[(.ref s), (.ref s)] h0 [] (fun v h => v = some (.int (1 : Int32)) ∧ h0 = h) := by
  refine Ct.intro (Ls := #[.val (.ref s), .val (.ref s), .unset]) pn_1 (by intro m; first | (simp [entryFrame, mkF, argsToLocals, Value.category]; done) | rfl) ?_
  refine Rn.aloadN (pc' := 1) d11_0 rfl rfl rfl ?_
  refine Rn.aloadN (pc' := 2) d11_1 rfl rfl rfl ?_
  refine Rn.acmp_ne (pc' := 7) (pn := 5) rfl rfl d11_2 (by decide) (by decide) rfl (fun cq1 => absurd rfl cq1) (fun cq1 => ?_)
  refine Rn.iconst (pc' := 6) (v := (1 : Int32)) d11_5 rfl rfl ?_
  refine Rn.retN (t := .boolean) rfl (by simp) d11_6 (Nat.le_of_ble_eq_true rfl) (Nat.le_of_ble_eq_true rfl) ?_
  exact ⟨rfl, rfl⟩
theorem ct_seqx (Z : State) (a0 : Array Value) (hw : ∀ d ∈ tables_1, d.before a0 Z = true) (s t s' t' : Addr) (x y : Int32) (z : Int32) (hz : z ≠ 0) (h0 : Heap) (G : Sg Z h0 s t (own_bv x)) (G' : Sg Z h0 s' t' (own_bv y)) (hn : s ≠ s') (S : Sta Z Z.heap "java/lang/String" "COMPACT_STRINGS" "Z" (.int z)) :
    Ct Z ⟨"java/lang/String", "equals", "(Ljava/lang/Object;)Z"⟩ jdk_42_method_66_code 3 (Option.some FieldType.boolean) ({ frames := 1, cells := 0, slots := 0, locals := 14 } : Room) #[(.ref s), (.ref s')] h0 [] (fun v h => v = some (.int (if own_bs x = own_bs y then 1 else 0)) ∧ h0 = h) := by
  unfold own_bv at G G'
  by_cases hx : own_nb x = 0 <;> by_cases hy : own_nb y = 0
  · rw [own_bs1 hx] at G ⊢; rw [own_bs1 hy] at G' ⊢; exact ct_seq1_1 Z a0 hw s t s' t' (b8 (own_c0 x)) (b8 (own_c0 y)) z hz h0 G G' hn S
  · rw [own_bs1 hx] at G ⊢; rw [own_bs2 hy] at G' ⊢; exact ct_seq1_2 Z a0 hw s t s' t' (b8 (own_c0 x)) (b8 (own_c0 y)) (b8 (own_c1 y)) z hz h0 G G' hn S
  · rw [own_bs2 hx] at G ⊢; rw [own_bs1 hy] at G' ⊢; exact ct_seq2_1 Z a0 hw s t s' t' (b8 (own_c0 x)) (b8 (own_c1 x)) (b8 (own_c0 y)) z hz h0 G G' hn S
  · rw [own_bs2 hx] at G ⊢; rw [own_bs2 hy] at G' ⊢; exact ct_seq2_2 Z a0 hw s t s' t' (b8 (own_c0 x)) (b8 (own_c1 x)) (b8 (own_c0 y)) (b8 (own_c1 y)) z hz h0 G G' hn S
def own_Pm (Z : State) (h : Heap) (p s s' : Addr) : Prop := Exa Z h p "com/example/local_quorum/localquorum/Permission" ∧ Fld Z h p "com/example/local_quorum/localquorum/Permission" "action" "Ljava/lang/String;" (.ref s) ∧ Fld Z h p "com/example/local_quorum/localquorum/Permission" "object" "Ljava/lang/String;" (.ref s')
theorem d10_0 : decode prog_20_method_4_code 0 = .ok (.aload_n 1, 1) := by decide +kernel
theorem d10_1 : decode prog_20_method_4_code 1 = .ok (.instanceof 16, 3) := by decide +kernel
theorem d10_4 : decode prog_20_method_4_code 4 = .ok (.ifCond .eq 41, 3) := by decide +kernel
theorem d10_7 : decode prog_20_method_4_code 7 = .ok (.aload_n 0, 1) := by decide +kernel
theorem d10_8 : decode prog_20_method_4_code 8 = .ok (.getfield 15, 3) := by decide +kernel
theorem d10_11 : decode prog_20_method_4_code 11 = .ok (.aload_n 1, 1) := by decide +kernel
theorem d10_12 : decode prog_20_method_4_code 12 = .ok (.checkcast 16, 3) := by decide +kernel
theorem d10_15 : decode prog_20_method_4_code 15 = .ok (.getfield 15, 3) := by decide +kernel
theorem d10_18 : decode prog_20_method_4_code 18 = .ok (.invokevirtual 24, 3) := by decide +kernel
theorem d10_21 : decode prog_20_method_4_code 21 = .ok (.ifCond .eq 24, 3) := by decide +kernel
theorem d10_24 : decode prog_20_method_4_code 24 = .ok (.aload_n 0, 1) := by decide +kernel
theorem d10_25 : decode prog_20_method_4_code 25 = .ok (.getfield 22, 3) := by decide +kernel
theorem d10_28 : decode prog_20_method_4_code 28 = .ok (.aload_n 1, 1) := by decide +kernel
theorem d10_29 : decode prog_20_method_4_code 29 = .ok (.checkcast 16, 3) := by decide +kernel
theorem d10_32 : decode prog_20_method_4_code 32 = .ok (.getfield 22, 3) := by decide +kernel
theorem d10_35 : decode prog_20_method_4_code 35 = .ok (.invokevirtual 24, 3) := by decide +kernel
theorem d10_38 : decode prog_20_method_4_code 38 = .ok (.ifCond .eq 7, 3) := by decide +kernel
theorem d10_41 : decode prog_20_method_4_code 41 = .ok (.iconst 1, 1) := by decide +kernel
theorem d10_42 : decode prog_20_method_4_code 42 = .ok (.goto 4, 3) := by decide +kernel
theorem d10_45 : decode prog_20_method_4_code 45 = .ok (.iconst 0, 1) := by decide +kernel
theorem d10_46 : decode prog_20_method_4_code 46 = .ok (.ireturn, 1) := by decide +kernel
set_option maxRecDepth 65536 in
set_option maxHeartbeats 40000000 in
theorem ct_pes (Z : State) (a0 : Array Value) (hw : ∀ d ∈ tables_1, d.before a0 Z = true) (p s s' : Addr) (h0 : Heap) (T : own_Pm Z h0 p s s') (E1 : Exa Z h0 s "java/lang/String") (E2 : Exa Z h0 s' "java/lang/String") :
    Ct Z ⟨"com/example/local_quorum/localquorum/Permission", "equals", "(Ljava/lang/Object;)Z"⟩ prog_20_method_4_code 2 (Option.some FieldType.boolean) ({ frames := 2, cells := 0, slots := 0, locals := 28 } : Room) #[(.ref p), (.ref p)] h0 [] (fun v h => v = some (.int (1 : Int32)) ∧ h0 = h) := by
  refine Ct.intro (Ls := #[.val (.ref p), .val (.ref p)]) pn_6 (by intro m; first | (simp [entryFrame, mkF, argsToLocals, Value.category]; done) | rfl) ?_
  refine Rn.aloadN (pc' := 1) d10_0 rfl rfl rfl ?_
  refine Rn.instY (pc' := 4) (hw _ (List.mem_of_getElem? (i := 63) rfl)) (Ins.self T.1) d10_1 rfl ?_
  refine Rn.if_eq (pc' := 45) (pn := 7) d10_4 (by decide) (by decide) rfl (fun cq1 => absurd cq1 (by decide)) (fun cq1 => ?_)
  refine Rn.aloadN (pc' := 8) d10_7 rfl rfl rfl ?_
  refine Rn.getF (pc' := 11) (host := "") (Or.inl (hw _ (List.mem_of_getElem? (i := 53) rfl))) Via.refl T.2.1 d10_8 rfl ?_
  refine Rn.aloadN (pc' := 12) d10_11 rfl rfl rfl ?_
  refine Rn.castY (pc' := 15) (hw _ (List.mem_of_getElem? (i := 63) rfl)) (Ins.self T.1) d10_12 rfl ?_
  refine Rn.getF (pc' := 18) (host := "") (Or.inl (hw _ (List.mem_of_getElem? (i := 53) rfl))) Via.refl T.2.1 d10_15 rfl ?_
  refine Rn.callV (pc' := 21) (argsL := [.ref s]) (a := s) (rest := []) (ct_seqs Z a0 hw s h0) E1 (hw _ (List.mem_of_getElem? (i := 65) rfl)) (hw _ (List.mem_of_getElem? (i := 66) rfl)) (fun _ hZ => notFace_of_selects (args := #[]) (mvT hZ (hw _ (List.mem_of_getElem? (i := 68) rfl)))) (hw _ (List.mem_of_getElem? (i := 68) rfl)) (hw _ (List.mem_of_getElem? (i := 67) rfl)) (hw _ (List.mem_of_getElem? (i := 9) rfl)) (hw _ (List.mem_of_getElem? (i := 69) rfl)) (by decide) rfl rfl (lenOf pd_13 rfl) rfl d10_18 rfl (Nat.le_of_ble_eq_true rfl) (Nat.le_of_ble_eq_true rfl) (Nat.le_of_ble_eq_true rfl) (Nat.le_of_ble_eq_true rfl) (fun _ z => nomatch z) (fun _ z => nomatch z) (fun vq2 hq3 Kq4 qq5 => ?_)
  obtain ⟨rfl, rfl⟩ := qq5
  simp only [Option.toList, List.cons_append, List.nil_append]
  refine Rn.if_eq (pc' := 45) (pn := 24) d10_21 (by decide) (by decide) rfl (fun cq6 => absurd cq6 (by decide)) (fun cq6 => ?_)
  refine Rn.aloadN (pc' := 25) d10_24 rfl rfl rfl ?_
  refine Rn.getF (pc' := 28) (host := "") (Or.inl (hw _ (List.mem_of_getElem? (i := 56) rfl))) Via.refl T.2.2 d10_25 rfl ?_
  refine Rn.aloadN (pc' := 29) d10_28 rfl rfl rfl ?_
  refine Rn.castY (pc' := 32) (hw _ (List.mem_of_getElem? (i := 63) rfl)) (Ins.self T.1) d10_29 rfl ?_
  refine Rn.getF (pc' := 35) (host := "") (Or.inl (hw _ (List.mem_of_getElem? (i := 56) rfl))) Via.refl T.2.2 d10_32 rfl ?_
  refine Rn.callV (pc' := 38) (argsL := [.ref s']) (a := s') (rest := []) (ct_seqs Z a0 hw s' h0) E2 (hw _ (List.mem_of_getElem? (i := 65) rfl)) (hw _ (List.mem_of_getElem? (i := 66) rfl)) (fun _ hZ => notFace_of_selects (args := #[]) (mvT hZ (hw _ (List.mem_of_getElem? (i := 68) rfl)))) (hw _ (List.mem_of_getElem? (i := 68) rfl)) (hw _ (List.mem_of_getElem? (i := 67) rfl)) (hw _ (List.mem_of_getElem? (i := 9) rfl)) (hw _ (List.mem_of_getElem? (i := 69) rfl)) (by decide) rfl rfl (lenOf pd_13 rfl) rfl d10_35 rfl (Nat.le_of_ble_eq_true rfl) (Nat.le_of_ble_eq_true rfl) (Nat.le_of_ble_eq_true rfl) (Nat.le_of_ble_eq_true rfl) (fun _ z => nomatch z) (fun _ z => nomatch z) (fun vq7 hq8 Kq9 qq10 => ?_)
  obtain ⟨rfl, rfl⟩ := qq10
  simp only [Option.toList, List.cons_append, List.nil_append]
  refine Rn.if_eq (pc' := 45) (pn := 41) d10_38 (by decide) (by decide) rfl (fun cq11 => absurd cq11 (by decide)) (fun cq11 => ?_)
  refine Rn.iconst (pc' := 42) (v := (1 : Int32)) d10_41 rfl rfl ?_
  refine Rn.goto (pc' := 46) d10_42 (by decide) (by decide) ?_
  refine Rn.retN (t := .boolean) rfl (by simp) d10_46 (Nat.le_of_ble_eq_true rfl) (Nat.le_of_ble_eq_true rfl) ?_
  exact ⟨rfl, rfl⟩
set_option maxRecDepth 65536 in
set_option maxHeartbeats 40000000 in
theorem ct_pen (Z : State) (a0 : Array Value) (hw : ∀ d ∈ tables_1, d.before a0 Z = true) (p : Addr) (h0 : Heap) :
    Ct Z ⟨"com/example/local_quorum/localquorum/Permission", "equals", "(Ljava/lang/Object;)Z"⟩ prog_20_method_4_code 2 (Option.some FieldType.boolean) ({ frames := 0, cells := 0, slots := 0, locals := 0 } : Room) #[(.ref p), (.null)] h0 [] (fun v h => v = some (.int (0 : Int32)) ∧ h0 = h) := by
  refine Ct.intro (Ls := #[.val (.ref p), .val (.null)]) pn_6 (by intro m; first | (simp [entryFrame, mkF, argsToLocals, Value.category]; done) | rfl) ?_
  refine Rn.aloadN (pc' := 1) d10_0 rfl rfl rfl ?_
  refine Rn.instNull (pc' := 4) d10_1 rfl ?_
  refine Rn.if_eq (pc' := 45) (pn := 7) d10_4 (by decide) (by decide) rfl (fun cq1 => ?_) (fun cq1 => absurd cq1 (by decide))
  refine Rn.iconst (pc' := 46) (v := (0 : Int32)) d10_45 rfl rfl ?_
  refine Rn.retN (t := .boolean) rfl (by simp) d10_46 (Nat.le_of_ble_eq_true rfl) (Nat.le_of_ble_eq_true rfl) ?_
  exact ⟨rfl, rfl⟩
set_option maxRecDepth 65536 in
set_option maxHeartbeats 40000000 in
theorem ct_pei (Z : State) (a0 : Array Value) (hw : ∀ d ∈ tables_1, d.before a0 Z = true) (p x : Addr) (h0 : Heap) (E : Exa Z h0 x "java/lang/String") :
    Ct Z ⟨"com/example/local_quorum/localquorum/Permission", "equals", "(Ljava/lang/Object;)Z"⟩ prog_20_method_4_code 2 (Option.some FieldType.boolean) ({ frames := 0, cells := 0, slots := 0, locals := 0 } : Room) #[(.ref p), (.ref x)] h0 [] (fun v h => v = some (.int (0 : Int32)) ∧ h0 = h) := by
  refine Ct.intro (Ls := #[.val (.ref p), .val (.ref x)]) pn_6 (by intro m; first | (simp [entryFrame, mkF, argsToLocals, Value.category]; done) | rfl) ?_
  refine Rn.aloadN (pc' := 1) d10_0 rfl rfl rfl ?_
  refine Rn.instNo (pc' := 4) (hw _ (List.mem_of_getElem? (i := 63) rfl)) E (ns_no (hw _ (List.mem_of_getElem? (i := 76) rfl)) (hw _ (List.mem_of_getElem? (i := 1) rfl)) (NS.step (hw _ (List.mem_of_getElem? (i := 76) rfl)) (ns_root (hw _ (List.mem_of_getElem? (i := 77) rfl)) (hw _ (List.mem_of_getElem? (i := 1) rfl)) (by decide)) (by decide)) (by decide)) d10_1 rfl ?_
  refine Rn.if_eq (pc' := 45) (pn := 7) d10_4 (by decide) (by decide) rfl (fun cq1 => ?_) (fun cq1 => absurd cq1 (by decide))
  refine Rn.iconst (pc' := 46) (v := (0 : Int32)) d10_45 rfl rfl ?_
  refine Rn.retN (t := .boolean) rfl (by simp) d10_46 (Nat.le_of_ble_eq_true rfl) (Nat.le_of_ble_eq_true rfl) ?_
  exact ⟨rfl, rfl⟩
set_option maxRecDepth 65536 in
set_option maxHeartbeats 40000000 in
theorem ct_pe (Z : State) (a0 : Array Value) (hw : ∀ d ∈ tables_1, d.before a0 Z = true) (p q s1 t1 s2 t2 u1 v1 u2 v2 : Addr) (x1 x2 y1 y2 : Int32) (h0 : Heap) (T : own_Pm Z h0 p s1 s2) (T' : own_Pm Z h0 q u1 u2) (G1 : Sg Z h0 s1 t1 (own_bv x1)) (G2 : Sg Z h0 s2 t2 (own_bv x2)) (H1 : Sg Z h0 u1 v1 (own_bv y1)) (H2 : Sg Z h0 u2 v2 (own_bv y2)) (m1 : s1 ≠ u1) (m2 : s2 ≠ u2) (z : Int32) (hz : z ≠ 0) (S : Sta Z Z.heap "java/lang/String" "COMPACT_STRINGS" "Z" (.int z)) :
    Ct Z ⟨"com/example/local_quorum/localquorum/Permission", "equals", "(Ljava/lang/Object;)Z"⟩ prog_20_method_4_code 2 (Option.some FieldType.boolean) ({ frames := 2, cells := 0, slots := 0, locals := 28 } : Room) #[(.ref p), (.ref q)] h0 [] (fun v h => v = some (.int (if own_bs x1 = own_bs y1 ∧ own_bs x2 = own_bs y2 then 1 else 0)) ∧ h0 = h) := by
  refine Ct.intro (Ls := #[.val (.ref p), .val (.ref q)]) pn_6 (by intro m; first | (simp [entryFrame, mkF, argsToLocals, Value.category]; done) | rfl) ?_
  refine Rn.aloadN (pc' := 1) d10_0 rfl rfl rfl ?_
  refine Rn.instY (pc' := 4) (hw _ (List.mem_of_getElem? (i := 63) rfl)) (Ins.self T'.1) d10_1 rfl ?_
  refine Rn.if_eq (pc' := 45) (pn := 7) d10_4 (by decide) (by decide) rfl (fun cq1 => absurd cq1 (by decide)) (fun cq1 => ?_)
  refine Rn.aloadN (pc' := 8) d10_7 rfl rfl rfl ?_
  refine Rn.getF (pc' := 11) (host := "") (Or.inl (hw _ (List.mem_of_getElem? (i := 53) rfl))) Via.refl T.2.1 d10_8 rfl ?_
  refine Rn.aloadN (pc' := 12) d10_11 rfl rfl rfl ?_
  refine Rn.castY (pc' := 15) (hw _ (List.mem_of_getElem? (i := 63) rfl)) (Ins.self T'.1) d10_12 rfl ?_
  refine Rn.getF (pc' := 18) (host := "") (Or.inl (hw _ (List.mem_of_getElem? (i := 53) rfl))) Via.refl T'.2.1 d10_15 rfl ?_
  refine Rn.callV (pc' := 21) (argsL := [.ref u1]) (a := s1) (rest := []) (ct_seqx Z a0 hw s1 t1 u1 v1 x1 y1 z hz h0 G1 H1 m1 S) G1.1 (hw _ (List.mem_of_getElem? (i := 65) rfl)) (hw _ (List.mem_of_getElem? (i := 66) rfl)) (fun _ hZ => notFace_of_selects (args := #[]) (mvT hZ (hw _ (List.mem_of_getElem? (i := 68) rfl)))) (hw _ (List.mem_of_getElem? (i := 68) rfl)) (hw _ (List.mem_of_getElem? (i := 67) rfl)) (hw _ (List.mem_of_getElem? (i := 9) rfl)) (hw _ (List.mem_of_getElem? (i := 69) rfl)) (by decide) rfl rfl (lenOf pd_13 rfl) rfl d10_18 rfl (Nat.le_of_ble_eq_true rfl) (Nat.le_of_ble_eq_true rfl) (Nat.le_of_ble_eq_true rfl) (Nat.le_of_ble_eq_true rfl) (fun _ z => nomatch z) (fun _ z => nomatch z) (fun vq2 hq3 Kq4 qq5 => ?_)
  obtain ⟨rfl, rfl⟩ := qq5
  simp only [Option.toList, List.cons_append, List.nil_append]
  refine Rn.if_eq (pc' := 45) (pn := 24) d10_21 (by decide) (by decide) rfl (fun cq6 => ?_) (fun cq6 => ?_)
  ·
    refine Rn.iconst (pc' := 46) (v := (0 : Int32)) d10_45 rfl rfl ?_
    refine Rn.retN (t := .boolean) rfl (by simp) d10_46 (Nat.le_of_ble_eq_true rfl) (Nat.le_of_ble_eq_true rfl) ?_
    refine ⟨?_, rfl⟩
    exact own_if_f (fun q => absurd ((if_pos q.1).symm.trans cq6) (by decide))
  ·
    refine Rn.aloadN (pc' := 25) d10_24 rfl rfl rfl ?_
    refine Rn.getF (pc' := 28) (host := "") (Or.inl (hw _ (List.mem_of_getElem? (i := 56) rfl))) Via.refl T.2.2 d10_25 rfl ?_
    refine Rn.aloadN (pc' := 29) d10_28 rfl rfl rfl ?_
    refine Rn.castY (pc' := 32) (hw _ (List.mem_of_getElem? (i := 63) rfl)) (Ins.self T'.1) d10_29 rfl ?_
    refine Rn.getF (pc' := 35) (host := "") (Or.inl (hw _ (List.mem_of_getElem? (i := 56) rfl))) Via.refl T'.2.2 d10_32 rfl ?_
    refine Rn.callV (pc' := 38) (argsL := [.ref u2]) (a := s2) (rest := []) (ct_seqx Z a0 hw s2 t2 u2 v2 x2 y2 z hz h0 G2 H2 m2 S) G2.1 (hw _ (List.mem_of_getElem? (i := 65) rfl)) (hw _ (List.mem_of_getElem? (i := 66) rfl)) (fun _ hZ => notFace_of_selects (args := #[]) (mvT hZ (hw _ (List.mem_of_getElem? (i := 68) rfl)))) (hw _ (List.mem_of_getElem? (i := 68) rfl)) (hw _ (List.mem_of_getElem? (i := 67) rfl)) (hw _ (List.mem_of_getElem? (i := 9) rfl)) (hw _ (List.mem_of_getElem? (i := 69) rfl)) (by decide) rfl rfl (lenOf pd_13 rfl) rfl d10_35 rfl (Nat.le_of_ble_eq_true rfl) (Nat.le_of_ble_eq_true rfl) (Nat.le_of_ble_eq_true rfl) (Nat.le_of_ble_eq_true rfl) (fun _ z => nomatch z) (fun _ z => nomatch z) (fun vq7 hq8 Kq9 qq10 => ?_)
    obtain ⟨rfl, rfl⟩ := qq10
    simp only [Option.toList, List.cons_append, List.nil_append]
    refine Rn.if_eq (pc' := 45) (pn := 41) d10_38 (by decide) (by decide) rfl (fun cq11 => ?_) (fun cq11 => ?_)
    ·
      refine Rn.iconst (pc' := 46) (v := (0 : Int32)) d10_45 rfl rfl ?_
      refine Rn.retN (t := .boolean) rfl (by simp) d10_46 (Nat.le_of_ble_eq_true rfl) (Nat.le_of_ble_eq_true rfl) ?_
      refine ⟨?_, rfl⟩
      exact own_if_f (fun q => absurd ((if_pos q.2).symm.trans cq11) (by decide))
    ·
      refine Rn.iconst (pc' := 42) (v := (1 : Int32)) d10_41 rfl rfl ?_
      refine Rn.goto (pc' := 46) d10_42 (by decide) (by decide) ?_
      refine Rn.retN (t := .boolean) rfl (by simp) d10_46 (Nat.le_of_ble_eq_true rfl) (Nat.le_of_ble_eq_true rfl) ?_
      refine ⟨?_, rfl⟩
      exact own_if_t ⟨(by by_cases q : own_bs x1 = own_bs y1; exact q; exact absurd (if_neg q) cq6), (by by_cases q : own_bs x2 = own_bs y2; exact q; exact absurd (if_neg q) cq11)⟩
set_option maxRecDepth 65536 in
set_option maxHeartbeats 40000000 in
theorem own_law (Z : State) (a0 : Array Value) (hw : ∀ d ∈ tables_1, d.before a0 Z = true) (hE : EW Z a0 []) (a b c d m : Int32) (z : Int32) (hz : z ≠ 0) (S : Sta Z Z.heap "java/lang/String" "COMPACT_STRINGS" "Z" (.int z)) :
    Rn true Z [] "com/example/local_quorum/localquorum/PermissionEqualsPinLaw" "law" code 11 ret room_1 Z.heap [] (fun v _ => v = some (.int 1)) [] 0 0 Z.heap 0 #[.val (.int a), .val (.int b), .val (.int c), .val (.int d), .val (.int m), .unset, .unset, .unset, .unset, .unset, .unset] [] := by
  have J_a2 : ∀ a2 : Int32, Rn true Z [] "com/example/local_quorum/localquorum/PermissionEqualsPinLaw" "law" code 11 ret room_1 Z.heap [] (fun v _ => v = some (.int 1)) [] 0 0 Z.heap 12 #[.val (.int a), .val (.int b), .val (.int c), .val (.int d), .val (.int m), .unset, .unset, .unset, .unset, .unset, .unset] [.int a2] := by
    intro a2
    refine Rn.istore (pc' := 14) (Ls' := #[.val (.int a), .val (.int b), .val (.int c), .val (.int d), .val (.int m), .val (.int a2), .unset, .unset, .unset, .unset, .unset]) at_12 rfl rfl ?_
    have J_b2 : ∀ b2 : Int32, Rn true Z [] "com/example/local_quorum/localquorum/PermissionEqualsPinLaw" "law" code 11 ret room_1 Z.heap [] (fun v _ => v = some (.int 1)) [] 0 0 Z.heap 26 #[.val (.int a), .val (.int b), .val (.int c), .val (.int d), .val (.int m), .val (.int a2), .unset, .unset, .unset, .unset, .unset] [.int b2] := by
      intro b2
      refine Rn.istore (pc' := 28) (Ls' := #[.val (.int a), .val (.int b), .val (.int c), .val (.int d), .val (.int m), .val (.int a2), .val (.int b2), .unset, .unset, .unset, .unset]) at_26 rfl rfl ?_
      refine Rn.iload (pc' := 30) at_28 rfl rfl ?_
      refine Rn.iconst (pc' := 31) (v := (2 : Int32)) at_30 rfl rfl ?_
      refine Rn.iushr (pc' := 32) (v := (XT.ushr m (2 : Int32))) at_31 rfl rfl ?_
      refine Rn.iconst (pc' := 33) (v := (3 : Int32)) at_32 rfl rfl ?_
      refine Rn.iand (pc' := 34) (v := ((XT.ushr m (2 : Int32)) &&& (3 : Int32))) at_33 rfl rfl ?_
      refine Rn.istore (pc' := 36) (Ls' := #[.val (.int a), .val (.int b), .val (.int c), .val (.int d), .val (.int m), .val (.int a2), .val (.int b2), .val (.int ((XT.ushr m (2 : Int32)) &&& (3 : Int32))), .unset, .unset, .unset]) at_34 rfl rfl ?_
      refine Rn.newO (pc' := 39) (hw _ (List.mem_of_getElem? (i := 0) rfl)) (hw _ (List.mem_of_getElem? (i := 1) rfl)) (hw _ (List.mem_of_getElem? (i := 2) rfl)) at_36 (Nat.le_of_ble_eq_true rfl) (Nat.le_of_ble_eq_true rfl) rfl (fun hq2 aq1 eq3 gq4 Eq5 ⟨Aq6, Dq7, Uq8⟩ => ?_)
      have Fq9 : Fld Z hq2 aq1 "com/example/local_quorum/localquorum/Permission" "action" "Ljava/lang/String;" (.null) := Dq7 (Or.inr (hw _ (List.mem_of_getElem? (i := 54) rfl))) (ty := (.object "java/lang/String")) (by decide)
      have Fq10 : Fld Z hq2 aq1 "com/example/local_quorum/localquorum/Permission" "object" "Ljava/lang/String;" (.null) := Dq7 (Or.inr (hw _ (List.mem_of_getElem? (i := 57) rfl))) (ty := (.object "java/lang/String")) (by decide)
      refine Rn.dup (pc' := 40) at_39 rfl rfl ?_
      refine Rn.iloadN (pc' := 41) at_40 rfl rfl ?_
      refine Rn.callS (pc' := 44) (argsL := [.int a]) (rest := [.ref aq1, .ref aq1]) (ct_str Z a0 hw a hq2 z hz S) (hw _ (List.mem_of_getElem? (i := 3) rfl)) (hw _ (List.mem_of_getElem? (i := 4) rfl)) (hw _ (List.mem_of_getElem? (i := 5) rfl)) (hw _ (List.mem_of_getElem? (i := 6) rfl)) (by decide) rfl rfl (lenOf pd_14 rfl) rfl at_41 rfl (Nat.le_of_ble_eq_true rfl) (Nat.le_of_ble_eq_true rfl) (Nat.le_of_ble_eq_true rfl) (Nat.le_of_ble_eq_true rfl) (fun _ z => nomatch z) (fun _ z => nomatch z) (fun vq16 hq17 Kq18 qq19 => ?_)
      obtain ⟨sq11, tq12, rfl, hsq13, htq14, Gq15⟩ := qq19
      simp only [Option.toList, List.cons_append, List.nil_append]
      have nq20 : aq1 ≠ sq11 := Nat.ne_of_lt (Nat.lt_of_lt_of_le Aq6.lt hsq13)
      have nq21 : aq1 ≠ tq12 := Nat.ne_of_lt (Nat.lt_of_lt_of_le Aq6.lt htq14)
      refine Rn.iloadN (pc' := 45) at_44 rfl rfl ?_
      have Fq22 := Aq6.keep Kq18
      refine Rn.callS (pc' := 48) (argsL := [.int b]) (rest := [.ref sq11, .ref aq1, .ref aq1]) (ct_str Z a0 hw b hq17 z hz S) (hw _ (List.mem_of_getElem? (i := 3) rfl)) (hw _ (List.mem_of_getElem? (i := 4) rfl)) (hw _ (List.mem_of_getElem? (i := 5) rfl)) (hw _ (List.mem_of_getElem? (i := 6) rfl)) (by decide) rfl rfl (lenOf pd_14 rfl) rfl at_45 rfl (Nat.le_of_ble_eq_true rfl) (Nat.le_of_ble_eq_true rfl) (Nat.le_of_ble_eq_true rfl) (Nat.le_of_ble_eq_true rfl) (fun _ z => nomatch z) (fun _ z => nomatch z) (fun vq28 hq29 Kq30 qq31 => ?_)
      obtain ⟨sq23, tq24, rfl, hsq25, htq26, Gq27⟩ := qq31
      simp only [Option.toList, List.cons_append, List.nil_append]
      have nq32 : aq1 ≠ sq23 := Nat.ne_of_lt (Nat.lt_of_lt_of_le Fq22.lt hsq25)
      have nq33 : aq1 ≠ tq24 := Nat.ne_of_lt (Nat.lt_of_lt_of_le Fq22.lt htq26)
      have nq34 : sq11 ≠ sq23 := Nat.ne_of_lt (Nat.lt_of_lt_of_le Gq15.1.lt hsq25)
      have nq35 : sq11 ≠ tq24 := Nat.ne_of_lt (Nat.lt_of_lt_of_le Gq15.1.lt htq26)
      have nq36 : tq12 ≠ sq23 := Nat.ne_of_lt (Nat.lt_of_lt_of_le Gq15.2.2.2.lt hsq25)
      have nq37 : tq12 ≠ tq24 := Nat.ne_of_lt (Nat.lt_of_lt_of_le Gq15.2.2.2.lt htq26)
      have Fq38 := Gq15.1.keep Kq30
      have Fq39 := Gq15.2.1.keep Kq30 nin0
      have Fq40 := Gq15.2.2.1.keep Kq30 nin0
      have Fq41 := Gq15.2.2.2.keep Kq30 nin0
      have Fq43 := Fq22.keep Kq30
      have Fq44 := Fq9.keep Kq18 nin0
      have Fq45 := Fq44.keep Kq30 nin0
      have Fq46 := Fq10.keep Kq18 nin0
      have Fq47 := Fq46.keep Kq30 nin0
      refine Rn.callIW (pc' := 51) (argsL := [.ref sq11, .ref sq23]) (a := aq1) (rest := [.ref aq1]) hE (ct_pi Z a0 hw hE aq1 sq11 tq12 sq23 tq24 a b hq29 Fq43 Fq45 Fq47 ⟨Fq38, Fq39, Fq40, Fq41⟩ ⟨Gq27.1, Gq27.2.1, Gq27.2.2.1, Gq27.2.2.2⟩ (Ne.symm nq20) (Ne.symm nq21) (Ne.symm nq32) (Ne.symm nq33)) rfl (hw _ (List.mem_of_getElem? (i := 33) rfl)) (hw _ (List.mem_of_getElem? (i := 34) rfl)) (hw _ (List.mem_of_getElem? (i := 2) rfl)) (hw _ (List.mem_of_getElem? (i := 35) rfl)) (by decide) rfl rfl (lenOf pd_15 rfl) rfl at_48 rfl (Nat.le_of_ble_eq_true rfl) (Nat.le_of_ble_eq_true rfl) (Nat.le_of_ble_eq_true rfl) (Nat.le_of_ble_eq_true rfl) (allS (Or.inr gq4) all0) (fun _ z => nomatch z) (fun vq48 hq49 Kq50 qq51 => ?_)
      obtain ⟨rfl, Tq42⟩ := qq51
      simp only [Option.toList, List.cons_append, List.nil_append]
      refine Rn.astore (pc' := 53) (Ls' := #[.val (.int a), .val (.int b), .val (.int c), .val (.int d), .val (.int m), .val (.int a2), .val (.int b2), .val (.int ((XT.ushr m (2 : Int32)) &&& (3 : Int32))), .val (.ref aq1), .unset, .unset]) at_51 rfl rfl rfl ?_
      refine Rn.aload (pc' := 55) at_53 rfl rfl rfl ?_
      refine Rn.aload (pc' := 57) at_55 rfl rfl rfl ?_
      have Fq52 := Fq38.keep Kq50
      have Fq53 := Gq27.1.keep Kq50
      refine Rn.callV (pc' := 60) (argsL := [.ref aq1]) (a := aq1) (rest := []) (ct_pes Z a0 hw aq1 sq11 sq23 hq49 ⟨Tq42.1, Tq42.2.1, Tq42.2.2⟩ Fq52 Fq53) Tq42.1 (hw _ (List.mem_of_getElem? (i := 58) rfl)) (hw _ (List.mem_of_getElem? (i := 59) rfl)) (fun _ hZ => notFace_of_selects (args := #[]) (mvT hZ (hw _ (List.mem_of_getElem? (i := 61) rfl)))) (hw _ (List.mem_of_getElem? (i := 61) rfl)) (hw _ (List.mem_of_getElem? (i := 60) rfl)) (hw _ (List.mem_of_getElem? (i := 2) rfl)) (hw _ (List.mem_of_getElem? (i := 62) rfl)) (by decide) rfl rfl (lenOf pd_13 rfl) rfl at_57 rfl (Nat.le_of_ble_eq_true rfl) (Nat.le_of_ble_eq_true rfl) (Nat.le_of_ble_eq_true rfl) (Nat.le_of_ble_eq_true rfl) (fun _ z => nomatch z) (fun _ z => nomatch z) (fun vq54 hq55 Kq56 qq57 => ?_)
      obtain ⟨rfl, rfl⟩ := qq57
      simp only [Option.toList, List.cons_append, List.nil_append]
      refine Rn.if_ne (pc' := 65) (pn := 63) at_60 (by decide) (by decide) rfl (fun cq58 => ?_) (fun cq58 => absurd cq58 (by decide))
      refine Rn.iload (pc' := 67) at_65 rfl rfl ?_
      refine Rn.iconst (pc' := 68) (v := (1 : Int32)) at_67 rfl rfl ?_
      refine Rn.icmp_ne (pc' := 86) (pn := 71) at_68 (by decide) (by decide) rfl (fun cq59 => ?_) (fun cq59 => ?_)
      ·
        refine Rn.iload (pc' := 88) at_86 rfl rfl ?_
        refine Rn.iconst (pc' := 89) (v := (2 : Int32)) at_88 rfl rfl ?_
        refine Rn.icmp_ne (pc' := 114) (pn := 92) at_89 (by decide) (by decide) rfl (fun cq60 => ?_) (fun cq60 => ?_)
        ·
          refine Rn.newO (pc' := 117) (hw _ (List.mem_of_getElem? (i := 0) rfl)) (hw _ (List.mem_of_getElem? (i := 1) rfl)) (hw _ (List.mem_of_getElem? (i := 2) rfl)) at_114 (Nat.le_of_ble_eq_true rfl) (Nat.le_of_ble_eq_true rfl) rfl (fun hq62 aq61 eq63 gq64 Eq65 ⟨Aq66, Dq67, Uq68⟩ => ?_)
          have nq69 : aq1 ≠ aq61 := by rw [eq63]; exact Nat.ne_of_lt (Tq42.1.lt)
          have nq70 : sq11 ≠ aq61 := by rw [eq63]; exact Nat.ne_of_lt (Fq52.lt)
          have Fq71 := Fq41.keep Kq50 (ninS (Ne.symm nq21) nin0)
          have nq72 : tq12 ≠ aq61 := by rw [eq63]; exact Nat.ne_of_lt (Fq71.lt)
          have nq73 : sq23 ≠ aq61 := by rw [eq63]; exact Nat.ne_of_lt (Fq53.lt)
          have Fq74 := Gq27.2.2.2.keep Kq50 (ninS (Ne.symm nq33) nin0)
          have nq75 : tq24 ≠ aq61 := by rw [eq63]; exact Nat.ne_of_lt (Fq74.lt)
          have Fq76 : Fld Z hq62 aq61 "com/example/local_quorum/localquorum/Permission" "action" "Ljava/lang/String;" (.null) := Dq67 (Or.inr (hw _ (List.mem_of_getElem? (i := 54) rfl))) (ty := (.object "java/lang/String")) (by decide)
          have Fq77 : Fld Z hq62 aq61 "com/example/local_quorum/localquorum/Permission" "object" "Ljava/lang/String;" (.null) := Dq67 (Or.inr (hw _ (List.mem_of_getElem? (i := 57) rfl))) (ty := (.object "java/lang/String")) (by decide)
          refine Rn.dup (pc' := 118) at_117 rfl rfl ?_
          refine Rn.iload (pc' := 120) at_118 rfl rfl ?_
          have Fq78 := Tq42.1.ext Eq65
          have Fq79 := Fq52.ext Eq65
          have Fq80 := Fq71.ext Eq65
          have Fq81 := Fq53.ext Eq65
          have Fq82 := Fq74.ext Eq65
          refine Rn.callS (pc' := 123) (argsL := [.int a2]) (rest := [.ref aq61, .ref aq61]) (ct_str Z a0 hw a2 hq62 z hz S) (hw _ (List.mem_of_getElem? (i := 3) rfl)) (hw _ (List.mem_of_getElem? (i := 4) rfl)) (hw _ (List.mem_of_getElem? (i := 5) rfl)) (hw _ (List.mem_of_getElem? (i := 6) rfl)) (by decide) rfl rfl (lenOf pd_14 rfl) rfl at_120 rfl (Nat.le_of_ble_eq_true rfl) (Nat.le_of_ble_eq_true rfl) (Nat.le_of_ble_eq_true rfl) (Nat.le_of_ble_eq_true rfl) (fun _ z => nomatch z) (fun _ z => nomatch z) (fun vq88 hq89 Kq90 qq91 => ?_)
          obtain ⟨sq83, tq84, rfl, hsq85, htq86, Gq87⟩ := qq91
          simp only [Option.toList, List.cons_append, List.nil_append]
          have nq92 : aq1 ≠ sq83 := Nat.ne_of_lt (Nat.lt_of_lt_of_le Fq78.lt hsq85)
          have nq93 : aq1 ≠ tq84 := Nat.ne_of_lt (Nat.lt_of_lt_of_le Fq78.lt htq86)
          have nq94 : sq11 ≠ sq83 := Nat.ne_of_lt (Nat.lt_of_lt_of_le Fq79.lt hsq85)
          have nq95 : sq11 ≠ tq84 := Nat.ne_of_lt (Nat.lt_of_lt_of_le Fq79.lt htq86)
          have nq96 : tq12 ≠ sq83 := Nat.ne_of_lt (Nat.lt_of_lt_of_le Fq80.lt hsq85)
          have nq97 : tq12 ≠ tq84 := Nat.ne_of_lt (Nat.lt_of_lt_of_le Fq80.lt htq86)
          have nq98 : sq23 ≠ sq83 := Nat.ne_of_lt (Nat.lt_of_lt_of_le Fq81.lt hsq85)
          have nq99 : sq23 ≠ tq84 := Nat.ne_of_lt (Nat.lt_of_lt_of_le Fq81.lt htq86)
          have nq100 : tq24 ≠ sq83 := Nat.ne_of_lt (Nat.lt_of_lt_of_le Fq82.lt hsq85)
          have nq101 : tq24 ≠ tq84 := Nat.ne_of_lt (Nat.lt_of_lt_of_le Fq82.lt htq86)
          have nq102 : aq61 ≠ sq83 := Nat.ne_of_lt (Nat.lt_of_lt_of_le Aq66.lt hsq85)
          have nq103 : aq61 ≠ tq84 := Nat.ne_of_lt (Nat.lt_of_lt_of_le Aq66.lt htq86)
          refine Rn.iload (pc' := 125) at_123 rfl rfl ?_
          have Fq104 := Fq78.keep Kq90
          have Fq105 := Fq79.keep Kq90
          have Fq106 := Fq80.keep Kq90 nin0
          have Fq107 := Fq81.keep Kq90
          have Fq108 := Fq82.keep Kq90 nin0
          have Fq109 := Aq66.keep Kq90
          refine Rn.callS (pc' := 128) (argsL := [.int b2]) (rest := [.ref sq83, .ref aq61, .ref aq61]) (ct_str Z a0 hw b2 hq89 z hz S) (hw _ (List.mem_of_getElem? (i := 3) rfl)) (hw _ (List.mem_of_getElem? (i := 4) rfl)) (hw _ (List.mem_of_getElem? (i := 5) rfl)) (hw _ (List.mem_of_getElem? (i := 6) rfl)) (by decide) rfl rfl (lenOf pd_14 rfl) rfl at_125 rfl (Nat.le_of_ble_eq_true rfl) (Nat.le_of_ble_eq_true rfl) (Nat.le_of_ble_eq_true rfl) (Nat.le_of_ble_eq_true rfl) (fun _ z => nomatch z) (fun _ z => nomatch z) (fun vq115 hq116 Kq117 qq118 => ?_)
          obtain ⟨sq110, tq111, rfl, hsq112, htq113, Gq114⟩ := qq118
          simp only [Option.toList, List.cons_append, List.nil_append]
          have nq119 : aq1 ≠ sq110 := Nat.ne_of_lt (Nat.lt_of_lt_of_le Fq104.lt hsq112)
          have nq120 : aq1 ≠ tq111 := Nat.ne_of_lt (Nat.lt_of_lt_of_le Fq104.lt htq113)
          have nq121 : sq11 ≠ sq110 := Nat.ne_of_lt (Nat.lt_of_lt_of_le Fq105.lt hsq112)
          have nq122 : sq11 ≠ tq111 := Nat.ne_of_lt (Nat.lt_of_lt_of_le Fq105.lt htq113)
          have nq123 : tq12 ≠ sq110 := Nat.ne_of_lt (Nat.lt_of_lt_of_le Fq106.lt hsq112)
          have nq124 : tq12 ≠ tq111 := Nat.ne_of_lt (Nat.lt_of_lt_of_le Fq106.lt htq113)
          have nq125 : sq23 ≠ sq110 := Nat.ne_of_lt (Nat.lt_of_lt_of_le Fq107.lt hsq112)
          have nq126 : sq23 ≠ tq111 := Nat.ne_of_lt (Nat.lt_of_lt_of_le Fq107.lt htq113)
          have nq127 : tq24 ≠ sq110 := Nat.ne_of_lt (Nat.lt_of_lt_of_le Fq108.lt hsq112)
          have nq128 : tq24 ≠ tq111 := Nat.ne_of_lt (Nat.lt_of_lt_of_le Fq108.lt htq113)
          have nq129 : aq61 ≠ sq110 := Nat.ne_of_lt (Nat.lt_of_lt_of_le Fq109.lt hsq112)
          have nq130 : aq61 ≠ tq111 := Nat.ne_of_lt (Nat.lt_of_lt_of_le Fq109.lt htq113)
          have nq131 : sq83 ≠ sq110 := Nat.ne_of_lt (Nat.lt_of_lt_of_le Gq87.1.lt hsq112)
          have nq132 : sq83 ≠ tq111 := Nat.ne_of_lt (Nat.lt_of_lt_of_le Gq87.1.lt htq113)
          have nq133 : tq84 ≠ sq110 := Nat.ne_of_lt (Nat.lt_of_lt_of_le Gq87.2.2.2.lt hsq112)
          have nq134 : tq84 ≠ tq111 := Nat.ne_of_lt (Nat.lt_of_lt_of_le Gq87.2.2.2.lt htq113)
          have Fq135 := Gq87.1.keep Kq117
          have Fq136 := Gq87.2.1.keep Kq117 nin0
          have Fq137 := Gq87.2.2.1.keep Kq117 nin0
          have Fq138 := Gq87.2.2.2.keep Kq117 nin0
          have Fq140 := Fq109.keep Kq117
          have Fq141 := Fq76.keep Kq90 nin0
          have Fq142 := Fq141.keep Kq117 nin0
          have Fq143 := Fq77.keep Kq90 nin0
          have Fq144 := Fq143.keep Kq117 nin0
          refine Rn.callIW (pc' := 131) (argsL := [.ref sq83, .ref sq110]) (a := aq61) (rest := [.ref aq61]) hE (ct_pi Z a0 hw hE aq61 sq83 tq84 sq110 tq111 a2 b2 hq116 Fq140 Fq142 Fq144 ⟨Fq135, Fq136, Fq137, Fq138⟩ ⟨Gq114.1, Gq114.2.1, Gq114.2.2.1, Gq114.2.2.2⟩ (Ne.symm nq102) (Ne.symm nq103) (Ne.symm nq129) (Ne.symm nq130)) rfl (hw _ (List.mem_of_getElem? (i := 33) rfl)) (hw _ (List.mem_of_getElem? (i := 34) rfl)) (hw _ (List.mem_of_getElem? (i := 2) rfl)) (hw _ (List.mem_of_getElem? (i := 35) rfl)) (by decide) rfl rfl (lenOf pd_15 rfl) rfl at_128 rfl (Nat.le_of_ble_eq_true rfl) (Nat.le_of_ble_eq_true rfl) (Nat.le_of_ble_eq_true rfl) (Nat.le_of_ble_eq_true rfl) (allS (Or.inr gq64) all0) (fun _ z => nomatch z) (fun vq145 hq146 Kq147 qq148 => ?_)
          obtain ⟨rfl, Tq139⟩ := qq148
          simp only [Option.toList, List.cons_append, List.nil_append]
          refine Rn.astore (pc' := 133) (Ls' := #[.val (.int a), .val (.int b), .val (.int c), .val (.int d), .val (.int m), .val (.int a2), .val (.int b2), .val (.int ((XT.ushr m (2 : Int32)) &&& (3 : Int32))), .val (.ref aq1), .val (.ref aq61), .unset]) at_131 rfl rfl rfl ?_
          refine Rn.iloadN (pc' := 134) at_133 rfl rfl ?_
          refine Rn.iload (pc' := 136) at_134 rfl rfl ?_
          refine Rn.callS (pc' := 139) (argsL := [.int a, .int a2]) (rest := []) (ct_sm Z a0 hw a a2 hq146) (hw _ (List.mem_of_getElem? (i := 70) rfl)) (hw _ (List.mem_of_getElem? (i := 71) rfl)) (hw _ (List.mem_of_getElem? (i := 5) rfl)) (hw _ (List.mem_of_getElem? (i := 72) rfl)) (by decide) rfl rfl (lenOf pd_16 rfl) rfl at_136 rfl (Nat.le_of_ble_eq_true rfl) (Nat.le_of_ble_eq_true rfl) (Nat.le_of_ble_eq_true rfl) (Nat.le_of_ble_eq_true rfl) (fun _ z => nomatch z) (fun _ z => nomatch z) (fun vq149 hq150 Kq151 qq152 => ?_)
          obtain ⟨rfl, rfl⟩ := qq152
          simp only [Option.toList, List.cons_append, List.nil_append]
          refine Rn.if_eq (pc' := 155) (pn := 142) at_139 (by decide) (by decide) rfl (fun cq153 => ?_) (fun cq153 => ?_)
          ·
            refine Rn.iconst (pc' := 156) (v := (0 : Int32)) at_155 rfl rfl ?_
            refine Rn.istore (pc' := 158) (Ls' := #[.val (.int a), .val (.int b), .val (.int c), .val (.int d), .val (.int m), .val (.int a2), .val (.int b2), .val (.int ((XT.ushr m (2 : Int32)) &&& (3 : Int32))), .val (.ref aq1), .val (.ref aq61), .val (.int (0 : Int32))]) at_156 rfl rfl ?_
            refine Rn.aload (pc' := 160) at_158 rfl rfl rfl ?_
            refine Rn.aload (pc' := 162) at_160 rfl rfl rfl ?_
            have Fq154 := Fq105.keep Kq117
            have Fq155 := Fq154.keep Kq147
            have Fq156 := Fq39.keep Kq50 (ninS (Ne.symm nq20) nin0)
            have Fq157 := Fq156.ext Eq65
            have Fq158 := Fq157.keep Kq90 nin0
            have Fq159 := Fq158.keep Kq117 nin0
            have Fq160 := Fq159.keep Kq147 (ninS nq70 nin0)
            have Fq161 := Fq40.keep Kq50 (ninS (Ne.symm nq20) nin0)
            have Fq162 := Fq161.ext Eq65
            have Fq163 := Fq162.keep Kq90 nin0
            have Fq164 := Fq163.keep Kq117 nin0
            have Fq165 := Fq164.keep Kq147 (ninS nq70 nin0)
            have Fq166 := Fq106.keep Kq117 nin0
            have Fq167 := Fq166.keep Kq147 (ninS nq72 nin0)
            have Fq168 := Fq107.keep Kq117
            have Fq169 := Fq168.keep Kq147
            have Fq170 := Gq27.2.1.keep Kq50 (ninS (Ne.symm nq32) nin0)
            have Fq171 := Fq170.ext Eq65
            have Fq172 := Fq171.keep Kq90 nin0
            have Fq173 := Fq172.keep Kq117 nin0
            have Fq174 := Fq173.keep Kq147 (ninS nq73 nin0)
            have Fq175 := Gq27.2.2.1.keep Kq50 (ninS (Ne.symm nq32) nin0)
            have Fq176 := Fq175.ext Eq65
            have Fq177 := Fq176.keep Kq90 nin0
            have Fq178 := Fq177.keep Kq117 nin0
            have Fq179 := Fq178.keep Kq147 (ninS nq73 nin0)
            have Fq180 := Fq108.keep Kq117 nin0
            have Fq181 := Fq180.keep Kq147 (ninS nq75 nin0)
            have Fq182 := Fq135.keep Kq147
            have Fq183 := Fq136.keep Kq147 (ninS (Ne.symm nq102) nin0)
            have Fq184 := Fq137.keep Kq147 (ninS (Ne.symm nq102) nin0)
            have Fq185 := Fq138.keep Kq147 (ninS (Ne.symm nq103) nin0)
            have Fq186 := Gq114.1.keep Kq147
            have Fq187 := Gq114.2.1.keep Kq147 (ninS (Ne.symm nq129) nin0)
            have Fq188 := Gq114.2.2.1.keep Kq147 (ninS (Ne.symm nq129) nin0)
            have Fq189 := Gq114.2.2.2.keep Kq147 (ninS (Ne.symm nq130) nin0)
            have Fq190 := Fq104.keep Kq117
            have Fq191 := Fq190.keep Kq147
            have Fq192 := Tq42.2.1.ext Eq65
            have Fq193 := Fq192.keep Kq90 nin0
            have Fq194 := Fq193.keep Kq117 nin0
            have Fq195 := Fq194.keep Kq147 (ninS nq69 nin0)
            have Fq196 := Tq42.2.2.ext Eq65
            have Fq197 := Fq196.keep Kq90 nin0
            have Fq198 := Fq197.keep Kq117 nin0
            have Fq199 := Fq198.keep Kq147 (ninS nq69 nin0)
            refine Rn.callV (pc' := 165) (argsL := [.ref aq61]) (a := aq1) (rest := []) (ct_pe Z a0 hw aq1 aq61 sq11 tq12 sq23 tq24 sq83 tq84 sq110 tq111 a b a2 b2 hq146 ⟨Fq191, Fq195, Fq199⟩ ⟨Tq139.1, Tq139.2.1, Tq139.2.2⟩ ⟨Fq155, Fq160, Fq165, Fq167⟩ ⟨Fq169, Fq174, Fq179, Fq181⟩ ⟨Fq182, Fq183, Fq184, Fq185⟩ ⟨Fq186, Fq187, Fq188, Fq189⟩ nq94 nq125  z hz S) Fq191 (hw _ (List.mem_of_getElem? (i := 58) rfl)) (hw _ (List.mem_of_getElem? (i := 59) rfl)) (fun _ hZ => notFace_of_selects (args := #[]) (mvT hZ (hw _ (List.mem_of_getElem? (i := 61) rfl)))) (hw _ (List.mem_of_getElem? (i := 61) rfl)) (hw _ (List.mem_of_getElem? (i := 60) rfl)) (hw _ (List.mem_of_getElem? (i := 2) rfl)) (hw _ (List.mem_of_getElem? (i := 62) rfl)) (by decide) rfl rfl (lenOf pd_13 rfl) rfl at_162 rfl (Nat.le_of_ble_eq_true rfl) (Nat.le_of_ble_eq_true rfl) (Nat.le_of_ble_eq_true rfl) (Nat.le_of_ble_eq_true rfl) (fun _ z => nomatch z) (fun _ z => nomatch z) (fun vq200 hq201 Kq202 qq203 => ?_)
            obtain ⟨rfl, rfl⟩ := qq203
            simp only [Option.toList, List.cons_append, List.nil_append]
            refine Rn.iload (pc' := 167) at_165 rfl rfl ?_
            refine Rn.icmp_ne (pc' := 186) (pn := 170) at_167 (by decide) (by decide) rfl (fun cq204 => absurd (if_neg (c := own_bs a = own_bs a2 ∧ own_bs b = own_bs b2) (fun q => absurd ((if_pos (c := own_bs a = own_bs a2) q.1).symm.trans cq153) (by decide))) cq204) (fun cq204 => ?_)
            refine Rn.aload (pc' := 172) at_170 rfl rfl rfl ?_
            refine Rn.aload (pc' := 174) at_172 rfl rfl rfl ?_
            refine Rn.callV (pc' := 177) (argsL := [.ref aq1]) (a := aq61) (rest := []) (ct_pe Z a0 hw aq61 aq1 sq83 tq84 sq110 tq111 sq11 tq12 sq23 tq24 a2 b2 a b hq146 ⟨Tq139.1, Tq139.2.1, Tq139.2.2⟩ ⟨Fq191, Fq195, Fq199⟩ ⟨Fq182, Fq183, Fq184, Fq185⟩ ⟨Fq186, Fq187, Fq188, Fq189⟩ ⟨Fq155, Fq160, Fq165, Fq167⟩ ⟨Fq169, Fq174, Fq179, Fq181⟩ (Ne.symm nq94) (Ne.symm nq125)  z hz S) Tq139.1 (hw _ (List.mem_of_getElem? (i := 58) rfl)) (hw _ (List.mem_of_getElem? (i := 59) rfl)) (fun _ hZ => notFace_of_selects (args := #[]) (mvT hZ (hw _ (List.mem_of_getElem? (i := 61) rfl)))) (hw _ (List.mem_of_getElem? (i := 61) rfl)) (hw _ (List.mem_of_getElem? (i := 60) rfl)) (hw _ (List.mem_of_getElem? (i := 2) rfl)) (hw _ (List.mem_of_getElem? (i := 62) rfl)) (by decide) rfl rfl (lenOf pd_13 rfl) rfl at_174 rfl (Nat.le_of_ble_eq_true rfl) (Nat.le_of_ble_eq_true rfl) (Nat.le_of_ble_eq_true rfl) (Nat.le_of_ble_eq_true rfl) (fun _ z => nomatch z) (fun _ z => nomatch z) (fun vq205 hq206 Kq207 qq208 => ?_)
            obtain ⟨rfl, rfl⟩ := qq208
            simp only [Option.toList, List.cons_append, List.nil_append]
            refine Rn.iload (pc' := 179) at_177 rfl rfl ?_
            refine Rn.icmp_ne (pc' := 186) (pn := 182) at_179 (by decide) (by decide) rfl (fun cq209 => absurd (if_neg (c := own_bs a2 = own_bs a ∧ own_bs b2 = own_bs b) (fun q => absurd ((if_pos (c := own_bs a = own_bs a2) q.1.symm).symm.trans cq153) (by decide))) cq209) (fun cq209 => ?_)
            refine Rn.iconst (pc' := 183) (v := (1 : Int32)) at_182 rfl rfl ?_
            refine Rn.goto (pc' := 187) at_183 (by decide) (by decide) ?_
            refine Rn.retN (t := .boolean) rfl (by simp) at_187 (Nat.le_of_ble_eq_true rfl) (Nat.le_of_ble_eq_true rfl) ?_
            rfl
          ·
            refine Rn.iloadN (pc' := 143) at_142 rfl rfl ?_
            refine Rn.iload (pc' := 145) at_143 rfl rfl ?_
            refine Rn.callS (pc' := 148) (argsL := [.int b, .int b2]) (rest := []) (ct_sm Z a0 hw b b2 hq146) (hw _ (List.mem_of_getElem? (i := 70) rfl)) (hw _ (List.mem_of_getElem? (i := 71) rfl)) (hw _ (List.mem_of_getElem? (i := 5) rfl)) (hw _ (List.mem_of_getElem? (i := 72) rfl)) (by decide) rfl rfl (lenOf pd_16 rfl) rfl at_145 rfl (Nat.le_of_ble_eq_true rfl) (Nat.le_of_ble_eq_true rfl) (Nat.le_of_ble_eq_true rfl) (Nat.le_of_ble_eq_true rfl) (fun _ z => nomatch z) (fun _ z => nomatch z) (fun vq210 hq211 Kq212 qq213 => ?_)
            obtain ⟨rfl, rfl⟩ := qq213
            simp only [Option.toList, List.cons_append, List.nil_append]
            refine Rn.if_eq (pc' := 155) (pn := 151) at_148 (by decide) (by decide) rfl (fun cq214 => ?_) (fun cq214 => ?_)
            ·
              refine Rn.iconst (pc' := 156) (v := (0 : Int32)) at_155 rfl rfl ?_
              refine Rn.istore (pc' := 158) (Ls' := #[.val (.int a), .val (.int b), .val (.int c), .val (.int d), .val (.int m), .val (.int a2), .val (.int b2), .val (.int ((XT.ushr m (2 : Int32)) &&& (3 : Int32))), .val (.ref aq1), .val (.ref aq61), .val (.int (0 : Int32))]) at_156 rfl rfl ?_
              refine Rn.aload (pc' := 160) at_158 rfl rfl rfl ?_
              refine Rn.aload (pc' := 162) at_160 rfl rfl rfl ?_
              have Fq215 := Fq105.keep Kq117
              have Fq216 := Fq215.keep Kq147
              have Fq217 := Fq39.keep Kq50 (ninS (Ne.symm nq20) nin0)
              have Fq218 := Fq217.ext Eq65
              have Fq219 := Fq218.keep Kq90 nin0
              have Fq220 := Fq219.keep Kq117 nin0
              have Fq221 := Fq220.keep Kq147 (ninS nq70 nin0)
              have Fq222 := Fq40.keep Kq50 (ninS (Ne.symm nq20) nin0)
              have Fq223 := Fq222.ext Eq65
              have Fq224 := Fq223.keep Kq90 nin0
              have Fq225 := Fq224.keep Kq117 nin0
              have Fq226 := Fq225.keep Kq147 (ninS nq70 nin0)
              have Fq227 := Fq106.keep Kq117 nin0
              have Fq228 := Fq227.keep Kq147 (ninS nq72 nin0)
              have Fq229 := Fq107.keep Kq117
              have Fq230 := Fq229.keep Kq147
              have Fq231 := Gq27.2.1.keep Kq50 (ninS (Ne.symm nq32) nin0)
              have Fq232 := Fq231.ext Eq65
              have Fq233 := Fq232.keep Kq90 nin0
              have Fq234 := Fq233.keep Kq117 nin0
              have Fq235 := Fq234.keep Kq147 (ninS nq73 nin0)
              have Fq236 := Gq27.2.2.1.keep Kq50 (ninS (Ne.symm nq32) nin0)
              have Fq237 := Fq236.ext Eq65
              have Fq238 := Fq237.keep Kq90 nin0
              have Fq239 := Fq238.keep Kq117 nin0
              have Fq240 := Fq239.keep Kq147 (ninS nq73 nin0)
              have Fq241 := Fq108.keep Kq117 nin0
              have Fq242 := Fq241.keep Kq147 (ninS nq75 nin0)
              have Fq243 := Fq135.keep Kq147
              have Fq244 := Fq136.keep Kq147 (ninS (Ne.symm nq102) nin0)
              have Fq245 := Fq137.keep Kq147 (ninS (Ne.symm nq102) nin0)
              have Fq246 := Fq138.keep Kq147 (ninS (Ne.symm nq103) nin0)
              have Fq247 := Gq114.1.keep Kq147
              have Fq248 := Gq114.2.1.keep Kq147 (ninS (Ne.symm nq129) nin0)
              have Fq249 := Gq114.2.2.1.keep Kq147 (ninS (Ne.symm nq129) nin0)
              have Fq250 := Gq114.2.2.2.keep Kq147 (ninS (Ne.symm nq130) nin0)
              have Fq251 := Fq104.keep Kq117
              have Fq252 := Fq251.keep Kq147
              have Fq253 := Tq42.2.1.ext Eq65
              have Fq254 := Fq253.keep Kq90 nin0
              have Fq255 := Fq254.keep Kq117 nin0
              have Fq256 := Fq255.keep Kq147 (ninS nq69 nin0)
              have Fq257 := Tq42.2.2.ext Eq65
              have Fq258 := Fq257.keep Kq90 nin0
              have Fq259 := Fq258.keep Kq117 nin0
              have Fq260 := Fq259.keep Kq147 (ninS nq69 nin0)
              refine Rn.callV (pc' := 165) (argsL := [.ref aq61]) (a := aq1) (rest := []) (ct_pe Z a0 hw aq1 aq61 sq11 tq12 sq23 tq24 sq83 tq84 sq110 tq111 a b a2 b2 hq146 ⟨Fq252, Fq256, Fq260⟩ ⟨Tq139.1, Tq139.2.1, Tq139.2.2⟩ ⟨Fq216, Fq221, Fq226, Fq228⟩ ⟨Fq230, Fq235, Fq240, Fq242⟩ ⟨Fq243, Fq244, Fq245, Fq246⟩ ⟨Fq247, Fq248, Fq249, Fq250⟩ nq94 nq125  z hz S) Fq252 (hw _ (List.mem_of_getElem? (i := 58) rfl)) (hw _ (List.mem_of_getElem? (i := 59) rfl)) (fun _ hZ => notFace_of_selects (args := #[]) (mvT hZ (hw _ (List.mem_of_getElem? (i := 61) rfl)))) (hw _ (List.mem_of_getElem? (i := 61) rfl)) (hw _ (List.mem_of_getElem? (i := 60) rfl)) (hw _ (List.mem_of_getElem? (i := 2) rfl)) (hw _ (List.mem_of_getElem? (i := 62) rfl)) (by decide) rfl rfl (lenOf pd_13 rfl) rfl at_162 rfl (Nat.le_of_ble_eq_true rfl) (Nat.le_of_ble_eq_true rfl) (Nat.le_of_ble_eq_true rfl) (Nat.le_of_ble_eq_true rfl) (fun _ z => nomatch z) (fun _ z => nomatch z) (fun vq261 hq262 Kq263 qq264 => ?_)
              obtain ⟨rfl, rfl⟩ := qq264
              simp only [Option.toList, List.cons_append, List.nil_append]
              refine Rn.iload (pc' := 167) at_165 rfl rfl ?_
              refine Rn.icmp_ne (pc' := 186) (pn := 170) at_167 (by decide) (by decide) rfl (fun cq265 => absurd (if_neg (c := own_bs a = own_bs a2 ∧ own_bs b = own_bs b2) (fun q => absurd ((if_pos (c := own_bs b = own_bs b2) q.2).symm.trans cq214) (by decide))) cq265) (fun cq265 => ?_)
              refine Rn.aload (pc' := 172) at_170 rfl rfl rfl ?_
              refine Rn.aload (pc' := 174) at_172 rfl rfl rfl ?_
              refine Rn.callV (pc' := 177) (argsL := [.ref aq1]) (a := aq61) (rest := []) (ct_pe Z a0 hw aq61 aq1 sq83 tq84 sq110 tq111 sq11 tq12 sq23 tq24 a2 b2 a b hq146 ⟨Tq139.1, Tq139.2.1, Tq139.2.2⟩ ⟨Fq252, Fq256, Fq260⟩ ⟨Fq243, Fq244, Fq245, Fq246⟩ ⟨Fq247, Fq248, Fq249, Fq250⟩ ⟨Fq216, Fq221, Fq226, Fq228⟩ ⟨Fq230, Fq235, Fq240, Fq242⟩ (Ne.symm nq94) (Ne.symm nq125)  z hz S) Tq139.1 (hw _ (List.mem_of_getElem? (i := 58) rfl)) (hw _ (List.mem_of_getElem? (i := 59) rfl)) (fun _ hZ => notFace_of_selects (args := #[]) (mvT hZ (hw _ (List.mem_of_getElem? (i := 61) rfl)))) (hw _ (List.mem_of_getElem? (i := 61) rfl)) (hw _ (List.mem_of_getElem? (i := 60) rfl)) (hw _ (List.mem_of_getElem? (i := 2) rfl)) (hw _ (List.mem_of_getElem? (i := 62) rfl)) (by decide) rfl rfl (lenOf pd_13 rfl) rfl at_174 rfl (Nat.le_of_ble_eq_true rfl) (Nat.le_of_ble_eq_true rfl) (Nat.le_of_ble_eq_true rfl) (Nat.le_of_ble_eq_true rfl) (fun _ z => nomatch z) (fun _ z => nomatch z) (fun vq266 hq267 Kq268 qq269 => ?_)
              obtain ⟨rfl, rfl⟩ := qq269
              simp only [Option.toList, List.cons_append, List.nil_append]
              refine Rn.iload (pc' := 179) at_177 rfl rfl ?_
              refine Rn.icmp_ne (pc' := 186) (pn := 182) at_179 (by decide) (by decide) rfl (fun cq270 => absurd (if_neg (c := own_bs a2 = own_bs a ∧ own_bs b2 = own_bs b) (fun q => absurd ((if_pos (c := own_bs b = own_bs b2) q.2.symm).symm.trans cq214) (by decide))) cq270) (fun cq270 => ?_)
              refine Rn.iconst (pc' := 183) (v := (1 : Int32)) at_182 rfl rfl ?_
              refine Rn.goto (pc' := 187) at_183 (by decide) (by decide) ?_
              refine Rn.retN (t := .boolean) rfl (by simp) at_187 (Nat.le_of_ble_eq_true rfl) (Nat.le_of_ble_eq_true rfl) ?_
              rfl
            ·
              refine Rn.iconst (pc' := 152) (v := (1 : Int32)) at_151 rfl rfl ?_
              refine Rn.goto (pc' := 156) at_152 (by decide) (by decide) ?_
              refine Rn.istore (pc' := 158) (Ls' := #[.val (.int a), .val (.int b), .val (.int c), .val (.int d), .val (.int m), .val (.int a2), .val (.int b2), .val (.int ((XT.ushr m (2 : Int32)) &&& (3 : Int32))), .val (.ref aq1), .val (.ref aq61), .val (.int (1 : Int32))]) at_156 rfl rfl ?_
              refine Rn.aload (pc' := 160) at_158 rfl rfl rfl ?_
              refine Rn.aload (pc' := 162) at_160 rfl rfl rfl ?_
              have Fq271 := Fq105.keep Kq117
              have Fq272 := Fq271.keep Kq147
              have Fq273 := Fq39.keep Kq50 (ninS (Ne.symm nq20) nin0)
              have Fq274 := Fq273.ext Eq65
              have Fq275 := Fq274.keep Kq90 nin0
              have Fq276 := Fq275.keep Kq117 nin0
              have Fq277 := Fq276.keep Kq147 (ninS nq70 nin0)
              have Fq278 := Fq40.keep Kq50 (ninS (Ne.symm nq20) nin0)
              have Fq279 := Fq278.ext Eq65
              have Fq280 := Fq279.keep Kq90 nin0
              have Fq281 := Fq280.keep Kq117 nin0
              have Fq282 := Fq281.keep Kq147 (ninS nq70 nin0)
              have Fq283 := Fq106.keep Kq117 nin0
              have Fq284 := Fq283.keep Kq147 (ninS nq72 nin0)
              have Fq285 := Fq107.keep Kq117
              have Fq286 := Fq285.keep Kq147
              have Fq287 := Gq27.2.1.keep Kq50 (ninS (Ne.symm nq32) nin0)
              have Fq288 := Fq287.ext Eq65
              have Fq289 := Fq288.keep Kq90 nin0
              have Fq290 := Fq289.keep Kq117 nin0
              have Fq291 := Fq290.keep Kq147 (ninS nq73 nin0)
              have Fq292 := Gq27.2.2.1.keep Kq50 (ninS (Ne.symm nq32) nin0)
              have Fq293 := Fq292.ext Eq65
              have Fq294 := Fq293.keep Kq90 nin0
              have Fq295 := Fq294.keep Kq117 nin0
              have Fq296 := Fq295.keep Kq147 (ninS nq73 nin0)
              have Fq297 := Fq108.keep Kq117 nin0
              have Fq298 := Fq297.keep Kq147 (ninS nq75 nin0)
              have Fq299 := Fq135.keep Kq147
              have Fq300 := Fq136.keep Kq147 (ninS (Ne.symm nq102) nin0)
              have Fq301 := Fq137.keep Kq147 (ninS (Ne.symm nq102) nin0)
              have Fq302 := Fq138.keep Kq147 (ninS (Ne.symm nq103) nin0)
              have Fq303 := Gq114.1.keep Kq147
              have Fq304 := Gq114.2.1.keep Kq147 (ninS (Ne.symm nq129) nin0)
              have Fq305 := Gq114.2.2.1.keep Kq147 (ninS (Ne.symm nq129) nin0)
              have Fq306 := Gq114.2.2.2.keep Kq147 (ninS (Ne.symm nq130) nin0)
              have Fq307 := Fq104.keep Kq117
              have Fq308 := Fq307.keep Kq147
              have Fq309 := Tq42.2.1.ext Eq65
              have Fq310 := Fq309.keep Kq90 nin0
              have Fq311 := Fq310.keep Kq117 nin0
              have Fq312 := Fq311.keep Kq147 (ninS nq69 nin0)
              have Fq313 := Tq42.2.2.ext Eq65
              have Fq314 := Fq313.keep Kq90 nin0
              have Fq315 := Fq314.keep Kq117 nin0
              have Fq316 := Fq315.keep Kq147 (ninS nq69 nin0)
              refine Rn.callV (pc' := 165) (argsL := [.ref aq61]) (a := aq1) (rest := []) (ct_pe Z a0 hw aq1 aq61 sq11 tq12 sq23 tq24 sq83 tq84 sq110 tq111 a b a2 b2 hq146 ⟨Fq308, Fq312, Fq316⟩ ⟨Tq139.1, Tq139.2.1, Tq139.2.2⟩ ⟨Fq272, Fq277, Fq282, Fq284⟩ ⟨Fq286, Fq291, Fq296, Fq298⟩ ⟨Fq299, Fq300, Fq301, Fq302⟩ ⟨Fq303, Fq304, Fq305, Fq306⟩ nq94 nq125  z hz S) Fq308 (hw _ (List.mem_of_getElem? (i := 58) rfl)) (hw _ (List.mem_of_getElem? (i := 59) rfl)) (fun _ hZ => notFace_of_selects (args := #[]) (mvT hZ (hw _ (List.mem_of_getElem? (i := 61) rfl)))) (hw _ (List.mem_of_getElem? (i := 61) rfl)) (hw _ (List.mem_of_getElem? (i := 60) rfl)) (hw _ (List.mem_of_getElem? (i := 2) rfl)) (hw _ (List.mem_of_getElem? (i := 62) rfl)) (by decide) rfl rfl (lenOf pd_13 rfl) rfl at_162 rfl (Nat.le_of_ble_eq_true rfl) (Nat.le_of_ble_eq_true rfl) (Nat.le_of_ble_eq_true rfl) (Nat.le_of_ble_eq_true rfl) (fun _ z => nomatch z) (fun _ z => nomatch z) (fun vq317 hq318 Kq319 qq320 => ?_)
              obtain ⟨rfl, rfl⟩ := qq320
              simp only [Option.toList, List.cons_append, List.nil_append]
              refine Rn.iload (pc' := 167) at_165 rfl rfl ?_
              refine Rn.icmp_ne (pc' := 186) (pn := 170) at_167 (by decide) (by decide) rfl (fun cq321 => absurd (if_pos (c := own_bs a = own_bs a2 ∧ own_bs b = own_bs b2) ⟨(show own_bs a = own_bs a2 by by_cases q : own_bs a = own_bs a2; exact q; exact absurd (if_neg q) cq153), (show own_bs b = own_bs b2 by by_cases q : own_bs b = own_bs b2; exact q; exact absurd (if_neg q) cq214)⟩) cq321) (fun cq321 => ?_)
              refine Rn.aload (pc' := 172) at_170 rfl rfl rfl ?_
              refine Rn.aload (pc' := 174) at_172 rfl rfl rfl ?_
              refine Rn.callV (pc' := 177) (argsL := [.ref aq1]) (a := aq61) (rest := []) (ct_pe Z a0 hw aq61 aq1 sq83 tq84 sq110 tq111 sq11 tq12 sq23 tq24 a2 b2 a b hq146 ⟨Tq139.1, Tq139.2.1, Tq139.2.2⟩ ⟨Fq308, Fq312, Fq316⟩ ⟨Fq299, Fq300, Fq301, Fq302⟩ ⟨Fq303, Fq304, Fq305, Fq306⟩ ⟨Fq272, Fq277, Fq282, Fq284⟩ ⟨Fq286, Fq291, Fq296, Fq298⟩ (Ne.symm nq94) (Ne.symm nq125)  z hz S) Tq139.1 (hw _ (List.mem_of_getElem? (i := 58) rfl)) (hw _ (List.mem_of_getElem? (i := 59) rfl)) (fun _ hZ => notFace_of_selects (args := #[]) (mvT hZ (hw _ (List.mem_of_getElem? (i := 61) rfl)))) (hw _ (List.mem_of_getElem? (i := 61) rfl)) (hw _ (List.mem_of_getElem? (i := 60) rfl)) (hw _ (List.mem_of_getElem? (i := 2) rfl)) (hw _ (List.mem_of_getElem? (i := 62) rfl)) (by decide) rfl rfl (lenOf pd_13 rfl) rfl at_174 rfl (Nat.le_of_ble_eq_true rfl) (Nat.le_of_ble_eq_true rfl) (Nat.le_of_ble_eq_true rfl) (Nat.le_of_ble_eq_true rfl) (fun _ z => nomatch z) (fun _ z => nomatch z) (fun vq322 hq323 Kq324 qq325 => ?_)
              obtain ⟨rfl, rfl⟩ := qq325
              simp only [Option.toList, List.cons_append, List.nil_append]
              refine Rn.iload (pc' := 179) at_177 rfl rfl ?_
              refine Rn.icmp_ne (pc' := 186) (pn := 182) at_179 (by decide) (by decide) rfl (fun cq326 => absurd (if_pos (c := own_bs a2 = own_bs a ∧ own_bs b2 = own_bs b) ⟨(show own_bs a = own_bs a2 by by_cases q : own_bs a = own_bs a2; exact q; exact absurd (if_neg q) cq153).symm, (show own_bs b = own_bs b2 by by_cases q : own_bs b = own_bs b2; exact q; exact absurd (if_neg q) cq214).symm⟩) cq326) (fun cq326 => ?_)
              refine Rn.iconst (pc' := 183) (v := (1 : Int32)) at_182 rfl rfl ?_
              refine Rn.goto (pc' := 187) at_183 (by decide) (by decide) ?_
              refine Rn.retN (t := .boolean) rfl (by simp) at_187 (Nat.le_of_ble_eq_true rfl) (Nat.le_of_ble_eq_true rfl) ?_
              rfl
        ·
          refine Rn.iloadN (pc' := 93) at_92 rfl rfl ?_
          have Fq327 := Fq41.keep Kq50 (ninS (Ne.symm nq21) nin0)
          have Fq328 := Gq27.2.2.2.keep Kq50 (ninS (Ne.symm nq33) nin0)
          refine Rn.callS (pc' := 96) (argsL := [.int a]) (rest := []) (ct_str Z a0 hw a hq49 z hz S) (hw _ (List.mem_of_getElem? (i := 3) rfl)) (hw _ (List.mem_of_getElem? (i := 4) rfl)) (hw _ (List.mem_of_getElem? (i := 5) rfl)) (hw _ (List.mem_of_getElem? (i := 6) rfl)) (by decide) rfl rfl (lenOf pd_14 rfl) rfl at_93 rfl (Nat.le_of_ble_eq_true rfl) (Nat.le_of_ble_eq_true rfl) (Nat.le_of_ble_eq_true rfl) (Nat.le_of_ble_eq_true rfl) (fun _ z => nomatch z) (fun _ z => nomatch z) (fun vq334 hq335 Kq336 qq337 => ?_)
          obtain ⟨sq329, tq330, rfl, hsq331, htq332, Gq333⟩ := qq337
          simp only [Option.toList, List.cons_append, List.nil_append]
          have nq338 : aq1 ≠ sq329 := Nat.ne_of_lt (Nat.lt_of_lt_of_le Tq42.1.lt hsq331)
          have nq339 : aq1 ≠ tq330 := Nat.ne_of_lt (Nat.lt_of_lt_of_le Tq42.1.lt htq332)
          have nq340 : sq11 ≠ sq329 := Nat.ne_of_lt (Nat.lt_of_lt_of_le Fq52.lt hsq331)
          have nq341 : sq11 ≠ tq330 := Nat.ne_of_lt (Nat.lt_of_lt_of_le Fq52.lt htq332)
          have nq342 : tq12 ≠ sq329 := Nat.ne_of_lt (Nat.lt_of_lt_of_le Fq327.lt hsq331)
          have nq343 : tq12 ≠ tq330 := Nat.ne_of_lt (Nat.lt_of_lt_of_le Fq327.lt htq332)
          have nq344 : sq23 ≠ sq329 := Nat.ne_of_lt (Nat.lt_of_lt_of_le Fq53.lt hsq331)
          have nq345 : sq23 ≠ tq330 := Nat.ne_of_lt (Nat.lt_of_lt_of_le Fq53.lt htq332)
          have nq346 : tq24 ≠ sq329 := Nat.ne_of_lt (Nat.lt_of_lt_of_le Fq328.lt hsq331)
          have nq347 : tq24 ≠ tq330 := Nat.ne_of_lt (Nat.lt_of_lt_of_le Fq328.lt htq332)
          refine Rn.astore (pc' := 98) (Ls' := #[.val (.int a), .val (.int b), .val (.int c), .val (.int d), .val (.int m), .val (.int a2), .val (.int b2), .val (.int ((XT.ushr m (2 : Int32)) &&& (3 : Int32))), .val (.ref aq1), .val (.ref sq329), .unset]) at_96 rfl rfl rfl ?_
          refine Rn.aload (pc' := 100) at_98 rfl rfl rfl ?_
          refine Rn.aload (pc' := 102) at_100 rfl rfl rfl ?_
          have Fq352 := Tq42.1.keep Kq336
          refine Rn.callV (pc' := 105) (argsL := [.ref sq329]) (a := aq1) (rest := []) (ct_pei Z a0 hw aq1 sq329 hq335 Gq333.1) Fq352 (hw _ (List.mem_of_getElem? (i := 58) rfl)) (hw _ (List.mem_of_getElem? (i := 59) rfl)) (fun _ hZ => notFace_of_selects (args := #[]) (mvT hZ (hw _ (List.mem_of_getElem? (i := 61) rfl)))) (hw _ (List.mem_of_getElem? (i := 61) rfl)) (hw _ (List.mem_of_getElem? (i := 60) rfl)) (hw _ (List.mem_of_getElem? (i := 2) rfl)) (hw _ (List.mem_of_getElem? (i := 62) rfl)) (by decide) rfl rfl (lenOf pd_13 rfl) rfl at_102 rfl (Nat.le_of_ble_eq_true rfl) (Nat.le_of_ble_eq_true rfl) (Nat.le_of_ble_eq_true rfl) (Nat.le_of_ble_eq_true rfl) (fun _ z => nomatch z) (fun _ z => nomatch z) (fun vq348 hq349 Kq350 qq351 => ?_)
          obtain ⟨rfl, rfl⟩ := qq351
          simp only [Option.toList, List.cons_append, List.nil_append]
          refine Rn.if_ne (pc' := 112) (pn := 108) at_105 (by decide) (by decide) rfl (fun cq353 => absurd cq353 (by decide)) (fun cq353 => ?_)
          refine Rn.iconst (pc' := 109) (v := (1 : Int32)) at_108 rfl rfl ?_
          refine Rn.goto (pc' := 113) at_109 (by decide) (by decide) ?_
          refine Rn.retN (t := .boolean) rfl (by simp) at_113 (Nat.le_of_ble_eq_true rfl) (Nat.le_of_ble_eq_true rfl) ?_
          rfl
      ·
        refine Rn.aload (pc' := 73) at_71 rfl rfl rfl ?_
        refine Rn.aconst_null (pc' := 74) at_73 rfl ?_
        refine Rn.callV (pc' := 77) (argsL := [.null]) (a := aq1) (rest := []) (ct_pen Z a0 hw aq1 hq49) Tq42.1 (hw _ (List.mem_of_getElem? (i := 58) rfl)) (hw _ (List.mem_of_getElem? (i := 59) rfl)) (fun _ hZ => notFace_of_selects (args := #[]) (mvT hZ (hw _ (List.mem_of_getElem? (i := 61) rfl)))) (hw _ (List.mem_of_getElem? (i := 61) rfl)) (hw _ (List.mem_of_getElem? (i := 60) rfl)) (hw _ (List.mem_of_getElem? (i := 2) rfl)) (hw _ (List.mem_of_getElem? (i := 62) rfl)) (by decide) rfl rfl (lenOf pd_13 rfl) rfl at_74 rfl (Nat.le_of_ble_eq_true rfl) (Nat.le_of_ble_eq_true rfl) (Nat.le_of_ble_eq_true rfl) (Nat.le_of_ble_eq_true rfl) (fun _ z => nomatch z) (fun _ z => nomatch z) (fun vq354 hq355 Kq356 qq357 => ?_)
        obtain ⟨rfl, rfl⟩ := qq357
        simp only [Option.toList, List.cons_append, List.nil_append]
        refine Rn.if_ne (pc' := 84) (pn := 80) at_77 (by decide) (by decide) rfl (fun cq358 => absurd cq358 (by decide)) (fun cq358 => ?_)
        refine Rn.iconst (pc' := 81) (v := (1 : Int32)) at_80 rfl rfl ?_
        refine Rn.goto (pc' := 85) at_81 (by decide) (by decide) ?_
        refine Rn.retN (t := .boolean) rfl (by simp) at_85 (Nat.le_of_ble_eq_true rfl) (Nat.le_of_ble_eq_true rfl) ?_
        rfl
    refine Rn.iload (pc' := 16) at_14 rfl rfl ?_
    refine Rn.iconst (pc' := 17) (v := (2 : Int32)) at_16 rfl rfl ?_
    refine Rn.iand (pc' := 18) (v := (m &&& (2 : Int32))) at_17 rfl rfl ?_
    refine Rn.if_eq (pc' := 25) (pn := 21) at_18 (by decide) (by decide) rfl (fun cq359 => ?_) (fun cq359 => ?_)
    ·
      refine Rn.iloadN (pc' := 26) at_25 rfl rfl ?_
      exact J_b2 _
    ·
      refine Rn.iloadN (pc' := 22) at_21 rfl rfl ?_
      refine Rn.goto (pc' := 26) at_22 (by decide) (by decide) ?_
      exact J_b2 _
  refine Rn.iload (pc' := 2) at_0 rfl rfl ?_
  refine Rn.iconst (pc' := 3) (v := (1 : Int32)) at_2 rfl rfl ?_
  refine Rn.iand (pc' := 4) (v := (m &&& (1 : Int32))) at_3 rfl rfl ?_
  refine Rn.if_eq (pc' := 11) (pn := 7) at_4 (by decide) (by decide) rfl (fun cq360 => ?_) (fun cq360 => ?_)
  ·
    refine Rn.iloadN (pc' := 12) at_11 rfl rfl ?_
    exact J_a2 _
  ·
    refine Rn.iloadN (pc' := 8) at_7 rfl rfl ?_
    refine Rn.goto (pc' := 12) at_8 (by decide) (by decide) ?_
    exact J_a2 _
set_option maxRecDepth 65536 in
set_option maxHeartbeats 40000000 in
theorem comes_1 {Post : Tables → Env → Array Value → State → Outcome → State → Prop} (hpost : ∀ tb e args s v u, (limb_1_1.after args s (.returned v) u = true ∧ limb_1_2.after args s (.returned v) u = true ∧ True) → D.FramedW s (.returned v) u (Jvm.fieldLocs frame_1_writes args s ++ Jvm.arrayLocs frame_1_arrays args s ++ Jvm.staticLocs frame_1_statics s) 40 2240 → Post tb e args s (.returned v) u) :
    ArmFor flags0 classFile x code maxLocals ret World_1 tables_1 room_1 Calls_1 rest_1 Pre_1 Post := by
  intro l hfl _ _ p e ha hc hk s m args below hf hA hF happ hP
  obtain ⟨hcalls, hrest, hpre⟩ := hP
  obtain ⟨-, -, -, hnamed, -, -, -, hat⟩ := (Spec.applies_iff hf).mp happ
  obtain ⟨hg, hn⟩ := and_e (Cond.before_iff.mp (show (Jvm.Cond.and given_1 narrow_1).before args s = true from hpre))
  obtain ⟨hn1, hg1⟩ := and_e hg
  obtain ⟨w0, w1, w2, w3, w4, rfl⟩ : ∃ w0 w1 w2 w3 w4 : Value, args = #[w0, w1, w2, w3, w4] := by
    have hs : args.size = 5 := by simpa [Cond.value, given_1] using hn1
    obtain ⟨L⟩ := args
    match L, hs with
    | [w0, w1, w2, w3, w4], _ => exact ⟨w0, w1, w2, w3, w4, rfl⟩
  have hw := fun d (hd : d ∈ tables_1) => atoms_spec (ws := Jvm.Cond.code x code maxLocals ret :: tables_1) hat d (List.mem_cons_of_mem _ hd)
  have hfit : Fit s := fun {y c} hc i hi => by
    obtain ⟨ha, rfl⟩ := Array.getElem?_eq_some_iff.mp hc
    have q := List.all_eq_true.mp ((Array.all_eq_true_iff_forall_mem.mp hF) _ (Array.getElem_mem ha)) i (List.mem_range.mpr hi)
    simpa [Array.getElem?_eq_getElem hi] using q
  obtain ⟨ka0, kb0⟩ := and_e hg1
  obtain ⟨x0, e0⟩ := is_v ka0
  obtain rfl : w0 = (.int x0) := Option.some.inj e0
  obtain ⟨ka1, kb1⟩ := and_e kb0
  obtain ⟨x1, e1⟩ := is_v ka1
  obtain rfl : w1 = (.int x1) := Option.some.inj e1
  obtain ⟨ka2, kb2⟩ := and_e kb1
  obtain ⟨x2, e2⟩ := is_v ka2
  obtain rfl : w2 = (.int x2) := Option.some.inj e2
  obtain ⟨ka3, kb3⟩ := and_e kb2
  obtain ⟨x3, e3⟩ := is_v ka3
  obtain rfl : w3 = (.int x3) := Option.some.inj e3
  obtain ⟨x4, e4⟩ := is_v kb3
  obtain rfl : w4 = (.int x4) := Option.some.inj e4
  obtain ⟨hsets, -⟩ := atoms_of _ (rest_1_c_eq ▸ (show rest_1_c.before _ s = true from hrest))
  have n3 := not_v (Cond.before_iff.mp (hsets _ (List.mem_of_getElem? (i := 2) rfl)))
  obtain ⟨z, ez⟩ := is_v (Cond.before_iff.mp (hsets _ (List.mem_of_getElem? (i := 1) rfl)))
  have SS : Sta s s.heap "java/lang/String" "COMPACT_STRINGS" "Z" (.int z) := Sta.start ez (Or.inl (hsets _ (List.mem_of_getElem? (i := 0) rfl)))
  have hz : ¬ (z = (0 : Int32)) := gotF (Cond.eq_ints ez (Term.int_eval (0))) n3
  have hE : EW s #[] [] := EW.nil
  have M := metW_of (ws := []) (os := []) (wsT := tables_1) (as := #[(.int x0), (.int x1), (.int x2), (.int x3), (.int x4)]) (Ls := #[.val (.int x0), .val (.int x1), .val (.int x2), .val (.int x3), .val (.int x4), .unset, .unset, .unset, .unset, .unset, .unset]) (d := "(IIIII)Z") pn_3 (by intro m; first | (simp [entryFrame, mkF, argsToLocals, Value.category, maxLocals]; done) | rfl) ⟨Nat.le_refl _, fun _ _ q => q⟩ (fun _ z => nomatch z) ⟨_, hE⟩ l (own_law s _ hw hE x0 x1 x2 x3 x4 z hz SS)
  obtain ⟨n, o, h1, h2, h3, v, L, rfl, ⟨N, -, rfl⟩, -, hq⟩ := M p e ha hc hk s m _ below hf ((Spec.applies_iff_loose hf).mp happ).1 ⟨rfl, State.Warmed39.refl s, rfl, (fun _ z => nomatch z), fun _ z => nomatch z⟩ trivial
  refine ⟨n, _, h1, h2, h3, hpost _ _ _ _ _ _ ⟨Cond.after_iff.mpr rfl, Cond.after_iff.mpr (eq_i res_at (Term.int_eval (1)) rfl), trivial⟩ ⟨hq.1, hq.2.1, hq.2.2.1, (hq.2.2.2.sift fun y hy => Or.inr (N y hy)).mono (by decide) (by decide)⟩⟩
theorem main_1_1 : Claimed_1_1 := comes_1 fun _ _ _ _ _ _ h hF => ⟨h.1, hF⟩
theorem main_1_2 : Claimed_1_2 := comes_1 fun _ _ _ _ _ _ h hF => ⟨h.2.1, hF⟩
end Jvm.Pilot.@@N@@
namespace Jvm.Pilot.@@N@@
open Jvm Jvm.ClassFile Sem Op Lib Jvm.Free Jvm.Stand Jvm.Pilot.@@N@@.Jvm.D
/-! MADE BY PROGRAM (witnessworld.py) out of the Statement's table words and the real class files: 22 classes; the members and pool entries that the words name. The judged class is class 1, her method 3. -/
namespace start1
open Jvm.ClassFile
def u (s : String) : CpInfo := .utf8 (stringToUtf16 s)
/-- a pool by its gaps: so many unusable entries, then the entry; so many at the end -/
def gap : Nat → List CpInfo → List CpInfo
  | 0, r => r
  | n + 1, r => .unusable :: gap n r
def poolList (es : List (Nat × CpInfo)) (last : Nat) : List CpInfo := es.foldr (fun e r => gap e.1 (e.2 :: r)) (gap last [])
def pool (es : List (Nat × CpInfo)) (last : Nat) : Array CpInfo := ⟨poolList es last⟩
def fileOf (pool : Array CpInfo) (this : Nat) (attrs : Array Attribute := #[]) (ms : Array MethodInfo := #[]) (fl : Nat := 33) (sup : Nat := 0) (ifs : Array Nat := #[]) (fds : Array FieldInfo := #[]) : ClassFile where
  minorVersion := 0
  majorVersion := 65
  constantPool := pool
  accessFlags := fl
  thisClass := this
  superClass := sup
  interfaces := ifs
  fields := fds
  methods := ms
  attributes := attrs
def plain (name : String) (sup : Option ClassId) : Class where
  name := name
  kind := .ordinary
  loader := none
  accessFlags := 33
  super := sup
  interfaces := #[]
  cf := none
  fields := #[]
  methods := #[]
  instanceTypes := #[]
  staticTypes := #[]
  resolved := #[]
  callSites := []
  init := .initialized
  statics := none
  mirror := none

def pool0 : Array CpInfo := pool [(5, u "<init>"), (0, u "()V"), (1, .class_ 10), (1, u "java/lang/Object")] 113

def k0c0 : Code := { maxStack := 0, maxLocals := 1, code := object_method_1_code, exceptionTable := #[], attributes := #[] }
def k0m0 : Method := { name := "<init>", desc := "()V", sig := { parameters := [], returnType := none }, accessFlags := 1, code := some k0c0 }
/-- java/lang/Object -/
def k0 : Class := { plain "java/lang/Object" none with
  accessFlags := 33
  interfaces := #[]
  cf := some (fileOf pool0 8 #[] #[{ accessFlags := 1, nameIndex := 5, descriptorIndex := 6, attributes := #[] }] 33 0 #[] #[])
  fields := #[]
  methods := #[k0m0]
  instanceTypes := #[]
  staticTypes := #[]
  resolved := Array.replicate 124 none
  statics := none }

def pool1 : Array CpInfo := pool [(2, .class_ 4), (1, u "java/lang/Object"), (0, u "<init>"), (0, u "()V"), (0, .methodref 8 9), (0, .class_ 10), (0, .nameAndType 11 12), (0, u "java/lang/String"), (0, u "valueOf"), (0, u "(C)Ljava/lang/String;"), (0, .methodref 8 14), (0, .nameAndType 5 15), (0, u "([C)V"), (0, .class_ 17), (0, u "com/example/local_quorum/localquorum/Permission"), (0, .methodref 19 20), (0, .class_ 21), (0, .nameAndType 22 23), (0, u "com/example/local_quorum/localquorum/PermissionEqualsPinLaw"), (0, u "str"), (0, u "(I)Ljava/lang/String;"), (0, .methodref 16 25), (0, .nameAndType 5 26), (0, u "(Ljava/lang/String;Ljava/lang/String;)V"), (0, .methodref 16 28), (0, .nameAndType 29 30), (0, u "equals"), (0, u "(Ljava/lang/Object;)Z"), (0, .methodref 19 32), (0, .nameAndType 33 34), (0, u "same"), (0, u "(II)Z"), (3, u "law"), (0, u "(IIIII)Z")] 2

def k1m0 : Method := { name := "<init>", desc := "()V", sig := { parameters := [], returnType := none }, accessFlags := 2, code := none }
def k1c1 : Code := { maxStack := 6, maxLocals := 3, code := method_2_code, exceptionTable := #[], attributes := #[] }
def k1m1 : Method := { name := "str", desc := "(I)Ljava/lang/String;", sig := { parameters := [.int], returnType := some (.object "java/lang/String") }, accessFlags := 10, code := some k1c1 }
def k1c2 : Code := { maxStack := 3, maxLocals := 4, code := method_3_code, exceptionTable := #[], attributes := #[] }
def k1m2 : Method := { name := "same", desc := "(II)Z", sig := { parameters := [.int, .int], returnType := some .boolean }, accessFlags := 10, code := some k1c2 }
def k1c3 : Code := { maxStack := 4, maxLocals := 11, code := code, exceptionTable := #[], attributes := #[] }
def k1m3 : Method := { name := "law", desc := "(IIIII)Z", sig := { parameters := [.int, .int, .int, .int, .int], returnType := some .boolean }, accessFlags := 9, code := some k1c3 }
/-- com/example/local_quorum/localquorum/PermissionEqualsPinLaw -/
def k1 : Class := { plain "com/example/local_quorum/localquorum/PermissionEqualsPinLaw" (some 0) with
  accessFlags := 49
  interfaces := #[]
  cf := some (fileOf pool1 19 #[] #[{ accessFlags := 2, nameIndex := 5, descriptorIndex := 6, attributes := #[] }, { accessFlags := 10, nameIndex := 22, descriptorIndex := 23, attributes := #[] }, { accessFlags := 10, nameIndex := 33, descriptorIndex := 34, attributes := #[] }, { accessFlags := 9, nameIndex := 38, descriptorIndex := 39, attributes := #[] }] 49 2 #[] #[])
  fields := #[]
  methods := #[k1m0, k1m1, k1m2, k1m3]
  instanceTypes := #[]
  staticTypes := #[]
  resolved := Array.replicate 42 none
  statics := none }

def pool2 : Array CpInfo := pool [(1, .methodref 2 3), (0, .class_ 4), (0, .nameAndType 5 6), (0, u "java/lang/Object"), (0, u "<init>"), (0, u "()V"), (0, .string 8), (0, u "action"), (0, .methodref 10 11), (0, .class_ 12), (0, .nameAndType 13 14), (0, u "com/example/local_quorum/localquorum/Names"), (0, u "require"), (0, u "(Ljava/lang/String;Ljava/lang/String;)Ljava/lang/String;"), (0, .fieldref 16 17), (0, .class_ 18), (0, .nameAndType 8 19), (0, u "com/example/local_quorum/localquorum/Permission"), (0, u "Ljava/lang/String;"), (0, .string 21), (0, u "object"), (0, .fieldref 16 23), (0, .nameAndType 21 19), (0, .methodref 25 26), (0, .class_ 27), (0, .nameAndType 28 29), (0, u "java/lang/String"), (0, u "equals"), (0, u "(Ljava/lang/Object;)Z"), (9, u "(Ljava/lang/String;Ljava/lang/String;)V")] 24

def k2c0 : Code := { maxStack := 3, maxLocals := 3, code := prog_20_method_1_code, exceptionTable := #[], attributes := #[] }
def k2m0 : Method := { name := "<init>", desc := "(Ljava/lang/String;Ljava/lang/String;)V", sig := { parameters := [(.object "java/lang/String"), (.object "java/lang/String")], returnType := none }, accessFlags := 1, code := some k2c0 }
def k2c1 : Code := { maxStack := 2, maxLocals := 2, code := prog_20_method_4_code, exceptionTable := #[], attributes := #[] }
def k2m1 : Method := { name := "equals", desc := "(Ljava/lang/Object;)Z", sig := { parameters := [(.object "java/lang/Object")], returnType := some .boolean }, accessFlags := 1, code := some k2c1 }
/-- com/example/local_quorum/localquorum/Permission -/
def k2 : Class := { plain "com/example/local_quorum/localquorum/Permission" (some 0) with
  accessFlags := 49
  interfaces := #[]
  cf := some (fileOf pool2 16 #[] #[{ accessFlags := 1, nameIndex := 5, descriptorIndex := 39, attributes := #[] }, { accessFlags := 1, nameIndex := 28, descriptorIndex := 29, attributes := #[] }] 49 2 #[] #[{ accessFlags := 18, nameIndex := 8, descriptorIndex := 19, attributes := #[] }, { accessFlags := 18, nameIndex := 21, descriptorIndex := 19, attributes := #[] }])
  fields := #[{ name := "action", type := (.object "java/lang/String"), accessFlags := 18, slot := 0, constantValue := 0 }, { name := "object", type := (.object "java/lang/String"), accessFlags := 18, slot := 1, constantValue := 0 }]
  methods := #[k2m0, k2m1]
  instanceTypes := #[(.object "java/lang/String"), (.object "java/lang/String")]
  staticTypes := #[]
  resolved := Array.replicate 64 none
  statics := none }

def pool3 : Array CpInfo := pool [(1, .class_ 2), (0, u "java/io/Serializable"), (0, .class_ 4), (0, u "java/lang/Object")] 2

/-- java/io/Serializable -/
def k3 : Class := { plain "java/io/Serializable" (some 0) with
  accessFlags := 1537
  interfaces := #[]
  cf := some (fileOf pool3 1 #[] #[] 1537 3 #[] #[])
  fields := #[]
  methods := #[]
  instanceTypes := #[]
  staticTypes := #[]
  resolved := Array.replicate 7 none
  statics := none }

def pool4 : Array CpInfo := pool [(1, .class_ 2), (0, u "java/lang/Comparable"), (0, .class_ 4), (0, u "java/lang/Object")] 7

/-- java/lang/Comparable -/
def k4 : Class := { plain "java/lang/Comparable" (some 0) with
  accessFlags := 1537
  interfaces := #[]
  cf := some (fileOf pool4 1 #[] #[] 1537 3 #[] #[])
  fields := #[]
  methods := #[]
  instanceTypes := #[]
  staticTypes := #[]
  resolved := Array.replicate 12 none
  statics := none }

def pool5 : Array CpInfo := pool [(2, .class_ 4), (1, u "java/lang/CharSequence"), (42, .class_ 48), (0, u "java/lang/CharSequence$1CodePointIterator"), (10, .class_ 60), (0, u "java/lang/CharSequence$1CharIterator"), (5, .class_ 67), (0, u "java/lang/Object")] 63

/-- java/lang/CharSequence -/
def k5 : Class := { plain "java/lang/CharSequence" (some 0) with
  accessFlags := 1537
  interfaces := #[]
  cf := some (fileOf pool5 2 #[.nestMembers #[47, 59]] #[] 1537 66 #[] #[])
  fields := #[]
  methods := #[]
  instanceTypes := #[]
  staticTypes := #[]
  resolved := Array.replicate 131 none
  statics := none }

def pool6 : Array CpInfo := pool [(1, .class_ 2), (0, u "java/lang/constant/Constable"), (0, .class_ 4), (0, u "java/lang/Object")] 6

/-- java/lang/constant/Constable -/
def k6 : Class := { plain "java/lang/constant/Constable" (some 0) with
  accessFlags := 1537
  interfaces := #[]
  cf := some (fileOf pool6 1 #[] #[] 1537 3 #[] #[])
  fields := #[]
  methods := #[]
  instanceTypes := #[]
  staticTypes := #[]
  resolved := Array.replicate 11 none
  statics := none }

def pool7 : Array CpInfo := pool [(1, .class_ 2), (0, u "java/lang/constant/ConstantDesc"), (0, .class_ 4), (0, u "java/lang/Object")] 32

/-- java/lang/constant/ConstantDesc -/
def k7 : Class := { plain "java/lang/constant/ConstantDesc" (some 0) with
  accessFlags := 1537
  interfaces := #[]
  cf := some (fileOf pool7 1 #[] #[] 1537 3 #[] #[])
  fields := #[]
  methods := #[]
  instanceTypes := #[]
  staticTypes := #[]
  resolved := Array.replicate 37 none
  statics := none }

def pool8 : Array CpInfo := pool [(1, .methodref 2 3), (0, .class_ 4), (0, .nameAndType 5 6), (0, u "java/lang/Object"), (0, u "<init>"), (0, u "()V"), (2, .fieldref 10 11), (0, .class_ 12), (0, .nameAndType 13 14), (0, u "java/lang/String"), (0, u "value"), (0, u "[B"), (0, .fieldref 10 16), (0, .nameAndType 17 18), (0, u "coder"), (0, u "B"), (2, u "hash"), (0, u "I"), (2, u "hashIsZero"), (0, u "Z"), (0, .methodref 10 28), (0, .nameAndType 5 29), (0, u "([CIILjava/lang/Void;)V"), (8, .fieldref 10 39), (0, .nameAndType 40 26), (0, u "COMPACT_STRINGS"), (1, .class_ 44), (1, u "java/lang/StringUTF16"), (0, u "compress"), (1, .methodref 42 48), (0, .nameAndType 49 50), (0, u "coderFromArrayLen"), (0, u "([BI)B"), (2, u "toBytes"), (53, .class_ 109), (1, u "java/lang/StringLatin1"), (32, u "()Z"), (34, .methodref 42 178), (0, .nameAndType 45 179), (0, u "([CII)[B"), (29, .methodref 10 210), (0, .nameAndType 5 211), (0, u "([BB)V"), (157, u "(C)Z"), (171, .methodref 107 542), (0, .nameAndType 543 544), (0, u "equals"), (0, u "([B[B)Z"), (28, u "(Ljava/lang/Object;)Z"), (1, .class_ 576), (0, u "java/lang/CharSequence"), (22, u "CASE_INSENSITIVE_ORDER"), (0, u "Ljava/util/Comparator;"), (91, u "isEmpty"), (89, u "valueOf"), (0, u "(C)Ljava/lang/String;"), (226, u "([C)V"), (4, .methodref 107 1016), (0, .nameAndType 1017 369), (0, u "canEncode"), (0, .methodref 107 1019), (0, .nameAndType 53 1020), (0, u "(C)[B"), (80, u "serialPersistentFields"), (0, u "[Ljava/io/ObjectStreamField;"), (0, .class_ 1104), (0, u "java/lang/String$CaseInsensitiveComparator"), (1, .class_ 1107), (0, u "java/io/Serializable"), (0, .class_ 1109), (0, u "java/lang/Comparable"), (0, .class_ 1111), (0, u "java/lang/constant/Constable"), (0, .class_ 1113), (0, u "java/lang/constant/ConstantDesc"), (2, u "serialVersionUID"), (0, u "J"), (3, u "REPL"), (0, u "C"), (2, u "LATIN1"), (1, u "UTF16")] 323

def k8m0 : Method := { name := "<init>", desc := "()V", sig := { parameters := [], returnType := none }, accessFlags := 1, code := none }
def k8c1 : Code := { maxStack := 5, maxLocals := 2, code := jdk_42_method_3_code, exceptionTable := #[], attributes := #[] }
def k8m1 : Method := { name := "<init>", desc := "([C)V", sig := { parameters := [(.array .char)], returnType := none }, accessFlags := 1, code := some k8c1 }
def k8c2 : Code := { maxStack := 1, maxLocals := 1, code := jdk_42_method_55_code, exceptionTable := #[], attributes := #[] }
def k8m2 : Method := { name := "isEmpty", desc := "()Z", sig := { parameters := [], returnType := some .boolean }, accessFlags := 1, code := some k8c2 }
def k8c3 : Code := { maxStack := 2, maxLocals := 3, code := jdk_42_method_66_code, exceptionTable := #[], attributes := #[] }
def k8m3 : Method := { name := "equals", desc := "(Ljava/lang/Object;)Z", sig := { parameters := [(.object "java/lang/Object")], returnType := some .boolean }, accessFlags := 1, code := some k8c3 }
def k8c4 : Code := { maxStack := 4, maxLocals := 1, code := jdk_42_method_139_code, exceptionTable := #[], attributes := #[] }
def k8m4 : Method := { name := "valueOf", desc := "(C)Ljava/lang/String;", sig := { parameters := [.char], returnType := some (.object "java/lang/String") }, accessFlags := 9, code := some k8c4 }
def k8c5 : Code := { maxStack := 4, maxLocals := 6, code := jdk_42_method_149_code, exceptionTable := #[], attributes := #[] }
def k8m5 : Method := { name := "<init>", desc := "([CIILjava/lang/Void;)V", sig := { parameters := [(.array .char), .int, .int, (.object "java/lang/Void")], returnType := none }, accessFlags := 2, code := some k8c5 }
def k8c6 : Code := { maxStack := 2, maxLocals := 3, code := jdk_42_method_151_code, exceptionTable := #[], attributes := #[] }
def k8m6 : Method := { name := "<init>", desc := "([BB)V", sig := { parameters := [(.array .byte), .byte], returnType := none }, accessFlags := 0, code := some k8c6 }
/-- java/lang/String -/
def k8 : Class := { plain "java/lang/String" (some 0) with
  accessFlags := 49
  interfaces := #[3, 4, 5, 6, 7]
  cf := some (fileOf pool8 10 #[.nestMembers #[1103]] #[{ accessFlags := 1, nameIndex := 5, descriptorIndex := 6, attributes := #[] }, { accessFlags := 1, nameIndex := 5, descriptorIndex := 1010, attributes := #[] }, { accessFlags := 1, nameIndex := 692, descriptorIndex := 142, attributes := #[] }, { accessFlags := 1, nameIndex := 543, descriptorIndex := 573, attributes := #[] }, { accessFlags := 9, nameIndex := 782, descriptorIndex := 783, attributes := #[] }, { accessFlags := 2, nameIndex := 5, descriptorIndex := 29, attributes := #[] }, { accessFlags := 0, nameIndex := 5, descriptorIndex := 211, attributes := #[] }] 49 2 #[1106, 1108, 575, 1110, 1112] #[{ accessFlags := 18, nameIndex := 13, descriptorIndex := 14, attributes := #[] }, { accessFlags := 18, nameIndex := 17, descriptorIndex := 18, attributes := #[] }, { accessFlags := 2, nameIndex := 21, descriptorIndex := 22, attributes := #[] }, { accessFlags := 2, nameIndex := 25, descriptorIndex := 26, attributes := #[] }, { accessFlags := 26, nameIndex := 1116, descriptorIndex := 1117, attributes := #[] }, { accessFlags := 24, nameIndex := 40, descriptorIndex := 26, attributes := #[] }, { accessFlags := 26, nameIndex := 1101, descriptorIndex := 1102, attributes := #[] }, { accessFlags := 26, nameIndex := 1121, descriptorIndex := 1122, attributes := #[] }, { accessFlags := 25, nameIndex := 599, descriptorIndex := 600, attributes := #[] }, { accessFlags := 24, nameIndex := 1125, descriptorIndex := 18, attributes := #[] }, { accessFlags := 24, nameIndex := 1127, descriptorIndex := 18, attributes := #[] }])
  fields := #[{ name := "value", type := (.array .byte), accessFlags := 18, slot := 0, constantValue := 0 }, { name := "coder", type := .byte, accessFlags := 18, slot := 1, constantValue := 0 }, { name := "hash", type := .int, accessFlags := 2, slot := 2, constantValue := 0 }, { name := "hashIsZero", type := .boolean, accessFlags := 2, slot := 3, constantValue := 0 }, { name := "serialVersionUID", type := .long, accessFlags := 26, slot := 0, constantValue := 0 }, { name := "COMPACT_STRINGS", type := .boolean, accessFlags := 24, slot := 1, constantValue := 0 }, { name := "serialPersistentFields", type := (.array (.object "java/io/ObjectStreamField")), accessFlags := 26, slot := 2, constantValue := 0 }, { name := "REPL", type := .char, accessFlags := 26, slot := 3, constantValue := 0 }, { name := "CASE_INSENSITIVE_ORDER", type := (.object "java/util/Comparator"), accessFlags := 25, slot := 4, constantValue := 0 }, { name := "LATIN1", type := .byte, accessFlags := 24, slot := 5, constantValue := 0 }, { name := "UTF16", type := .byte, accessFlags := 24, slot := 6, constantValue := 0 }]
  methods := #[k8m0, k8m1, k8m2, k8m3, k8m4, k8m5, k8m6]
  instanceTypes := #[(.array .byte), .byte, .int, .boolean]
  staticTypes := #[.long, .boolean, (.array (.object "java/io/ObjectStreamField")), .char, (.object "java/util/Comparator"), .byte, .byte]
  resolved := Array.replicate 1451 none
  statics := some 0 }

def pool9 : Array CpInfo := pool [(4, .class_ 6), (1, u "java/lang/Object"), (0, u "<init>"), (0, u "()V"), (5, .class_ 16), (1, u "java/lang/StringLatin1"), (73, u "canEncode"), (14, u "(C)Z"), (15, u "$assertionsDisabled"), (0, u "Z"), (98, .class_ 223), (1, u "java/lang/StringLatin1$LinesSpliterator"), (57, u "equals"), (0, u "([B[B)Z"), (97, u "toBytes"), (1, u "(C)[B"), (7, .class_ 391), (0, u "java/lang/StringLatin1$CharsSpliterator")] 3

def k9m0 : Method := { name := "<init>", desc := "()V", sig := { parameters := [], returnType := none }, accessFlags := 0, code := none }
def k9c1 : Code := { maxStack := 2, maxLocals := 1, code := jdk_43_method_3_code, exceptionTable := #[], attributes := #[] }
def k9m1 : Method := { name := "canEncode", desc := "(C)Z", sig := { parameters := [.char], returnType := some .boolean }, accessFlags := 9, code := some k9c1 }
def k9c2 : Code := { maxStack := 3, maxLocals := 3, code := jdk_43_method_13_code, exceptionTable := #[], attributes := #[] }
def k9m2 : Method := { name := "equals", desc := "([B[B)Z", sig := { parameters := [(.array .byte), (.array .byte)], returnType := some .boolean }, accessFlags := 9, code := some k9c2 }
def k9c3 : Code := { maxStack := 4, maxLocals := 1, code := jdk_43_method_46_code, exceptionTable := #[], attributes := #[] }
def k9m3 : Method := { name := "toBytes", desc := "(C)[B", sig := { parameters := [.char], returnType := some (.array .byte) }, accessFlags := 9, code := some k9c3 }
/-- java/lang/StringLatin1 -/
def k9 : Class := { plain "java/lang/StringLatin1" (some 0) with
  accessFlags := 48
  interfaces := #[]
  cf := some (fileOf pool9 14 #[.nestMembers #[390, 221]] #[{ accessFlags := 0, nameIndex := 7, descriptorIndex := 8, attributes := #[] }, { accessFlags := 9, nameIndex := 90, descriptorIndex := 105, attributes := #[] }, { accessFlags := 9, nameIndex := 281, descriptorIndex := 282, attributes := #[] }, { accessFlags := 9, nameIndex := 380, descriptorIndex := 382, attributes := #[] }] 48 4 #[] #[{ accessFlags := 4120, nameIndex := 121, descriptorIndex := 122, attributes := #[] }])
  fields := #[{ name := "$assertionsDisabled", type := .boolean, accessFlags := 4120, slot := 0, constantValue := 0 }]
  methods := #[k9m0, k9m1, k9m2, k9m3]
  instanceTypes := #[]
  staticTypes := #[.boolean]
  resolved := Array.replicate 395 none
  statics := none }

def pool10 : Array CpInfo := pool [(2, .class_ 4), (1, u "java/lang/Object"), (0, u "<init>"), (0, u "()V"), (0, .methodref 8 9), (0, .class_ 10), (0, .nameAndType 11 12), (0, u "java/util/Objects"), (0, u "requireNonNull"), (0, u "(Ljava/lang/Object;Ljava/lang/String;)Ljava/lang/Object;"), (0, .methodref 14 15), (0, .class_ 16), (0, .nameAndType 17 18), (0, u "java/lang/String"), (0, u "isEmpty"), (0, u "()Z"), (9, .class_ 29), (0, u "com/example/local_quorum/localquorum/Names"), (2, u "require"), (0, u "(Ljava/lang/String;Ljava/lang/String;)Ljava/lang/String;")] 18

def k10m0 : Method := { name := "<init>", desc := "()V", sig := { parameters := [], returnType := none }, accessFlags := 2, code := none }
def k10c1 : Code := { maxStack := 3, maxLocals := 2, code := prog_17_method_2_code, exceptionTable := #[], attributes := #[] }
def k10m1 : Method := { name := "require", desc := "(Ljava/lang/String;Ljava/lang/String;)Ljava/lang/String;", sig := { parameters := [(.object "java/lang/String"), (.object "java/lang/String")], returnType := some (.object "java/lang/String") }, accessFlags := 8, code := some k10c1 }
/-- com/example/local_quorum/localquorum/Names -/
def k10 : Class := { plain "com/example/local_quorum/localquorum/Names" (some 0) with
  accessFlags := 48
  interfaces := #[]
  cf := some (fileOf pool10 28 #[] #[{ accessFlags := 2, nameIndex := 5, descriptorIndex := 6, attributes := #[] }, { accessFlags := 8, nameIndex := 32, descriptorIndex := 33, attributes := #[] }] 48 2 #[] #[])
  fields := #[]
  methods := #[k10m0, k10m1]
  instanceTypes := #[]
  staticTypes := #[]
  resolved := Array.replicate 52 none
  statics := none }

def pool11 : Array CpInfo := pool [(2, .class_ 4), (1, u "java/lang/Object"), (0, u "<init>"), (0, u "()V"), (35, .class_ 44), (1, u "java/util/Objects"), (0, u "requireNonNull"), (48, u "(Ljava/lang/Object;Ljava/lang/String;)Ljava/lang/Object;")] 89

def k11m0 : Method := { name := "<init>", desc := "()V", sig := { parameters := [], returnType := none }, accessFlags := 2, code := none }
def k11c1 : Code := { maxStack := 3, maxLocals := 2, code := jdk_31_method_11_code, exceptionTable := #[], attributes := #[] }
def k11m1 : Method := { name := "requireNonNull", desc := "(Ljava/lang/Object;Ljava/lang/String;)Ljava/lang/Object;", sig := { parameters := [(.object "java/lang/Object"), (.object "java/lang/String")], returnType := some (.object "java/lang/Object") }, accessFlags := 9, code := some k11c1 }
/-- java/util/Objects -/
def k11 : Class := { plain "java/util/Objects" (some 0) with
  accessFlags := 49
  interfaces := #[]
  cf := some (fileOf pool11 42 #[] #[{ accessFlags := 2, nameIndex := 5, descriptorIndex := 6, attributes := #[] }, { accessFlags := 9, nameIndex := 45, descriptorIndex := 94, attributes := #[] }] 49 2 #[] #[])
  fields := #[]
  methods := #[k11m0, k11m1]
  instanceTypes := #[]
  staticTypes := #[]
  resolved := Array.replicate 184 none
  statics := none }

def pool12 : Array CpInfo := pool [(6, .class_ 8), (1, u "java/lang/Object"), (0, u "<init>"), (0, u "()V"), (1, .class_ 14), (1, u "java/lang/StringUTF16"), (31, u "$assertionsDisabled"), (0, u "Z"), (13, u "HI_BYTE_SHIFT"), (0, u "I"), (2, u "LO_BYTE_SHIFT"), (49, .methodref 12 116), (0, .nameAndType 117 118), (0, u "compress"), (0, u "([CI[BII)I"), (3, u "([CII)[B"), (138, u "coderFromArrayLen"), (0, u "([BI)B"), (106, .class_ 371), (1, u "java/lang/StringUTF16$LinesSpliterator"), (58, u "MAX_LENGTH"), (196, .class_ 628), (0, u "java/lang/StringUTF16$CodePointsSpliterator"), (0, .class_ 630), (0, u "java/lang/StringUTF16$CharsSpliterator")] 4

def k12m0 : Method := { name := "<init>", desc := "()V", sig := { parameters := [], returnType := none }, accessFlags := 0, code := none }
def k12c1 : Code := { maxStack := 2, maxLocals := 2, code := jdk_52_method_15_code, exceptionTable := #[], attributes := #[] }
def k12m1 : Method := { name := "coderFromArrayLen", desc := "([BI)B", sig := { parameters := [(.array .byte), .int], returnType := some .byte }, accessFlags := 8, code := some k12c1 }
def k12c2 : Code := { maxStack := 5, maxLocals := 6, code := jdk_52_method_16_code, exceptionTable := #[], attributes := #[] }
def k12m2 : Method := { name := "compress", desc := "([CII)[B", sig := { parameters := [(.array .char), .int, .int], returnType := some (.array .byte) }, accessFlags := 9, code := some k12c2 }
def k12c3 : Code := { maxStack := 3, maxLocals := 7, code := jdk_52_method_21_code, exceptionTable := #[], attributes := #[] }
def k12m3 : Method := { name := "compress", desc := "([CI[BII)I", sig := { parameters := [(.array .char), .int, (.array .byte), .int, .int], returnType := some .int }, accessFlags := 9, code := some k12c3 }
/-- java/lang/StringUTF16 -/
def k12 : Class := { plain "java/lang/StringUTF16" (some 0) with
  accessFlags := 48
  interfaces := #[]
  cf := some (fileOf pool12 12 #[.nestMembers #[627, 629, 369]] #[{ accessFlags := 0, nameIndex := 9, descriptorIndex := 10, attributes := #[] }, { accessFlags := 8, nameIndex := 261, descriptorIndex := 262, attributes := #[] }, { accessFlags := 9, nameIndex := 117, descriptorIndex := 122, attributes := #[] }, { accessFlags := 9, nameIndex := 117, descriptorIndex := 118, attributes := #[] }] 48 6 #[] #[{ accessFlags := 26, nameIndex := 61, descriptorIndex := 62, attributes := #[] }, { accessFlags := 26, nameIndex := 65, descriptorIndex := 62, attributes := #[] }, { accessFlags := 24, nameIndex := 430, descriptorIndex := 62, attributes := #[] }, { accessFlags := 4120, nameIndex := 46, descriptorIndex := 47, attributes := #[] }])
  fields := #[{ name := "HI_BYTE_SHIFT", type := .int, accessFlags := 26, slot := 0, constantValue := 0 }, { name := "LO_BYTE_SHIFT", type := .int, accessFlags := 26, slot := 1, constantValue := 0 }, { name := "MAX_LENGTH", type := .int, accessFlags := 24, slot := 2, constantValue := 0 }, { name := "$assertionsDisabled", type := .boolean, accessFlags := 4120, slot := 3, constantValue := 0 }]
  methods := #[k12m0, k12m1, k12m2, k12m3]
  instanceTypes := #[]
  staticTypes := #[.int, .int, .int, .boolean]
  resolved := Array.replicate 635 none
  statics := none }

def pool13 : Array CpInfo := pool [(2, .class_ 4), (1, u "java/lang/Object"), (0, u "<init>"), (0, u "()V"), (17, .class_ 26), (1, u "jdk/internal/util/Preconditions"), (28, .class_ 56), (0, u "jdk/internal/util/Preconditions$4"), (57, .class_ 115), (0, u "jdk/internal/util/Preconditions$1"), (7, u "SIOOBE_FORMATTER"), (0, u "Ljava/util/function/BiFunction;"), (0, .class_ 126), (0, u "jdk/internal/util/Preconditions$2"), (3, u "AIOOBE_FORMATTER"), (0, .class_ 132), (0, u "jdk/internal/util/Preconditions$3"), (3, u "IOOBE_FORMATTER")] 57

def k13m0 : Method := { name := "<init>", desc := "()V", sig := { parameters := [], returnType := none }, accessFlags := 1, code := none }
/-- jdk/internal/util/Preconditions -/
def k13 : Class := { plain "jdk/internal/util/Preconditions" (some 0) with
  accessFlags := 33
  interfaces := #[]
  cf := some (fileOf pool13 24 #[.nestMembers #[55, 131, 125, 114]] #[{ accessFlags := 1, nameIndex := 5, descriptorIndex := 6, attributes := #[] }] 33 2 #[] #[{ accessFlags := 25, nameIndex := 123, descriptorIndex := 124, attributes := #[] }, { accessFlags := 25, nameIndex := 130, descriptorIndex := 124, attributes := #[] }, { accessFlags := 25, nameIndex := 136, descriptorIndex := 124, attributes := #[] }])
  fields := #[{ name := "SIOOBE_FORMATTER", type := (.object "java/util/function/BiFunction"), accessFlags := 25, slot := 0, constantValue := 0 }, { name := "AIOOBE_FORMATTER", type := (.object "java/util/function/BiFunction"), accessFlags := 25, slot := 1, constantValue := 0 }, { name := "IOOBE_FORMATTER", type := (.object "java/util/function/BiFunction"), accessFlags := 25, slot := 2, constantValue := 0 }]
  methods := #[k13m0]
  instanceTypes := #[]
  staticTypes := #[(.object "java/util/function/BiFunction"), (.object "java/util/function/BiFunction"), (.object "java/util/function/BiFunction")]
  resolved := Array.replicate 194 none
  statics := some 1 }

def pool14 : Array CpInfo := pool [(9, u "<init>"), (6, .class_ 18), (1, u "java/lang/Object"), (0, u "()V"), (1, .class_ 23), (1, u "jdk/internal/util/ArraysSupport"), (0, u "LOG2_ARRAY_LONG_INDEX_SCALE"), (0, u "I"), (2, u "U"), (0, u "Ljdk/internal/misc/Unsafe;"), (8, u "BIG_ENDIAN"), (0, u "Z"), (8, u "LOG2_BYTE_BIT_SIZE"), (4, u "LOG2_ARRAY_INT_INDEX_SCALE"), (54, u "JLA"), (0, u "Ljdk/internal/access/JavaLangAccess;"), (11, u "LOG2_ARRAY_BOOLEAN_INDEX_SCALE"), (9, u "LOG2_ARRAY_BYTE_INDEX_SCALE"), (5, u "LOG2_ARRAY_CHAR_INDEX_SCALE"), (5, u "LOG2_ARRAY_SHORT_INDEX_SCALE"), (18, u "LOG2_ARRAY_FLOAT_INDEX_SCALE"), (24, u "LOG2_ARRAY_DOUBLE_INDEX_SCALE"), (89, u "T_BOOLEAN"), (2, u "T_CHAR"), (1, u "T_FLOAT"), (1, u "T_DOUBLE"), (1, u "T_BYTE"), (1, u "T_SHORT"), (1, u "T_INT"), (1, u "T_LONG"), (1, u "SOFT_MAX_ARRAY_LENGTH")] 83

def k14m0 : Method := { name := "<init>", desc := "()V", sig := { parameters := [], returnType := none }, accessFlags := 2, code := none }
/-- jdk/internal/util/ArraysSupport -/
def k14 : Class := { plain "jdk/internal/util/ArraysSupport" (some 0) with
  accessFlags := 33
  interfaces := #[]
  cf := some (fileOf pool14 21 #[] #[{ accessFlags := 2, nameIndex := 9, descriptorIndex := 19, attributes := #[] }] 33 16 #[] #[{ accessFlags := 24, nameIndex := 28, descriptorIndex := 29, attributes := #[] }, { accessFlags := 26, nameIndex := 38, descriptorIndex := 39, attributes := #[] }, { accessFlags := 25, nameIndex := 121, descriptorIndex := 25, attributes := #[] }, { accessFlags := 25, nameIndex := 131, descriptorIndex := 25, attributes := #[] }, { accessFlags := 25, nameIndex := 137, descriptorIndex := 25, attributes := #[] }, { accessFlags := 25, nameIndex := 143, descriptorIndex := 25, attributes := #[] }, { accessFlags := 25, nameIndex := 53, descriptorIndex := 25, attributes := #[] }, { accessFlags := 25, nameIndex := 24, descriptorIndex := 25, attributes := #[] }, { accessFlags := 25, nameIndex := 162, descriptorIndex := 25, attributes := #[] }, { accessFlags := 25, nameIndex := 187, descriptorIndex := 25, attributes := #[] }, { accessFlags := 26, nameIndex := 48, descriptorIndex := 25, attributes := #[] }, { accessFlags := 25, nameIndex := 277, descriptorIndex := 25, attributes := #[] }, { accessFlags := 25, nameIndex := 280, descriptorIndex := 25, attributes := #[] }, { accessFlags := 25, nameIndex := 282, descriptorIndex := 25, attributes := #[] }, { accessFlags := 25, nameIndex := 284, descriptorIndex := 25, attributes := #[] }, { accessFlags := 25, nameIndex := 286, descriptorIndex := 25, attributes := #[] }, { accessFlags := 25, nameIndex := 288, descriptorIndex := 25, attributes := #[] }, { accessFlags := 25, nameIndex := 290, descriptorIndex := 25, attributes := #[] }, { accessFlags := 25, nameIndex := 292, descriptorIndex := 25, attributes := #[] }, { accessFlags := 26, nameIndex := 108, descriptorIndex := 109, attributes := #[] }, { accessFlags := 25, nameIndex := 294, descriptorIndex := 25, attributes := #[] }])
  fields := #[{ name := "U", type := (.object "jdk/internal/misc/Unsafe"), accessFlags := 24, slot := 0, constantValue := 0 }, { name := "BIG_ENDIAN", type := .boolean, accessFlags := 26, slot := 1, constantValue := 0 }, { name := "LOG2_ARRAY_BOOLEAN_INDEX_SCALE", type := .int, accessFlags := 25, slot := 2, constantValue := 0 }, { name := "LOG2_ARRAY_BYTE_INDEX_SCALE", type := .int, accessFlags := 25, slot := 3, constantValue := 0 }, { name := "LOG2_ARRAY_CHAR_INDEX_SCALE", type := .int, accessFlags := 25, slot := 4, constantValue := 0 }, { name := "LOG2_ARRAY_SHORT_INDEX_SCALE", type := .int, accessFlags := 25, slot := 5, constantValue := 0 }, { name := "LOG2_ARRAY_INT_INDEX_SCALE", type := .int, accessFlags := 25, slot := 6, constantValue := 0 }, { name := "LOG2_ARRAY_LONG_INDEX_SCALE", type := .int, accessFlags := 25, slot := 7, constantValue := 0 }, { name := "LOG2_ARRAY_FLOAT_INDEX_SCALE", type := .int, accessFlags := 25, slot := 8, constantValue := 0 }, { name := "LOG2_ARRAY_DOUBLE_INDEX_SCALE", type := .int, accessFlags := 25, slot := 9, constantValue := 0 }, { name := "LOG2_BYTE_BIT_SIZE", type := .int, accessFlags := 26, slot := 10, constantValue := 0 }, { name := "T_BOOLEAN", type := .int, accessFlags := 25, slot := 11, constantValue := 0 }, { name := "T_CHAR", type := .int, accessFlags := 25, slot := 12, constantValue := 0 }, { name := "T_FLOAT", type := .int, accessFlags := 25, slot := 13, constantValue := 0 }, { name := "T_DOUBLE", type := .int, accessFlags := 25, slot := 14, constantValue := 0 }, { name := "T_BYTE", type := .int, accessFlags := 25, slot := 15, constantValue := 0 }, { name := "T_SHORT", type := .int, accessFlags := 25, slot := 16, constantValue := 0 }, { name := "T_INT", type := .int, accessFlags := 25, slot := 17, constantValue := 0 }, { name := "T_LONG", type := .int, accessFlags := 25, slot := 18, constantValue := 0 }, { name := "JLA", type := (.object "jdk/internal/access/JavaLangAccess"), accessFlags := 26, slot := 19, constantValue := 0 }, { name := "SOFT_MAX_ARRAY_LENGTH", type := .int, accessFlags := 25, slot := 20, constantValue := 0 }]
  methods := #[k14m0]
  instanceTypes := #[]
  staticTypes := #[(.object "jdk/internal/misc/Unsafe"), .boolean, .int, .int, .int, .int, .int, .int, .int, .int, .int, .int, .int, .int, .int, .int, .int, .int, .int, (.object "jdk/internal/access/JavaLangAccess"), .int]
  resolved := Array.replicate 378 none
  statics := none }

def pool15 : Array CpInfo := pool [(1, u "java/lang/Cloneable"), (0, .class_ 1), (0, u "java/lang/Object"), (0, .class_ 3)] 3

/-- java/lang/Cloneable -/
def k15 : Class := { plain "java/lang/Cloneable" (some 0) with
  accessFlags := 1537
  interfaces := #[]
  cf := some (fileOf pool15 2 #[] #[] 1537 4 #[] #[])
  fields := #[]
  methods := #[]
  instanceTypes := #[]
  staticTypes := #[]
  resolved := Array.replicate 8 none
  statics := none }

/-- the primitive byte -/
def k16 : Class := { plain "byte" none with kind := .primitive 'B', accessFlags := 0x411 }
/-- [B -/
def k17 : Class := { plain "[B" (some 0) with kind := .array 16 .byte, interfaces := #[15, 3], accessFlags := 1041 }

/-- the primitive char -/
def k18 : Class := { plain "char" none with kind := .primitive 'C', accessFlags := 0x411 }
/-- [C -/
def k19 : Class := { plain "[C" (some 0) with kind := .array 18 .char, interfaces := #[15, 3], accessFlags := 1041 }

/-- the primitive int -/
def k20 : Class := { plain "int" none with kind := .primitive 'I', accessFlags := 0x411 }
/-- [I -/
def k21 : Class := { plain "[I" (some 0) with kind := .array 20 .int, interfaces := #[15, 3], accessFlags := 1041 }

def heap : Heap := #[{ cls := 8, slots := #[.long 0, .int 1, .null, .int 0, .null, .int 0, .int 0], vm := .statics 8 },
  { cls := 13, slots := #[.null, .null, .null], vm := .statics 13 }]
def classes : Array Class := #[k0, k1, k2, k3, k4, k5, k6, k7, k8, k9, k10, k11, k12, k13, k14, k15, k16, k17, k18, k19, k20, k21]
def interned : List (Array UInt16 × Addr) := []
def slotsUsed : Nat := 10
def theMethod : MethodId := ⟨1, 3⟩
def args0 : Array Value := #[.int 5, .int 3, .int 4, .int 1, .int 2]
def aboutOver (below : List Frame) : State where
  vm := { classes := classes, interned := interned.toArray }
  heap := heap
  slotsUsed := slotsUsed
  threads := #[{ frames := .invoking theMethod args0 :: below }]
def below0 : List Frame := [.native { method := ⟨0, 0⟩, args := #[] }]
def about1 : State := aboutOver below0
def p0 : Program := .bare "" "" ""
def e0 : Env := launch0.env 0 0 0
theorem w_frames : about1.frames = Frame.invoking theMethod args0 :: below0 := rfl
set_option maxRecDepth 65536 in
theorem w_args : argsFit about1.vm theMethod args0 = true := by decide +kernel
set_option maxRecDepth 65536 in
theorem w_heap : heapFits about1 = true := by decide +kernel
set_option maxRecDepth 65536 in
theorem w_runnable : about1.curStatus? = some .runnable := by decide +kernel
set_option maxRecDepth 65536 in
theorem w_alone : about1.alone = true := by decide +kernel
set_option maxRecDepth 65536 in
theorem w_named : about1.methodNamed? x = some theMethod := by decide +kernel
set_option maxRecDepth 65536 in
theorem w_hears : about1.hears theMethod below0 = true := by decide +kernel
set_option maxRecDepth 65536 in
theorem w_ripe : about1.ripe theMethod args0 below0 = true := by decide +kernel
theorem w_running : about1.status = .running := rfl
set_option maxRecDepth 65536 in
theorem w_room : about1.hasRoom e0.platform room_1 = true :=
  launch0.hasRoom_least _ room_1 (by decide +kernel) (by decide +kernel) (by decide +kernel) (by decide +kernel) (by decide +kernel) (by decide +kernel)
theorem allAtoms_all (ts : List Jvm.Cond) (a : Array Jvm.Value) (st : Jvm.State) : (allAtoms ts).before a st = ts.all (fun c => c.before a st) := by
  induction ts with
  | nil => rfl
  | cons c t ih =>
    show (Jvm.Cond.and c (allAtoms t)).before a st = _
    rw [Jvm.Cond.before_and, ih, List.all_cons]
def words1 : List Jvm.Cond := Jvm.Cond.code x code maxLocals ret :: tables_1
/-- a 'code' word, met by the world's own term for the bytes: nothing is compared byte by byte -/
theorem code_word {y : MethodName} {bytes : ByteArray} {mx : Nat} {rt : Option FieldType} {a : Array Value} {s : State} {m : MethodId} {meth : Method} {c : Code} (h1 : s.methodNamed? y = some m) (h2 : s.vm.method? m = some meth) (h3 : meth.code = some c) (h4 : c.code = bytes)
    (h5 : (c.maxLocals == mx && c.exceptionTable.isEmpty && decide (c.maxStack ≤ mostOperands) && decide (meth.sig.returnType = rt) && !meth.locks && decide (parseMethodDescriptor y.desc = some meth.sig)) = true) : (Jvm.Cond.code y bytes mx rt).before a s = true := by
  simp only [Bool.and_eq_true, beq_iff_eq, Bool.not_eq_true', decide_eq_true_eq] at h5
  obtain ⟨⟨⟨⟨⟨g1, g2⟩, g3⟩, g4⟩, g5⟩, g6⟩ := h5
  simp [Cond.before, Cond.holds, Cond.value, h1, h2, h3, h4, g1, g2, g3, g4, g5, g6]
def isCode : Jvm.Cond → Bool
  | .code _ _ _ _ => true
  | _ => false
theorem all_split {L : List Jvm.Cond} {P : Jvm.Cond → Bool} (h1 : L.all (fun c => isCode c || P c) = true) (h2 : ∀ c ∈ L.filter isCode, P c = true) : L.all P = true := by
  refine List.all_eq_true.mpr fun c hc => ?_
  have h := List.all_eq_true.mp h1 c hc
  rcases Bool.eq_false_or_eq_true (isCode c) with hi | hi
  · exact h2 c (List.mem_filter.mpr ⟨hc, hi⟩)
  · simpa [hi] using h
set_option maxRecDepth 65536 in
theorem w_c0 : (Jvm.Cond.code x code maxLocals ret).before args0 about1 = true := code_word (m := ⟨1, 3⟩) (meth := k1m3) (c := k1c3) (by decide +kernel) rfl rfl rfl (by decide +kernel)
set_option maxRecDepth 65536 in
theorem w_c1 : (Jvm.Cond.code ({ cls := "com/example/local_quorum/localquorum/PermissionEqualsPinLaw", name := "str", desc := "(I)Ljava/lang/String;" } : Jvm.MethodName) method_2_code (3 : Nat) (Option.some (Jvm.ClassFile.FieldType.object "java/lang/String"))).before args0 about1 = true := code_word (m := ⟨1, 1⟩) (meth := k1m1) (c := k1c1) (by decide +kernel) rfl rfl rfl (by decide +kernel)
set_option maxRecDepth 65536 in
theorem w_c2 : (Jvm.Cond.code ({ cls := "java/lang/String", name := "valueOf", desc := "(C)Ljava/lang/String;" } : Jvm.MethodName) jdk_42_method_139_code (1 : Nat) (Option.some (Jvm.ClassFile.FieldType.object "java/lang/String"))).before args0 about1 = true := code_word (m := ⟨8, 4⟩) (meth := k8m4) (c := k8c4) (by decide +kernel) rfl rfl rfl (by decide +kernel)
set_option maxRecDepth 65536 in
theorem w_c3 : (Jvm.Cond.code ({ cls := "java/lang/StringLatin1", name := "canEncode", desc := "(C)Z" } : Jvm.MethodName) jdk_43_method_3_code (1 : Nat) (Option.some Jvm.ClassFile.FieldType.boolean)).before args0 about1 = true := code_word (m := ⟨9, 1⟩) (meth := k9m1) (c := k9c1) (by decide +kernel) rfl rfl rfl (by decide +kernel)
set_option maxRecDepth 65536 in
theorem w_c4 : (Jvm.Cond.code ({ cls := "java/lang/StringLatin1", name := "toBytes", desc := "(C)[B" } : Jvm.MethodName) jdk_43_method_46_code (1 : Nat) (Option.some (Jvm.ClassFile.FieldType.array Jvm.ClassFile.FieldType.byte))).before args0 about1 = true := code_word (m := ⟨9, 3⟩) (meth := k9m3) (c := k9c3) (by decide +kernel) rfl rfl rfl (by decide +kernel)
set_option maxRecDepth 65536 in
theorem w_c5 : (Jvm.Cond.code ({ cls := "java/lang/String", name := "<init>", desc := "([BB)V" } : Jvm.MethodName) jdk_42_method_151_code (3 : Nat) (Option.none : Option Jvm.ClassFile.FieldType)).before args0 about1 = true := code_word (m := ⟨8, 6⟩) (meth := k8m6) (c := k8c6) (by decide +kernel) rfl rfl rfl (by decide +kernel)
set_option maxRecDepth 65536 in
theorem w_c6 : (Jvm.Cond.code ({ cls := "java/lang/Object", name := "<init>", desc := "()V" } : Jvm.MethodName) object_method_1_code (1 : Nat) (Option.none : Option Jvm.ClassFile.FieldType)).before args0 about1 = true := code_word (m := ⟨0, 0⟩) (meth := k0m0) (c := k0c0) (by decide +kernel) rfl rfl rfl (by decide +kernel)
set_option maxRecDepth 65536 in
theorem w_c7 : (Jvm.Cond.code ({ cls := "com/example/local_quorum/localquorum/Permission", name := "<init>", desc := "(Ljava/lang/String;Ljava/lang/String;)V" } : Jvm.MethodName) prog_20_method_1_code (3 : Nat) (Option.none : Option Jvm.ClassFile.FieldType)).before args0 about1 = true := code_word (m := ⟨2, 0⟩) (meth := k2m0) (c := k2c0) (by decide +kernel) rfl rfl rfl (by decide +kernel)
set_option maxRecDepth 65536 in
theorem w_c8 : (Jvm.Cond.code ({ cls := "com/example/local_quorum/localquorum/Names", name := "require", desc := "(Ljava/lang/String;Ljava/lang/String;)Ljava/lang/String;" } : Jvm.MethodName) prog_17_method_2_code (2 : Nat) (Option.some (Jvm.ClassFile.FieldType.object "java/lang/String"))).before args0 about1 = true := code_word (m := ⟨10, 1⟩) (meth := k10m1) (c := k10c1) (by decide +kernel) rfl rfl rfl (by decide +kernel)
set_option maxRecDepth 65536 in
theorem w_c9 : (Jvm.Cond.code ({ cls := "java/util/Objects", name := "requireNonNull", desc := "(Ljava/lang/Object;Ljava/lang/String;)Ljava/lang/Object;" } : Jvm.MethodName) jdk_31_method_11_code (2 : Nat) (Option.some (Jvm.ClassFile.FieldType.object "java/lang/Object"))).before args0 about1 = true := code_word (m := ⟨11, 1⟩) (meth := k11m1) (c := k11c1) (by decide +kernel) rfl rfl rfl (by decide +kernel)
set_option maxRecDepth 65536 in
theorem w_c10 : (Jvm.Cond.code ({ cls := "java/lang/String", name := "isEmpty", desc := "()Z" } : Jvm.MethodName) jdk_42_method_55_code (1 : Nat) (Option.some Jvm.ClassFile.FieldType.boolean)).before args0 about1 = true := code_word (m := ⟨8, 2⟩) (meth := k8m2) (c := k8c2) (by decide +kernel) rfl rfl rfl (by decide +kernel)
set_option maxRecDepth 65536 in
theorem w_c11 : (Jvm.Cond.code ({ cls := "com/example/local_quorum/localquorum/Permission", name := "equals", desc := "(Ljava/lang/Object;)Z" } : Jvm.MethodName) prog_20_method_4_code (2 : Nat) (Option.some Jvm.ClassFile.FieldType.boolean)).before args0 about1 = true := code_word (m := ⟨2, 1⟩) (meth := k2m1) (c := k2c1) (by decide +kernel) rfl rfl rfl (by decide +kernel)
set_option maxRecDepth 65536 in
theorem w_c12 : (Jvm.Cond.code ({ cls := "java/lang/String", name := "equals", desc := "(Ljava/lang/Object;)Z" } : Jvm.MethodName) jdk_42_method_66_code (3 : Nat) (Option.some Jvm.ClassFile.FieldType.boolean)).before args0 about1 = true := code_word (m := ⟨8, 3⟩) (meth := k8m3) (c := k8c3) (by decide +kernel) rfl rfl rfl (by decide +kernel)
set_option maxRecDepth 65536 in
theorem w_c13 : (Jvm.Cond.code ({ cls := "com/example/local_quorum/localquorum/PermissionEqualsPinLaw", name := "same", desc := "(II)Z" } : Jvm.MethodName) method_3_code (4 : Nat) (Option.some Jvm.ClassFile.FieldType.boolean)).before args0 about1 = true := code_word (m := ⟨1, 2⟩) (meth := k1m2) (c := k1c2) (by decide +kernel) rfl rfl rfl (by decide +kernel)
set_option maxRecDepth 65536 in
theorem w_c14 : (Jvm.Cond.code ({ cls := "java/lang/StringLatin1", name := "equals", desc := "([B[B)Z" } : Jvm.MethodName) jdk_43_method_13_code (3 : Nat) (Option.some Jvm.ClassFile.FieldType.boolean)).before args0 about1 = true := code_word (m := ⟨9, 2⟩) (meth := k9m2) (c := k9c2) (by decide +kernel) rfl rfl rfl (by decide +kernel)
set_option maxRecDepth 65536 in
theorem w_c15 : (Jvm.Cond.code ({ cls := "java/lang/String", name := "<init>", desc := "([C)V" } : Jvm.MethodName) jdk_42_method_3_code (2 : Nat) (Option.none : Option Jvm.ClassFile.FieldType)).before args0 about1 = true := code_word (m := ⟨8, 1⟩) (meth := k8m1) (c := k8c1) (by decide +kernel) rfl rfl rfl (by decide +kernel)
set_option maxRecDepth 65536 in
theorem w_c16 : (Jvm.Cond.code ({ cls := "java/lang/String", name := "<init>", desc := "([CIILjava/lang/Void;)V" } : Jvm.MethodName) jdk_42_method_149_code (6 : Nat) (Option.none : Option Jvm.ClassFile.FieldType)).before args0 about1 = true := code_word (m := ⟨8, 5⟩) (meth := k8m5) (c := k8c5) (by decide +kernel) rfl rfl rfl (by decide +kernel)
set_option maxRecDepth 65536 in
theorem w_c17 : (Jvm.Cond.code ({ cls := "java/lang/StringUTF16", name := "compress", desc := "([CII)[B" } : Jvm.MethodName) jdk_52_method_16_code (6 : Nat) (Option.some (Jvm.ClassFile.FieldType.array Jvm.ClassFile.FieldType.byte))).before args0 about1 = true := code_word (m := ⟨12, 2⟩) (meth := k12m2) (c := k12c2) (by decide +kernel) rfl rfl rfl (by decide +kernel)
set_option maxRecDepth 65536 in
theorem w_c18 : (Jvm.Cond.code ({ cls := "java/lang/StringUTF16", name := "compress", desc := "([CI[BII)I" } : Jvm.MethodName) jdk_52_method_21_code (7 : Nat) (Option.some Jvm.ClassFile.FieldType.int)).before args0 about1 = true := code_word (m := ⟨12, 3⟩) (meth := k12m3) (c := k12c3) (by decide +kernel) rfl rfl rfl (by decide +kernel)
set_option maxRecDepth 65536 in
theorem w_c19 : (Jvm.Cond.code ({ cls := "java/lang/StringUTF16", name := "coderFromArrayLen", desc := "([BI)B" } : Jvm.MethodName) jdk_52_method_15_code (2 : Nat) (Option.some Jvm.ClassFile.FieldType.byte)).before args0 about1 = true := code_word (m := ⟨12, 1⟩) (meth := k12m1) (c := k12c1) (by decide +kernel) rfl rfl rfl (by decide +kernel)
def codes1 : List Jvm.Cond := [Jvm.Cond.code x code maxLocals ret, Jvm.Cond.code ({ cls := "com/example/local_quorum/localquorum/PermissionEqualsPinLaw", name := "str", desc := "(I)Ljava/lang/String;" } : Jvm.MethodName) method_2_code (3 : Nat) (Option.some (Jvm.ClassFile.FieldType.object "java/lang/String")), Jvm.Cond.code ({ cls := "java/lang/String", name := "valueOf", desc := "(C)Ljava/lang/String;" } : Jvm.MethodName) jdk_42_method_139_code (1 : Nat) (Option.some (Jvm.ClassFile.FieldType.object "java/lang/String")), Jvm.Cond.code ({ cls := "java/lang/StringLatin1", name := "canEncode", desc := "(C)Z" } : Jvm.MethodName) jdk_43_method_3_code (1 : Nat) (Option.some Jvm.ClassFile.FieldType.boolean), Jvm.Cond.code ({ cls := "java/lang/StringLatin1", name := "toBytes", desc := "(C)[B" } : Jvm.MethodName) jdk_43_method_46_code (1 : Nat) (Option.some (Jvm.ClassFile.FieldType.array Jvm.ClassFile.FieldType.byte)), Jvm.Cond.code ({ cls := "java/lang/String", name := "<init>", desc := "([BB)V" } : Jvm.MethodName) jdk_42_method_151_code (3 : Nat) (Option.none : Option Jvm.ClassFile.FieldType), Jvm.Cond.code ({ cls := "java/lang/Object", name := "<init>", desc := "()V" } : Jvm.MethodName) object_method_1_code (1 : Nat) (Option.none : Option Jvm.ClassFile.FieldType), Jvm.Cond.code ({ cls := "com/example/local_quorum/localquorum/Permission", name := "<init>", desc := "(Ljava/lang/String;Ljava/lang/String;)V" } : Jvm.MethodName) prog_20_method_1_code (3 : Nat) (Option.none : Option Jvm.ClassFile.FieldType), Jvm.Cond.code ({ cls := "com/example/local_quorum/localquorum/Names", name := "require", desc := "(Ljava/lang/String;Ljava/lang/String;)Ljava/lang/String;" } : Jvm.MethodName) prog_17_method_2_code (2 : Nat) (Option.some (Jvm.ClassFile.FieldType.object "java/lang/String")), Jvm.Cond.code ({ cls := "java/util/Objects", name := "requireNonNull", desc := "(Ljava/lang/Object;Ljava/lang/String;)Ljava/lang/Object;" } : Jvm.MethodName) jdk_31_method_11_code (2 : Nat) (Option.some (Jvm.ClassFile.FieldType.object "java/lang/Object")), Jvm.Cond.code ({ cls := "java/lang/String", name := "isEmpty", desc := "()Z" } : Jvm.MethodName) jdk_42_method_55_code (1 : Nat) (Option.some Jvm.ClassFile.FieldType.boolean), Jvm.Cond.code ({ cls := "com/example/local_quorum/localquorum/Permission", name := "equals", desc := "(Ljava/lang/Object;)Z" } : Jvm.MethodName) prog_20_method_4_code (2 : Nat) (Option.some Jvm.ClassFile.FieldType.boolean), Jvm.Cond.code ({ cls := "java/lang/String", name := "equals", desc := "(Ljava/lang/Object;)Z" } : Jvm.MethodName) jdk_42_method_66_code (3 : Nat) (Option.some Jvm.ClassFile.FieldType.boolean), Jvm.Cond.code ({ cls := "com/example/local_quorum/localquorum/PermissionEqualsPinLaw", name := "same", desc := "(II)Z" } : Jvm.MethodName) method_3_code (4 : Nat) (Option.some Jvm.ClassFile.FieldType.boolean), Jvm.Cond.code ({ cls := "java/lang/StringLatin1", name := "equals", desc := "([B[B)Z" } : Jvm.MethodName) jdk_43_method_13_code (3 : Nat) (Option.some Jvm.ClassFile.FieldType.boolean), Jvm.Cond.code ({ cls := "java/lang/String", name := "<init>", desc := "([C)V" } : Jvm.MethodName) jdk_42_method_3_code (2 : Nat) (Option.none : Option Jvm.ClassFile.FieldType), Jvm.Cond.code ({ cls := "java/lang/String", name := "<init>", desc := "([CIILjava/lang/Void;)V" } : Jvm.MethodName) jdk_42_method_149_code (6 : Nat) (Option.none : Option Jvm.ClassFile.FieldType), Jvm.Cond.code ({ cls := "java/lang/StringUTF16", name := "compress", desc := "([CII)[B" } : Jvm.MethodName) jdk_52_method_16_code (6 : Nat) (Option.some (Jvm.ClassFile.FieldType.array Jvm.ClassFile.FieldType.byte)), Jvm.Cond.code ({ cls := "java/lang/StringUTF16", name := "compress", desc := "([CI[BII)I" } : Jvm.MethodName) jdk_52_method_21_code (7 : Nat) (Option.some Jvm.ClassFile.FieldType.int), Jvm.Cond.code ({ cls := "java/lang/StringUTF16", name := "coderFromArrayLen", desc := "([BI)B" } : Jvm.MethodName) jdk_52_method_15_code (2 : Nat) (Option.some Jvm.ClassFile.FieldType.byte)]
set_option maxRecDepth 65536 in
theorem codes_eq : words1.filter isCode = codes1 := rfl
theorem w_codes : ∀ c ∈ words1.filter isCode, c.before args0 about1 = true := by
  rw [codes_eq]
  intro c hc
  simp only [codes1, List.mem_cons, List.not_mem_nil, or_false] at hc
  rcases hc with rfl | rfl | rfl | rfl | rfl | rfl | rfl | rfl | rfl | rfl | rfl | rfl | rfl | rfl | rfl | rfl | rfl | rfl | rfl | rfl
  · exact w_c0
  · exact w_c1
  · exact w_c2
  · exact w_c3
  · exact w_c4
  · exact w_c5
  · exact w_c6
  · exact w_c7
  · exact w_c8
  · exact w_c9
  · exact w_c10
  · exact w_c11
  · exact w_c12
  · exact w_c13
  · exact w_c14
  · exact w_c15
  · exact w_c16
  · exact w_c17
  · exact w_c18
  · exact w_c19
set_option maxRecDepth 65536 in
theorem w_t1 : (words1.take 24).all (fun c => isCode c || c.before args0 about1) = true := by decide +kernel
set_option maxRecDepth 65536 in
theorem w_t2 : ((words1.drop 24).take 24).all (fun c => isCode c || c.before args0 about1) = true := by decide +kernel
set_option maxRecDepth 65536 in
theorem w_t3 : (((words1.drop 24).drop 24).take 24).all (fun c => isCode c || c.before args0 about1) = true := by decide +kernel
set_option maxRecDepth 65536 in
theorem w_t4 : ((((words1.drop 24).drop 24).drop 24).take 24).all (fun c => isCode c || c.before args0 about1) = true := by decide +kernel
set_option maxRecDepth 65536 in
theorem w_t5 : ((((words1.drop 24).drop 24).drop 24).drop 24).all (fun c => isCode c || c.before args0 about1) = true := by decide +kernel
theorem w_tables : (allAtoms (Jvm.Cond.code x code maxLocals ret :: tables_1)).before args0 about1 = true := by
  rw [allAtoms_all]
  show words1.all (fun c => c.before args0 about1) = true
  refine all_split ?_ w_codes
  rw [← List.take_append_drop 24 words1, List.all_append, w_t1, ← List.take_append_drop 24 (words1.drop 24), List.all_append, w_t2, ← List.take_append_drop 24 ((words1.drop 24).drop 24), List.all_append, w_t3, ← List.take_append_drop 24 (((words1.drop 24).drop 24).drop 24), List.all_append, w_t4, w_t5]
  rfl
set_option maxRecDepth 65536 in
theorem w_rest : rest_1_c.before args0 about1 = true := by decide +kernel
set_option maxRecDepth 65536 in
theorem w_case : (Jvm.Cond.and given_1 narrow_1).before args0 about1 = true := by decide +kernel
theorem w_applies : (headSpec (Jvm.Cond.code x code maxLocals ret :: tables_1) room_1).applies x e0.platform about1 = true :=
  (Spec.applies_iff w_frames).mpr ⟨w_running, w_runnable, w_alone, w_named, w_hears, w_ripe, w_room, w_tables⟩
theorem atStart : AtStart classFile x code maxLocals ret World_1 tables_1 room_1 Calls_1 rest_1 Pre_1 launch0 p0 e0 about1 theMethod args0 below0 :=
  ⟨lists_1, trivial, launch0.admits_env _ _ _, launch0.least_env, fairChoices_fair.cas, fairChoices_fair.clock, w_frames, w_args, w_heap, w_applies, trivial, w_rest, w_case⟩
end start1
theorem witness_1 : WitnessClaimed_1 := ⟨start1.p0, start1.e0, start1.about1, start1.theMethod, start1.args0, start1.below0, start1.atStart⟩
end Jvm.Pilot.@@N@@
