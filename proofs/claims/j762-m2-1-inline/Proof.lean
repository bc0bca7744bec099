import JvmDerived
import JvmDerived.Pilot.@@N@@Statement
import JvmDerived.Pilot.@@N@@Code
set_option linter.unusedVariables false
set_option linter.unusedSimpArgs false
@@BLOCK:TracedD.lean.txt@@
namespace Jvm.Own
open Jvm Jvm.ClassFile Sem Op Lib Jvm.Free Jvm.Stand Jvm.LawKit Jvm.RoadKit Bundle
/-! A layer of weakest premises over the library's Stand family: a goal says 'from here the body ends as Q says'; one rule an instruction. -/
abbrev Inf : Type := MethodName × ByteArray × Nat × Option FieldType × Room × List (String × Nat) × List (String × Nat)
theorem nilmem {α : Type} {P : α → Prop} : ∀ x ∈ ([] : List α), P x := fun _ q => nomatch q
abbrev Inf.y (I : Inf) : MethodName := I.1
abbrev Inf.b (I : Inf) : ByteArray := I.2.1
abbrev Inf.n (I : Inf) : Nat := I.2.2.1
abbrev Inf.r (I : Inf) : Option FieldType := I.2.2.2.1
abbrev Inf.R (I : Inf) : Room := I.2.2.2.2.1
/-- pool entries (class, index) known to be resolved Strings; at the end -/
abbrev Inf.rs (I : Inf) : List (String × Nat) := I.2.2.2.2.2.1
abbrev Inf.ro (I : Inf) : List (String × Nat) := I.2.2.2.2.2.2
abbrev Inf.learn (I : Inf) (l : List (String × Nat)) : Inf := (I.1, I.2.1, I.2.2.1, I.2.2.2.1, I.2.2.2.2.1, l ++ I.2.2.2.2.2.1, I.2.2.2.2.2.2)
def Rsv (vm : Vm) (p : String × Nat) : Prop := ∃ (c : ClassId) (k : Class) (a : Addr), vm.findClass p.1 = some c ∧ vm.classes[c]? = some k ∧ k.resolved[p.2]? = some (some (.string a))
theorem Rsv.on {s : State} {vm' : Vm} {p : String × Nat} (h : s.Warmed39 vm') (r : Rsv s.vm p) : Rsv vm' p := by
  obtain ⟨c, k, a, r1, r2, r3⟩ := r
  obtain ⟨k', hk', -⟩ := h.alike.2.2 _ _ r2
  refine ⟨c, k', a, by rw [h.alike.findClass]; exact r1, hk', ?_⟩
  rcases h.entry r2 hk' p.2 with z | ⟨z, -⟩
  · exact z.trans r3
  · rw [r3] at z; cases z
abbrev Wd : Type := Launch × State × List (String × Nat) × Bool × Bool
abbrev Wd.l (G : Wd) : Launch := G.1
abbrev Wd.Z (G : Wd) : State := G.2.1
abbrev Wd.E (G : Wd) : List (String × Nat) := G.2.2.1
abbrev Wd.nar (G : Wd) : Bool := G.2.2.2.1
/-- are the frames below known? (asked where a stack trace is filled in) -/
abbrev Wd.kn (G : Wd) : Bool := G.2.2.2.2
abbrev Rn : Type := Program × Env × State × MethodId × Array Value × List Frame × Method × Code
abbrev Rn.p (K : Rn) : Program := K.1
abbrev Rn.e (K : Rn) : Env := K.2.1
abbrev Rn.s (K : Rn) : State := K.2.2.1
abbrev Rn.m (K : Rn) : MethodId := K.2.2.2.1
abbrev Rn.args (K : Rn) : Array Value := K.2.2.2.2.1
abbrev Rn.below (K : Rn) : List Frame := K.2.2.2.2.2.1
abbrev Rn.meth (K : Rn) : Method := K.2.2.2.2.2.2.1
abbrev Rn.c (K : Rn) : Code := K.2.2.2.2.2.2.2
abbrev Po : Type := Option Value → Heap → List Addr → Prop
/-- what holds of the run all along -/
def Ok (G : Wd) (I : Inf) (K : Rn) : Prop := K.p.tables.exec = Jvm.exec ∧ K.c.code = I.b ∧ K.c.maxLocals = I.n ∧ K.meth.sig.returnType = I.r ∧ K.meth.locks = false ∧ (K.meth.name = I.y.name ∧ Ext G.Z.heap K.s.heap ∧ (G.kn = true → K.s.vm.MethodsKnown ∧ K.s.vm.FramesKnown K.below)) ∧ ∃ a0, EW G.Z a0 G.E
/-- cells that may be written: new ones, no literal's -/
def Ws (G : Wd) (vm : Vm) (h : Heap) (S : List Addr) : Prop := ∀ x ∈ S, G.Z.heap.size ≤ x ∧ x < h.size ∧ Safe G.Z G.E vm h x
/-- the state at hand -/
def Sd (G : Wd) (I : Inf) (K : Rn) (S : List Addr) (h : Heap) (cs sl : Nat) (vm0 : Vm) (k0 : Nat) (T : State) (L : List Loc) : Prop :=
  Stand K.p G.l K.e I.R (K.s.setVm vm0) K.m K.args K.below K.meth K.c T L cs sl ∧ G.Z.Warmed39 vm0 ∧ K.s.Since vm0 k0 ∧ k0 ≤ h.size ∧ vm0.findClass I.y.cls = some K.m.cls ∧ T.heap = h ∧ Ext G.Z.heap h ∧ Fr G.Z.heap.size L ∧ Ws G vm0 h S ∧ CHr G.Z G.E K.s.vm K.s.heap vm0 h ∧ (G.nar = true → K.s.WarmedH vm0) ∧ (∀ p ∈ I.rs, Rsv vm0 p)
/-- what the end owes -/
def Pst (G : Wd) (Q : Po) (R : Room) (ro : List (String × Nat)) (s : State) (o : Outcome) (t : State) : Prop :=
  ∃ v L, o = .returned v ∧ ((∃ S, Q v t.heap S ∧ Ws G t.vm t.heap S) ∧ Fr G.Z.heap.size L ∧ Ext G.Z.heap t.heap ∧ ∀ p ∈ ro, Rsv t.vm p) ∧ CHr G.Z G.E s.vm s.heap t.vm t.heap ∧ ReturnedEndW s o t L R.cells R.slots ∧ (G.nar = true → s.WarmedH t.vm)
def WP (G : Wd) (I : Inf) (Q : Po) (K : Rn) (S : List Addr) (h : Heap) (cs sl pc : Nat) (ls : Array Slot) (st : List Value) : Prop :=
  Ok G I K → ∀ vm0 k0 T L, Sd G I K S h cs sl vm0 k0 T L →
    ∃ t o, Steps K.p.tables K.e K.below (T.setTop (mkF K.m pc ls st)) t ∧ t.status = .running ∧ Ended t K.below o ∧ Pst G Q I.R I.ro K.s o t
/-- a method's contract -/
def Met (G : Wd) (J : Inf) (as' : Array Value) (h : Heap) (S : List Addr) (Q : Po) : Prop :=
  ∀ a1, EW G.Z a1 G.E → Ext G.Z.heap h → ∀ ws : List Jvm.Cond, MetFree G.l J.y (head1 (Jvm.Cond.code J.y J.b J.n J.r :: ws) J.R) (fun a U => a = as' ∧ G.Z.Warmed39 U.vm ∧ U.heap = h ∧ CHv G.Z G.E U.vm h ∧ Ws G U.vm h S ∧ ∀ p ∈ J.rs, Rsv U.vm p) (fun _ _ bl s _ => G.kn = true → s.vm.MethodsKnown ∧ s.vm.FramesKnown bl) (fun _ U o U' => Pst G Q J.R J.ro U o U')
section Rules
variable {G : Wd} {I J : Inf} {Q Q' : Po} {K : Rn} {S S' : List Addr} {h h' : Heap} {cs sl pc pc' : Nat} {ls ls' : Array Slot} {st st' rest : List Value} {a0 : Array Value}
theorem Met.intro (hpn : plainFor J.y = true) {as' : Array Value} (hef : ∀ m, entryFrame m as' J.n = mkF m 0 ls [])
    (H : ∀ K : Rn, WP G J Q K S h 0 0 0 ls []) : Met G J as' h S Q := by
  intro a0 hEW hO ws
  refine MetFree.of_bodySF hpn hisR ?_
  intro p e s m args below meth c s₁ Bd hml0 hP hK
  obtain ⟨rfl, hZ, hh, hCH, hS, hRs⟩ := hP
  have X0 : Stand p G.l e J.R s m args below meth c s₁ [] 0 0 := Stand.of_body Bd
  have e0 : s₁.heap = h := by rw [← hh, Bd.state]; rfl
  have ok : Ok G J (p, e, s, m, args, below, meth, c) := ⟨Bd.exec, Bd.bytes, hml0, Bd.returns, Bd.notSynchronized, ⟨(name_of_methodNamed Bd.named Bd.method).1, by rw [hh]; exact hO, hK⟩, a0, hEW⟩
  have q : CHr G.Z G.E s.vm s.heap s.vm h := by rw [hh]; exact CHr.refl hCH
  obtain ⟨t, o, st, r1, r2, r3⟩ := H (p, e, s, m, args, below, meth, c) ok s.vm 0 s₁ [] ⟨X0, hZ, (State.WarmedH.refl s).since 0, Nat.zero_le _, findClass_of_methodNamed Bd.named, e0, hO, Fr.nil _, hS, q, fun _ => State.WarmedH.refl s, hRs⟩
  exact ⟨t, o, castTop (hef m) st, r1, r2, r3⟩
theorem Ws.nil {vm : Vm} : Ws G vm h [] := fun _ q => nomatch q
theorem Ws.sub {vm : Vm} (H : Ws G vm h S) (q : ∀ x ∈ S', x ∈ S) : Ws G vm h S' := fun x hx => H x (q x hx)
theorem Ws.on {vm vm' : Vm} (H : Ws G vm h S) (C : CHr G.Z G.E vm h vm' h') : Ws G vm' h' S := fun x hx => by
  obtain ⟨h1, h2, h3⟩ := H x hx
  exact ⟨h1, Nat.lt_of_lt_of_le h2 C.2.1, C.safe h2 h3⟩
/-- a step that moves neither heap nor room -/
theorem WP.quiet (hst : ∀ vm0 T L, Ok G I K → Stand K.p G.l K.e I.R (K.s.setVm vm0) K.m K.args K.below K.meth K.c T L cs sl → G.Z.Warmed39 vm0 → vm0.findClass I.y.cls = some K.m.cls → T.heap = h → Ext G.Z.heap h →
      ∃ T', Stand K.p G.l K.e I.R (K.s.setVm vm0) K.m K.args K.below K.meth K.c T' L cs sl ∧ T'.heap = h ∧ ∀ target, Steps K.p.tables K.e K.below (T'.setTop (mkF K.m pc' ls' st')) target → Steps K.p.tables K.e K.below (T.setTop (mkF K.m pc ls st)) target)
    (k : WP G I Q K S h cs sl pc' ls' st') : WP G I Q K S h cs sl pc ls st := by
  intro ok vm0 k0 T L ⟨X, hZ, hS, hk, hf, eT, hE, hr⟩
  obtain ⟨T', X', eT', stp⟩ := hst vm0 T L ok X hZ hf eT hE
  obtain ⟨t, o, st1, r⟩ := k ok vm0 k0 T' L ⟨X', hZ, hS, hk, hf, eT', hE, hr⟩
  exact ⟨t, o, stp _ st1, r⟩
theorem WP.plain (hst : ∀ (T target : State), At T K.m K.c K.below → K.p.tables.exec = Jvm.exec → K.c.code = I.b → Steps K.p.tables K.e K.below (T.setTop (mkF K.m pc' ls' st')) target → Steps K.p.tables K.e K.below (T.setTop (mkF K.m pc ls st)) target)
    (k : WP G I Q K S h cs sl pc' ls' st') : WP G I Q K S h cs sl pc ls st :=
  WP.quiet (fun vm0 T L ok X hZ hf eT hE => ⟨T, X, eT, fun target s => hst T target X.here ok.1 ok.2.1 s⟩) k
/-- a store in one cell -/
theorem WP.write {a : Addr} {i : Nat} {v : Value} (ha : a ∈ S) (hst : ∀ vm0 T L, Ok G I K → Stand K.p G.l K.e I.R (K.s.setVm vm0) K.m K.args K.below K.meth K.c T L cs sl → G.Z.Warmed39 vm0 → vm0.findClass I.y.cls = some K.m.cls → T.heap = h →
      ∃ T' h', Stand K.p G.l K.e I.R (K.s.setVm vm0) K.m K.args K.below K.meth K.c T' (L ++ [⟨a, i⟩]) cs sl ∧ T'.heap = h' ∧ Wr h h' a i v ∧ ∀ target, Steps K.p.tables K.e K.below (T'.setTop (mkF K.m pc' ls' st')) target → Steps K.p.tables K.e K.below (T.setTop (mkF K.m pc ls st)) target)
    (k : ∀ h', Wr h h' a i v → WP G I Q K S h' cs sl pc' ls' st') : WP G I Q K S h cs sl pc ls st := by
  intro ok vm0 k0 T L ⟨X, hZ, hS, hk, hf, eT, hE, hF, hW, hC, hN, hRs⟩
  obtain ⟨T', h', X', eT', W, stp⟩ := hst vm0 T L ok X hZ hf eT
  obtain ⟨w1, w2, w3⟩ := hW a ha
  have C : CHr G.Z G.E vm0 h vm0 h' := CHr.wr W w3 hC.1
  have Kp : Keep h h' [a] := Keep.of_wr W
  have hE' : Ext G.Z.heap h' := ⟨Nat.le_trans hE.1 Kp.1, fun x c q => Kp.2.1 x c (hE.2 x c q) (ninS (Nat.ne_of_lt (Nat.lt_of_lt_of_le (Array.getElem?_eq_some_iff.mp q).1 w1)) nin0)⟩
  obtain ⟨t, o, st1, r⟩ := k h' W ok vm0 k0 T' (L ++ [⟨a, i⟩]) ⟨X', hZ, hS, Nat.le_trans hk Kp.1, hf, eT', hE', Fr.snoc X' hF w1, hW.on C, hC.trans C, hN, hRs⟩
  exact ⟨t, o, stp _ st1, r⟩
/-- a step that makes one cell -/
theorem WP.alloc {P : Heap → Prop} {n : Nat} (hst : ∀ vm0 T L, Ok G I K → Stand K.p G.l K.e I.R (K.s.setVm vm0) K.m K.args K.below K.meth K.c T L cs sl → G.Z.Warmed39 vm0 → vm0.findClass I.y.cls = some K.m.cls → T.heap = h →
      ∃ T' h', Stand K.p G.l K.e I.R (K.s.setVm vm0) K.m K.args K.below K.meth K.c T' L (cs + 1) (sl + n) ∧ T'.heap = h' ∧ Ext h h' ∧ h.size < h'.size ∧ P h' ∧ ∀ target, Steps K.p.tables K.e K.below (T'.setTop (mkF K.m pc' ls' st')) target → Steps K.p.tables K.e K.below (T.setTop (mkF K.m pc ls st)) target)
    (k : ∀ h', Ext h h' → P h' → WP G I Q K (h.size :: S) h' (cs + 1) (sl + n) pc' ls' st') : WP G I Q K S h cs sl pc ls st := by
  intro ok vm0 k0 T L ⟨X, hZ, hS, hk, hf, eT, hE, hF, hW, hC, hN, hRs⟩
  obtain ⟨T', h', X', eT', E, hlt, hP, stp⟩ := hst vm0 T L ok X hZ hf eT
  have C : CHr G.Z G.E vm0 h vm0 h' := CHr.ext E hC.1
  have hW' : Ws G vm0 h' (h.size :: S) := fun x hx => by
    rcases List.mem_cons.mp hx with rfl | hx
    · exact ⟨hE.1, hlt, Safe.ext E hC.1 (Safe.new (Nat.le_refl _))⟩
    · exact hW.on C x hx
  obtain ⟨t, o, st1, r⟩ := k h' E hP ok vm0 k0 T' L ⟨X', hZ, hS, Nat.le_trans hk E.1, hf, eT', ⟨Nat.le_trans hE.1 E.1, fun x c q => E.2 x c (hE.2 x c q)⟩, hF, hW', hC.trans C, hN, hRs⟩
  exact ⟨t, o, stp _ st1, r⟩
/-! ### calls -/
theorem kn_alike {vm vm' : Vm} {fs : List Frame} (hal : vm.Alike vm') (q : vm.MethodsKnown ∧ vm.FramesKnown fs) : vm'.MethodsKnown ∧ vm'.FramesKnown fs :=
  ⟨Vm.MethodsKnown.alikeC hal q.1, Vm.FramesKnown.alikeC hal q.2⟩
theorem Met.back {as' : Array Value} {R : Room} {p : Program} {e : Env} {below : List Frame} {s : State} {args : Array Value} {vm0 : Vm} {W len : Nat} (M : Met G J as' h S' Q') (hZ : G.Z.Warmed39 vm0) (wc : (Jvm.Cond.code J.y J.b J.n J.r).before a0 G.Z = true) (wz : (Jvm.Cond.initialized J.y.cls).before a0 G.Z = true)
    (hf : J.R.frames + 1 ≤ R.frames) (hl : W + (J.n + 11) + J.R.locals ≤ R.locals) {a1 : Array Value} (hEL : EW G.Z a1 G.E) (hO : Ext G.Z.heap h) (H : CHv G.Z G.E vm0 h) (hS : Ws G vm0 h S') (hkn : G.kn = true → vm0.MethodsKnown ∧ vm0.FramesKnown below) (hRs : ∀ p ∈ J.rs, Rsv vm0 p) :
    BackS G.l R p e below (s.setVm vm0) args J.y len W (fun A a => a = as' ∧ A.U.heap = h ∧ A.cells + J.R.cells ≤ R.cells ∧ A.slots + J.R.slots ≤ R.slots)
      (fun A _ v B => ∃ L, ((∃ S2, Q' v B.U.heap S2 ∧ Ws G B.U.vm B.U.heap S2) ∧ Fr G.Z.heap.size L ∧ Ext G.Z.heap B.U.heap ∧ ∀ p ∈ J.ro, Rsv B.U.vm p) ∧ B.locs = A.locs ++ L ∧ B.cells = A.cells + J.R.cells ∧ B.slots = A.slots + J.R.slots ∧ CHr G.Z G.E vm0 h B.U.vm B.U.heap ∧ (G.nar = true → (s.setVm vm0).WarmedH B.U.vm)) :=
  BackS.of_freeWG (bytes := J.b) (maxL := J.n) (ret := J.r) (E := fun _ first o t L k n => k = J.R.cells ∧ n = J.R.slots ∧ (∃ v, o = .returned v ∧ ((∃ S2, Q' v t.heap S2 ∧ Ws G t.vm t.heap S2) ∧ Fr G.Z.heap.size L ∧ Ext G.Z.heap t.heap ∧ ∀ p ∈ J.ro, Rsv t.vm p)) ∧ CHr G.Z G.E first.vm first.heap t.vm t.heap ∧ (G.nar = true → first.WarmedH t.vm)) (M a1 hEL hO []) hf hl
    (fun m meth c A a Y hp => have hU : G.Z.Warmed39 A.U.vm := wtrans (s := s.setVm vm0) hZ Y.warmed
      ⟨by show (Jvm.Cond.and _ .tt).before a A.U = true; rw [Cond.before_and, mv hU wc]; rfl, mv hU wc, mv hU wz, hp.2.2.1, hp.2.2.2⟩)
    (fun m meth c A a g mk Y hp => ⟨hp.1, wtrans (s := s.setVm vm0) hZ Y.warmed, hp.2.1, (CHv.at (T := A.U) Y hZ hEL H).1, (show Ws G A.U.vm h S' from hS.on (CHv.at (T := A.U) Y hZ hEL H)), fun p q => Rsv.on (s := s.setVm vm0) Y.warmed.wide (hRs p q)⟩) (fun m meth c A a g mk Y _ hg q => known_frames Y hg (hkn q).1 (hkn q).2)
    (fun _ _ _ _ ⟨v, L, h1, h2, h3, h4, h5⟩ => ⟨L, _, _, h4, rfl, rfl, ⟨v, h1, h2⟩, h3, h5⟩)
    (fun m meth c A a g mk v t L k n Y hp _ _ ⟨e1, e2, ⟨v', e3, e4⟩, e5, e6⟩ => by
      cases e3; subst e1 e2
      refine ⟨L, e4, rfl, rfl, rfl, (CHv.at Y hZ hEL H).trans ?_, fun hn => State.WarmedH.trans (t := A.U) Y.warmed (e6 hn)⟩
      rw [← hp.2.1]; exact e5)
/-- what each call's rule makes of a callee's coming back -/
theorem WP.cameL {as' : Array Value} (M : Met G J as' h S' Q') (wc : (Jvm.Cond.code J.y J.b J.n J.r).before a0 G.Z = true) (wz : (Jvm.Cond.initialized J.y.cls).before a0 G.Z = true) (hS' : ∀ x ∈ S', x ∈ S) (hJs : ∀ p ∈ J.rs, p ∈ I.rs) {W len : Nat} (hf : J.R.frames + 1 ≤ I.R.frames) (hl : W + (J.n + 11) + J.R.locals ≤ I.R.locals)
    (hst : ∀ vm0 T L, Ok G I K → Stand K.p G.l K.e I.R (K.s.setVm vm0) K.m K.args K.below K.meth K.c T L cs sl → G.Z.Warmed39 vm0 → vm0.findClass I.y.cls = some K.m.cls → T.heap = h → ∀ {Post : Pt → Array Value → Option Value → Pt → Prop},
      BackS G.l I.R K.p K.e K.below (K.s.setVm vm0) K.args J.y len W (fun A a => a = as' ∧ A.U.heap = h ∧ A.cells + J.R.cells ≤ I.R.cells ∧ A.slots + J.R.slots ≤ I.R.slots) Post →
      ∃ (v : Option Value) (vm₁ : Vm) (B : Pt), Stand K.p G.l K.e I.R ((K.s.setVm vm0).setVm B.U.vm) K.m K.args K.below K.meth K.c B.U B.locs B.cells B.slots ∧ (K.s.setVm vm0).Since B.U.vm B.U.heap.size ∧ T.heap.size ≤ B.U.heap.size ∧ Post ⟨T.setVm vm₁, L, cs, sl⟩ as' v B ∧
        Steps K.p.tables K.e K.below (T.setTop (mkF K.m pc ls st)) (B.U.setTop (mkF K.m pc' ls (v.toList ++ rest))))
    (k : ∀ v h' S2, Q' v h' S2 → WP G (I.learn J.ro) Q K (S2 ++ S) h' (cs + J.R.cells) (sl + J.R.slots) pc' ls (v.toList ++ rest)) : WP G I Q K S h cs sl pc ls st := by
  intro ok vm0 k0 T L ⟨X, hZ, hS, hk, hf', eT, hE, hF, hW, hC, hN, hRs⟩
  obtain ⟨a1, hEL⟩ := ok.2.2.2.2.2.2
  obtain ⟨v, vm₁, B, X', hS2, hgr, ⟨L2, ⟨⟨S2, hQ, hW2⟩, hF2, hE2, hRo⟩, l1, l2, l3, hC2, hN2⟩, stp⟩ := hst vm0 T L ok X hZ hf' eT (M.back hZ wc wz hf hl hEL hE hC.1 (hW.sub hS') (fun q => kn_alike hS.1.alike (ok.2.2.2.2.2.1.2.2 q)) (fun p q => hRs p (hJs p q)))
  obtain ⟨U, Ls, c1, n1⟩ := B
  dsimp only [Pt.U, Pt.locs, Pt.cells, Pt.slots] at X' hS2 hgr hQ hW2 hE2 hRo l1 l2 l3 hC2 hN2 stp
  subst l1 l2 l3
  have hW3 : Ws G U.vm U.heap (S2 ++ S) := fun x hx => by
    rcases List.mem_append.mp hx with hx | hx
    · exact hW2 x hx
    · exact hW.on hC2 x hx
  have hS3 : K.s.Since U.vm U.heap.size := hS.trans hS2 (Nat.le_trans hk (by rw [← eT]; exact hgr))
  obtain ⟨t, o, st1, r⟩ := k v U.heap S2 hQ ok U.vm U.heap.size U (L ++ L2) ⟨X', State.Warmed39.trans (t := K.s.setVm vm0) hZ hS2.1, hS3, Nat.le_refl _, by rw [hS2.1.alike.findClass]; exact hf', rfl, hE2, hF.app hF2, hW3, hC.trans hC2, fun hn => State.WarmedH.trans (t := K.s.setVm vm0) (hN hn) (hN2 hn), fun p hp => (List.mem_append.mp hp).elim (hRo p) (fun z => Rsv.on (s := K.s.setVm vm0) hS2.1 (hRs p z))⟩
  exact ⟨t, o, stp.trans st1, r⟩
theorem WP.came {as' : Array Value} (M : Met G J as' h S' Q') (wc : (Jvm.Cond.code J.y J.b J.n J.r).before a0 G.Z = true) (wz : (Jvm.Cond.initialized J.y.cls).before a0 G.Z = true) (hS' : ∀ x ∈ S', x ∈ S) (hJo : J.ro = []) (hJs : ∀ p ∈ J.rs, p ∈ I.rs) {W len : Nat} (hf : J.R.frames + 1 ≤ I.R.frames) (hl : W + (J.n + 11) + J.R.locals ≤ I.R.locals)
    (hst : ∀ vm0 T L, Ok G I K → Stand K.p G.l K.e I.R (K.s.setVm vm0) K.m K.args K.below K.meth K.c T L cs sl → G.Z.Warmed39 vm0 → vm0.findClass I.y.cls = some K.m.cls → T.heap = h → ∀ {Post : Pt → Array Value → Option Value → Pt → Prop},
      BackS G.l I.R K.p K.e K.below (K.s.setVm vm0) K.args J.y len W (fun A a => a = as' ∧ A.U.heap = h ∧ A.cells + J.R.cells ≤ I.R.cells ∧ A.slots + J.R.slots ≤ I.R.slots) Post →
      ∃ (v : Option Value) (vm₁ : Vm) (B : Pt), Stand K.p G.l K.e I.R ((K.s.setVm vm0).setVm B.U.vm) K.m K.args K.below K.meth K.c B.U B.locs B.cells B.slots ∧ (K.s.setVm vm0).Since B.U.vm B.U.heap.size ∧ T.heap.size ≤ B.U.heap.size ∧ Post ⟨T.setVm vm₁, L, cs, sl⟩ as' v B ∧
        Steps K.p.tables K.e K.below (T.setTop (mkF K.m pc ls st)) (B.U.setTop (mkF K.m pc' ls (v.toList ++ rest))))
    (k : ∀ v h' S2, Q' v h' S2 → WP G I Q K (S2 ++ S) h' (cs + J.R.cells) (sl + J.R.slots) pc' ls (v.toList ++ rest)) : WP G I Q K S h cs sl pc ls st := by
  exact WP.cameL M wc wz hS' hJs hf hl hst fun v h' S2 q => by rw [hJo]; exact k v h' S2 q
end Rules
end Jvm.Own
namespace Jvm.Own
open Jvm Jvm.ClassFile Sem Op Lib Jvm.Free Jvm.Stand Jvm.LawKit Jvm.RoadKit Bundle
/-! ### one rule an instruction -/
def Cd (cd : ClassFile.Cond) (x y : Int32) : Prop := match cd with
  | .eq => x = y | .ne => ¬ x = y | .lt => x < y | .ge => ¬ x < y | .gt => y < x | .le => ¬ y < x
def Nd (cd : ClassFile.Cond) (x y : Int32) : Prop := match cd with
  | .eq => ¬ x = y | .ne => x = y | .lt => ¬ x < y | .ge => x < y | .gt => ¬ y < x | .le => y < x
theorem cd_t {cd : ClassFile.Cond} {x y : Int32} (q : Cd cd x y) : if_icmp.holds cd x y = true := by
  cases cd
  · exact (teq q).1
  · exact (feq q).2
  · exact (tlt q).1
  · exact (flt q).2.1
  · exact (tlt q).2.2.1
  · exact (flt q).2.2.2
theorem cd_f {cd : ClassFile.Cond} {x y : Int32} (q : Nd cd x y) : if_icmp.holds cd x y = false := by
  cases cd
  · exact (feq q).1
  · exact (teq q).2
  · exact (flt q).1
  · exact (tlt q).2.1
  · exact (flt q).2.2.1
  · exact (tlt q).2.2.2
theorem cd_em (cd : ClassFile.Cond) (x y : Int32) : Cd cd x y ∨ Nd cd x y := by
  cases cd
  · exact Classical.em (x = y)
  · exact (Classical.em (x = y)).symm
  · exact Classical.em (x < y)
  · exact (Classical.em (x < y)).symm
  · exact Classical.em (y < x)
  · exact (Classical.em (y < x)).symm
/-- the instruction at pc, and where the next one lies -/
def D1 (b : ByteArray) (pc : Nat) (i : Instr) (n pc' : Nat) : Prop := decode b pc = .ok (i, n) ∧ pc + n = pc'
/-- .. and where a branch leads -/
def DB (b : ByteArray) (pc : Nat) (i : Instr) (n : Nat) (o : Int) (pc1 pc' : Nat) : Prop := decode b pc = .ok (i, n) ∧ pc + n = pc1 ∧ 0 ≤ (pc : Int) + o ∧ ((pc : Int) + o).toNat = pc'
section Plain
variable {G : Wd} {I : Inf} {Q : Po} {K : Rn} {S : List Addr} {h : Heap} {cs sl pc pc1 pc' : Nat} {ls ls' : Array Slot} {st : List Value}
theorem Ru.iload {k : Nat} {x : Int32} (hd : D1 I.b pc (.iload k) 2 pc') (hl : ls[k]? = some (.val (.int x))) (k' : WP G I Q K S h cs sl pc' ls (.int x :: st)) : WP G I Q K S h cs sl pc ls st := by
  obtain ⟨hd, rfl⟩ := hd
  exact WP.plain (fun _ _ hA hx hb s => XS.iload hA hx rfl (hb ▸ hd) hl s) k'
theorem Ru.iloadN {k : Fin 4} {x : Int32} (hd : D1 I.b pc (.iload_n k) 1 pc') (hl : ls[k.val]? = some (.val (.int x))) (k' : WP G I Q K S h cs sl pc' ls (.int x :: st)) : WP G I Q K S h cs sl pc ls st := by
  obtain ⟨hd, rfl⟩ := hd
  exact WP.plain (fun _ _ hA hx hb s => XS.iloadN hA hx rfl (hb ▸ hd) hl s) k'
theorem Ru.lload {k : Nat} {x : Int64} (hd : D1 I.b pc (.lload k) 2 pc') (hl : ls[k]? = some (.val (.long x))) (k' : WP G I Q K S h cs sl pc' ls (.long x :: st)) : WP G I Q K S h cs sl pc ls st := by
  obtain ⟨hd, rfl⟩ := hd
  exact WP.plain (fun _ _ hA hx hb s => XS.lload hA hx rfl (hb ▸ hd) hl s) k'
theorem Ru.lloadN {k : Fin 4} {x : Int64} (hd : D1 I.b pc (.lload_n k) 1 pc') (hl : ls[k.val]? = some (.val (.long x))) (k' : WP G I Q K S h cs sl pc' ls (.long x :: st)) : WP G I Q K S h cs sl pc ls st := by
  obtain ⟨hd, rfl⟩ := hd
  exact WP.plain (fun _ _ hA hx hb s => XS.lloadN hA hx rfl (hb ▸ hd) hl s) k'
theorem Ru.aload {k : Nat} {v : Value} (hd : D1 I.b pc (.aload k) 2 pc') (hl : ls[k]? = some (.val v)) (hv : v.isRef = true) (k' : WP G I Q K S h cs sl pc' ls (v :: st)) : WP G I Q K S h cs sl pc ls st := by
  obtain ⟨hd, rfl⟩ := hd
  exact WP.plain (fun _ _ hA hx hb s => XS.aload hA hx rfl (hb ▸ hd) hl hv s) k'
theorem Ru.aloadN {k : Fin 4} {v : Value} (hd : D1 I.b pc (.aload_n k) 1 pc') (hl : ls[k.val]? = some (.val v)) (hv : v.isRef = true) (k' : WP G I Q K S h cs sl pc' ls (v :: st)) : WP G I Q K S h cs sl pc ls st := by
  obtain ⟨hd, rfl⟩ := hd
  exact WP.plain (fun _ _ hA hx hb s => XS.aloadN hA hx rfl (hb ▸ hd) hl hv s) k'
theorem Ru.istore {k : Nat} {x : Int32} (hd : D1 I.b pc (.istore k) 2 pc') (hl : storeLocals ls k (.int x) = some ls') (k' : WP G I Q K S h cs sl pc' ls' st) : WP G I Q K S h cs sl pc ls (.int x :: st) := by
  obtain ⟨hd, rfl⟩ := hd
  exact WP.plain (fun _ _ hA hx hb s => XS.istore hA hx rfl (hb ▸ hd) rfl hl s) k'
theorem Ru.istoreN {k : Fin 4} {x : Int32} (hd : D1 I.b pc (.istore_n k) 1 pc') (hl : storeLocals ls k.val (.int x) = some ls') (k' : WP G I Q K S h cs sl pc' ls' st) : WP G I Q K S h cs sl pc ls (.int x :: st) := by
  obtain ⟨hd, rfl⟩ := hd
  exact WP.plain (fun _ _ hA hx hb s => XS.istoreN hA hx rfl (hb ▸ hd) rfl hl s) k'
theorem Ru.lstore {k : Nat} {x : Int64} (hd : D1 I.b pc (.lstore k) 2 pc') (hl : storeLocals ls k (.long x) = some ls') (k' : WP G I Q K S h cs sl pc' ls' st) : WP G I Q K S h cs sl pc ls (.long x :: st) := by
  obtain ⟨hd, rfl⟩ := hd
  exact WP.plain (fun _ _ hA hx hb s => XS.lstore hA hx rfl (hb ▸ hd) rfl hl s) k'
theorem Ru.lstoreN {k : Fin 4} {x : Int64} (hd : D1 I.b pc (.lstore_n k) 1 pc') (hl : storeLocals ls k.val (.long x) = some ls') (k' : WP G I Q K S h cs sl pc' ls' st) : WP G I Q K S h cs sl pc ls (.long x :: st) := by
  obtain ⟨hd, rfl⟩ := hd
  exact WP.plain (fun _ _ hA hx hb s => XS.lstoreN hA hx rfl (hb ▸ hd) rfl hl s) k'
theorem Ru.astore {k : Nat} {v : Value} (hd : D1 I.b pc (.astore k) 2 pc') (hv : v.isRef = true) (hl : storeLocals ls k v = some ls') (k' : WP G I Q K S h cs sl pc' ls' st) : WP G I Q K S h cs sl pc ls (v :: st) := by
  obtain ⟨hd, rfl⟩ := hd
  exact WP.plain (fun _ _ hA hx hb s => XS.astore hA hx rfl (hb ▸ hd) rfl hv hl s) k'
theorem Ru.astoreN {k : Fin 4} {v : Value} (hd : D1 I.b pc (.astore_n k) 1 pc') (hv : v.isRef = true) (hl : storeLocals ls k.val v = some ls') (k' : WP G I Q K S h cs sl pc' ls' st) : WP G I Q K S h cs sl pc ls (v :: st) := by
  obtain ⟨hd, rfl⟩ := hd
  exact WP.plain (fun _ _ hA hx hb s => XS.astoreN hA hx rfl (hb ▸ hd) rfl hv hl s) k'
theorem Ru.istoreG {k : Nat} {x : Int32} {o : Slot} (hd : D1 I.b pc (.istore k) 2 pc') (hold : ls[k]? = some o) (ho : One o) (hl : ls.setIfInBounds k (.val (.int x)) = ls') (k' : WP G I Q K S h cs sl pc' ls' st) : WP G I Q K S h cs sl pc ls (.int x :: st) :=
  Ru.istore hd ((XS.store1 hold ho rfl).trans (by rw [hl])) k'
theorem Ru.istoreNG {k : Fin 4} {x : Int32} {o : Slot} (hd : D1 I.b pc (.istore_n k) 1 pc') (hold : ls[k.val]? = some o) (ho : One o) (hl : ls.setIfInBounds k.val (.val (.int x)) = ls') (k' : WP G I Q K S h cs sl pc' ls' st) : WP G I Q K S h cs sl pc ls (.int x :: st) :=
  Ru.istoreN hd ((XS.store1 hold ho rfl).trans (by rw [hl])) k'
theorem Ru.astoreG {k : Nat} {v : Value} {o : Slot} (hd : D1 I.b pc (.astore k) 2 pc') (hv : v.isRef = true) (hold : ls[k]? = some o) (ho : One o) (hl : ls.setIfInBounds k (.val v) = ls') (k' : WP G I Q K S h cs sl pc' ls' st) : WP G I Q K S h cs sl pc ls (v :: st) :=
  Ru.astore hd hv ((XS.store1 hold ho (XT.cat1 hv)).trans (by rw [hl])) k'
theorem Ru.astoreNG {k : Fin 4} {v : Value} {o : Slot} (hd : D1 I.b pc (.astore_n k) 1 pc') (hv : v.isRef = true) (hold : ls[k.val]? = some o) (ho : One o) (hl : ls.setIfInBounds k.val (.val v) = ls') (k' : WP G I Q K S h cs sl pc' ls' st) : WP G I Q K S h cs sl pc ls (v :: st) :=
  Ru.astoreN hd hv ((XS.store1 hold ho (XT.cat1 hv)).trans (by rw [hl])) k'
theorem Ru.iconst {i : Int} {x : Int32} (hd : D1 I.b pc (.iconst i) 1 pc') (hv : Int32.ofInt i = x) (k' : WP G I Q K S h cs sl pc' ls (.int x :: st)) : WP G I Q K S h cs sl pc ls st := by
  obtain ⟨hd, rfl⟩ := hd
  subst hv; exact WP.plain (fun _ _ hA hx hb s => XS.iconst hA hx rfl (hb ▸ hd) s) k'
theorem Ru.bipush {i : Int} {x : Int32} (hd : D1 I.b pc (.bipush i) 2 pc') (hv : (Int8.ofInt i).toInt32 = x) (k' : WP G I Q K S h cs sl pc' ls (.int x :: st)) : WP G I Q K S h cs sl pc ls st := by
  obtain ⟨hd, rfl⟩ := hd
  subst hv; exact WP.plain (fun _ _ hA hx hb s => XS.bipush hA hx rfl (hb ▸ hd) s) k'
theorem Ru.sipush {i : Int} {x : Int32} (hd : D1 I.b pc (.sipush i) 3 pc') (hv : (Int16.ofInt i).toInt32 = x) (k' : WP G I Q K S h cs sl pc' ls (.int x :: st)) : WP G I Q K S h cs sl pc ls st := by
  obtain ⟨hd, rfl⟩ := hd
  subst hv; exact WP.plain (fun _ _ hA hx hb s => XS.sipush hA hx rfl (hb ▸ hd) s) k'
theorem Ru.lconst {k : Fin 2} {x : Int64} (hd : D1 I.b pc (.lconst k) 1 pc') (hv : Int64.ofNat k = x) (k' : WP G I Q K S h cs sl pc' ls (.long x :: st)) : WP G I Q K S h cs sl pc ls st := by
  obtain ⟨hd, rfl⟩ := hd
  subst hv; exact WP.plain (fun _ _ hA hx hb s => XS.lconst hA hx rfl (hb ▸ hd) s) k'
theorem Ru.aconstNull (hd : D1 I.b pc (.aconst_null) 1 pc') (k' : WP G I Q K S h cs sl pc' ls (.null :: st)) : WP G I Q K S h cs sl pc ls st := by
  obtain ⟨hd, rfl⟩ := hd
  exact WP.plain (fun _ _ hA hx hb s => XS.aconstNull hA hx rfl (hb ▸ hd) s) k'
theorem Ru.iadd {x y : Int32} (hd : D1 I.b pc (.iadd) 1 pc') (k' : WP G I Q K S h cs sl pc' ls (.int (x + y) :: st)) : WP G I Q K S h cs sl pc ls (.int y :: .int x :: st) := by
  obtain ⟨hd, rfl⟩ := hd
  exact WP.plain (fun _ _ hA hx hb s => XS.iadd hA hx rfl (hb ▸ hd) rfl s) k'
theorem Ru.isub {x y : Int32} (hd : D1 I.b pc (.isub) 1 pc') (k' : WP G I Q K S h cs sl pc' ls (.int (x - y) :: st)) : WP G I Q K S h cs sl pc ls (.int y :: .int x :: st) := by
  obtain ⟨hd, rfl⟩ := hd
  exact WP.plain (fun _ _ hA hx hb s => XS.isub hA hx rfl (hb ▸ hd) rfl s) k'
theorem Ru.imul {x y : Int32} (hd : D1 I.b pc (.imul) 1 pc') (k' : WP G I Q K S h cs sl pc' ls (.int (x * y) :: st)) : WP G I Q K S h cs sl pc ls (.int y :: .int x :: st) := by
  obtain ⟨hd, rfl⟩ := hd
  exact WP.plain (fun _ _ hA hx hb s => XS.imul hA hx rfl (hb ▸ hd) rfl s) k'
theorem Ru.iand {x y : Int32} (hd : D1 I.b pc (.iand) 1 pc') (k' : WP G I Q K S h cs sl pc' ls (.int (x &&& y) :: st)) : WP G I Q K S h cs sl pc ls (.int y :: .int x :: st) := by
  obtain ⟨hd, rfl⟩ := hd
  exact WP.plain (fun _ _ hA hx hb s => XS.iand hA hx rfl (hb ▸ hd) rfl s) k'
theorem Ru.ior {x y : Int32} (hd : D1 I.b pc (.ior) 1 pc') (k' : WP G I Q K S h cs sl pc' ls (.int (x ||| y) :: st)) : WP G I Q K S h cs sl pc ls (.int y :: .int x :: st) := by
  obtain ⟨hd, rfl⟩ := hd
  exact WP.plain (fun _ _ hA hx hb s => XS.ior hA hx rfl (hb ▸ hd) rfl s) k'
theorem Ru.ixor {x y : Int32} (hd : D1 I.b pc (.ixor) 1 pc') (k' : WP G I Q K S h cs sl pc' ls (.int (x ^^^ y) :: st)) : WP G I Q K S h cs sl pc ls (.int y :: .int x :: st) := by
  obtain ⟨hd, rfl⟩ := hd
  exact WP.plain (fun _ _ hA hx hb s => XS.ixor hA hx rfl (hb ▸ hd) rfl s) k'
theorem Ru.ishl {x y : Int32} (hd : D1 I.b pc (.ishl) 1 pc') (k' : WP G I Q K S h cs sl pc' ls (.int (x <<< (y &&& 31)) :: st)) : WP G I Q K S h cs sl pc ls (.int y :: .int x :: st) := by
  obtain ⟨hd, rfl⟩ := hd
  exact WP.plain (fun _ _ hA hx hb s => XS.ishl hA hx rfl (hb ▸ hd) rfl s) k'
theorem Ru.ishr {x y : Int32} (hd : D1 I.b pc (.ishr) 1 pc') (k' : WP G I Q K S h cs sl pc' ls (.int (x >>> (y &&& 31)) :: st)) : WP G I Q K S h cs sl pc ls (.int y :: .int x :: st) := by
  obtain ⟨hd, rfl⟩ := hd
  exact WP.plain (fun _ _ hA hx hb s => XS.ishr hA hx rfl (hb ▸ hd) rfl s) k'
theorem Ru.iushr {x y : Int32} (hd : D1 I.b pc (.iushr) 1 pc') (k' : WP G I Q K S h cs sl pc' ls (.int ((x.toUInt32 >>> (y &&& 31).toUInt32).toInt32) :: st)) : WP G I Q K S h cs sl pc ls (.int y :: .int x :: st) := by
  obtain ⟨hd, rfl⟩ := hd
  exact WP.plain (fun _ _ hA hx hb s => XS.iushr hA hx rfl (hb ▸ hd) rfl s) k'
theorem Ru.idiv {x y : Int32} (hd : D1 I.b pc (.idiv) 1 pc') (hy : y ≠ 0) (k' : WP G I Q K S h cs sl pc' ls (.int (x / y) :: st)) : WP G I Q K S h cs sl pc ls (.int y :: .int x :: st) := by
  obtain ⟨hd, rfl⟩ := hd
  exact WP.plain (fun _ _ hA hx hb s => XS.idiv hA hx rfl (hb ▸ hd) rfl hy s) k'
theorem Ru.irem {x y : Int32} (hd : D1 I.b pc (.irem) 1 pc') (hy : y ≠ 0) (k' : WP G I Q K S h cs sl pc' ls (.int (x % y) :: st)) : WP G I Q K S h cs sl pc ls (.int y :: .int x :: st) := by
  obtain ⟨hd, rfl⟩ := hd
  exact WP.quiet (fun vm0 T L ok X hZ hf eT hE => ⟨T, X, eT, fun target s => iremM X ok.1 rfl (ok.2.1 ▸ hd) rfl hy s⟩) k'
theorem Ru.ineg {x : Int32} (hd : D1 I.b pc (.ineg) 1 pc') (k' : WP G I Q K S h cs sl pc' ls (.int (-x) :: st)) : WP G I Q K S h cs sl pc ls (.int x :: st) := by
  obtain ⟨hd, rfl⟩ := hd
  exact WP.plain (fun _ _ hA hx hb s => XS.ineg hA hx rfl (hb ▸ hd) rfl s) k'
theorem Ru.ladd {x y : Int64} (hd : D1 I.b pc (.ladd) 1 pc') (k' : WP G I Q K S h cs sl pc' ls (.long (x + y) :: st)) : WP G I Q K S h cs sl pc ls (.long y :: .long x :: st) := by
  obtain ⟨hd, rfl⟩ := hd
  exact WP.plain (fun _ _ hA hx hb s => XS.ladd hA hx rfl (hb ▸ hd) rfl s) k'
theorem Ru.lsub {x y : Int64} (hd : D1 I.b pc (.lsub) 1 pc') (k' : WP G I Q K S h cs sl pc' ls (.long (x - y) :: st)) : WP G I Q K S h cs sl pc ls (.long y :: .long x :: st) := by
  obtain ⟨hd, rfl⟩ := hd
  exact WP.plain (fun _ _ hA hx hb s => XS.lsub hA hx rfl (hb ▸ hd) rfl s) k'
theorem Ru.land {x y : Int64} (hd : D1 I.b pc (.land) 1 pc') (k' : WP G I Q K S h cs sl pc' ls (.long (x &&& y) :: st)) : WP G I Q K S h cs sl pc ls (.long y :: .long x :: st) := by
  obtain ⟨hd, rfl⟩ := hd
  exact WP.plain (fun _ _ hA hx hb s => XS.land hA hx rfl (hb ▸ hd) rfl s) k'
theorem Ru.lushr {x : Int64} {y : Int32} (hd : D1 I.b pc (.lushr) 1 pc') (k' : WP G I Q K S h cs sl pc' ls (.long ((x.toUInt64 >>> (y &&& 0x3f).toInt64.toUInt64).toInt64) :: st)) : WP G I Q K S h cs sl pc ls (.int y :: .long x :: st) := by
  obtain ⟨hd, rfl⟩ := hd
  exact WP.plain (fun _ _ hA hx hb s => XS.lushr hA hx rfl (hb ▸ hd) rfl s) k'
theorem Ru.i2b {x : Int32} (hd : D1 I.b pc (.i2b) 1 pc') (k' : WP G I Q K S h cs sl pc' ls (.int x.toInt8.toInt32 :: st)) : WP G I Q K S h cs sl pc ls (.int x :: st) := by
  obtain ⟨hd, rfl⟩ := hd
  exact WP.plain (fun _ _ hA hx hb s => XS.i2b hA hx rfl (hb ▸ hd) rfl s) k'
theorem Ru.i2c {x : Int32} (hd : D1 I.b pc (.i2c) 1 pc') (k' : WP G I Q K S h cs sl pc' ls (.int x.toUInt32.toUInt16.toUInt32.toInt32 :: st)) : WP G I Q K S h cs sl pc ls (.int x :: st) := by
  obtain ⟨hd, rfl⟩ := hd
  exact WP.plain (fun _ _ hA hx hb s => XS.i2c hA hx rfl (hb ▸ hd) rfl s) k'
theorem Ru.i2l {x : Int32} (hd : D1 I.b pc (.i2l) 1 pc') (k' : WP G I Q K S h cs sl pc' ls (.long x.toInt64 :: st)) : WP G I Q K S h cs sl pc ls (.int x :: st) := by
  obtain ⟨hd, rfl⟩ := hd
  exact WP.plain (fun _ _ hA hx hb s => XS.i2l hA hx rfl (hb ▸ hd) rfl s) k'
theorem Ru.l2i {x : Int64} (hd : D1 I.b pc (.l2i) 1 pc') (k' : WP G I Q K S h cs sl pc' ls (.int x.toInt32 :: st)) : WP G I Q K S h cs sl pc ls (.long x :: st) := by
  obtain ⟨hd, rfl⟩ := hd
  exact WP.plain (fun _ _ hA hx hb s => XS.l2i hA hx rfl (hb ▸ hd) rfl s) k'
theorem Ru.lcmp {x y : Int64} (hd : D1 I.b pc (.lcmp) 1 pc') (k' : WP G I Q K S h cs sl pc' ls (.int (lcmpW x y) :: st)) : WP G I Q K S h cs sl pc ls (.long y :: .long x :: st) := by
  obtain ⟨hd, rfl⟩ := hd
  exact WP.plain (fun _ _ hA hx hb s => XS.lcmp hA hx rfl (hb ▸ hd) rfl s) k'
theorem Ru.iinc {k : Nat} {cst : Int} {x y : Int32} (hd : D1 I.b pc (.iinc k cst) 3 pc') (hl : ls[k]? = some (.val (.int x))) (hv : Int32.ofInt cst = y) (hl' : storeLocals ls k (.int (x + y)) = some ls') (k' : WP G I Q K S h cs sl pc' ls' st) : WP G I Q K S h cs sl pc ls st := by
  obtain ⟨hd, rfl⟩ := hd
  subst hv; exact WP.plain (fun _ _ hA hx hb s => XS.iinc hA hx rfl (hb ▸ hd) hl hl' s) k'
theorem Ru.pop {v : Value} (hd : D1 I.b pc (.pop) 1 pc') (hc : v.category = 1) (k' : WP G I Q K S h cs sl pc' ls st) : WP G I Q K S h cs sl pc ls (v :: st) := by
  obtain ⟨hd, rfl⟩ := hd
  exact WP.plain (fun _ _ hA hx hb s => XS.pop hA hx rfl (hb ▸ hd) rfl hc s) k'
theorem Ru.dup {v : Value} (hd : D1 I.b pc (.dup) 1 pc') (hc : v.category = 1) (k' : WP G I Q K S h cs sl pc' ls (v :: v :: st)) : WP G I Q K S h cs sl pc ls (v :: st) := by
  obtain ⟨hd, rfl⟩ := hd
  exact WP.plain (fun _ _ hA hx hb s => XS.dup hA hx rfl (hb ▸ hd) rfl hc s) k'
theorem Ru.dupX1 {v w : Value} (hd : D1 I.b pc (.dup_x1) 1 pc') (hc : v.category = 1) (hc2 : w.category = 1) (k' : WP G I Q K S h cs sl pc' ls (v :: w :: v :: st)) : WP G I Q K S h cs sl pc ls (v :: w :: st) := by
  obtain ⟨hd, rfl⟩ := hd
  exact WP.plain (fun _ _ hA hx hb s => XS.dupX1 hA hx rfl (hb ▸ hd) rfl hc hc2 s) k'
theorem Ru.dup2 {v w : Value} (hd : D1 I.b pc (.dup2) 1 pc') (hc : v.category = 1) (hc2 : w.category = 1) (k' : WP G I Q K S h cs sl pc' ls (v :: w :: v :: w :: st)) : WP G I Q K S h cs sl pc ls (v :: w :: st) := by
  obtain ⟨hd, rfl⟩ := hd
  exact WP.plain (fun _ _ hA hx hb s => XT.dup2 hA hx rfl (hb ▸ hd) rfl hc hc2 s) k'
theorem Ru.goto {o : Int} (hd : DB I.b pc (.goto o) 3 o pc1 pc') (k' : WP G I Q K S h cs sl pc' ls st) : WP G I Q K S h cs sl pc ls st := by
  obtain ⟨hd, rfl, ho, hp⟩ := hd
  exact WP.plain (fun _ _ hA hx hb s => XS.goto hA hx rfl rfl (hb ▸ hd) ho hp s) k'
theorem Ru.ifc {cd : ClassFile.Cond} {o : Int} {x : Int32} (hd : DB I.b pc (.ifCond cd o) 3 o pc1 pc') (y : Cd cd x 0 → WP G I Q K S h cs sl pc' ls st) (n : Nd cd x 0 → WP G I Q K S h cs sl pc1 ls st) : WP G I Q K S h cs sl pc ls (.int x :: st) := by
  obtain ⟨hd, rfl, ho, hp⟩ := hd
  rcases cd_em cd x 0 with q | q
  · exact WP.plain (fun _ _ hA hx hb s => XS.ifYes hA hx rfl rfl (hb ▸ hd) rfl ((if0 cd x).trans (cd_t q)) ho hp s) (y q)
  · exact WP.plain (fun _ _ hA hx hb s => XS.ifNo hA hx rfl (hb ▸ hd) rfl ((if0 cd x).trans (cd_f q)) s) (n q)
theorem Ru.icmp {cd : ClassFile.Cond} {o : Int} {x z : Int32} (hd : DB I.b pc (.if_icmp cd o) 3 o pc1 pc') (y : Cd cd x z → WP G I Q K S h cs sl pc' ls st) (n : Nd cd x z → WP G I Q K S h cs sl pc1 ls st) : WP G I Q K S h cs sl pc ls (.int z :: .int x :: st) := by
  obtain ⟨hd, rfl, ho, hp⟩ := hd
  rcases cd_em cd x z with q | q
  · exact WP.plain (fun _ _ hA hx hb s => XS.icmpYes hA hx rfl rfl (hb ▸ hd) rfl (cd_t q) ho hp s) (y q)
  · exact WP.plain (fun _ _ hA hx hb s => XS.icmpNo hA hx rfl (hb ▸ hd) rfl (cd_f q) s) (n q)
theorem Ru.ifY {cd : ClassFile.Cond} {o : Int} {x : Int32} (hd : DB I.b pc (.ifCond cd o) 3 o pc1 pc') (q : Cd cd x 0) (k' : WP G I Q K S h cs sl pc' ls st) : WP G I Q K S h cs sl pc ls (.int x :: st) := by
  obtain ⟨hd, rfl, ho, hp⟩ := hd
  exact WP.plain (fun _ _ hA hx hb s => XS.ifYes hA hx rfl rfl (hb ▸ hd) rfl ((if0 cd x).trans (cd_t q)) ho hp s) k'
theorem Ru.ifN {cd : ClassFile.Cond} {o : Int} {x : Int32} (hd : DB I.b pc (.ifCond cd o) 3 o pc1 pc') (q : Nd cd x 0) (k' : WP G I Q K S h cs sl pc1 ls st) : WP G I Q K S h cs sl pc ls (.int x :: st) := by
  obtain ⟨hd, rfl, -, -⟩ := hd
  exact WP.plain (fun _ _ hA hx hb s => XS.ifNo hA hx rfl (hb ▸ hd) rfl ((if0 cd x).trans (cd_f q)) s) k'
theorem Ru.icmpY {cd : ClassFile.Cond} {o : Int} {x z : Int32} (hd : DB I.b pc (.if_icmp cd o) 3 o pc1 pc') (q : Cd cd x z) (k' : WP G I Q K S h cs sl pc' ls st) : WP G I Q K S h cs sl pc ls (.int z :: .int x :: st) := by
  obtain ⟨hd, rfl, ho, hp⟩ := hd
  exact WP.plain (fun _ _ hA hx hb s => XS.icmpYes hA hx rfl rfl (hb ▸ hd) rfl (cd_t q) ho hp s) k'
theorem Ru.icmpN {cd : ClassFile.Cond} {o : Int} {x z : Int32} (hd : DB I.b pc (.if_icmp cd o) 3 o pc1 pc') (q : Nd cd x z) (k' : WP G I Q K S h cs sl pc1 ls st) : WP G I Q K S h cs sl pc ls (.int z :: .int x :: st) := by
  obtain ⟨hd, rfl, -, -⟩ := hd
  exact WP.plain (fun _ _ hA hx hb s => XS.icmpNo hA hx rfl (hb ▸ hd) rfl (cd_f q) s) k'
theorem Ru.ifnullY {o : Int} (hd : DB I.b pc (.ifnull o) 3 o pc1 pc') (k' : WP G I Q K S h cs sl pc' ls st) : WP G I Q K S h cs sl pc ls (.null :: st) := by
  obtain ⟨hd, rfl, ho, hp⟩ := hd
  exact WP.plain (fun _ _ hA hx hb s => XS.ifnullYes hA hx rfl rfl (hb ▸ hd) rfl ho hp s) k'
theorem Ru.ifnullN {o : Int} {a : Addr} (hd : DB I.b pc (.ifnull o) 3 o pc1 pc') (k' : WP G I Q K S h cs sl pc1 ls st) : WP G I Q K S h cs sl pc ls (.ref a :: st) := by
  obtain ⟨hd, rfl, -, -⟩ := hd
  exact WP.plain (fun _ _ hA hx hb s => XS.ifnullNo hA hx rfl (hb ▸ hd) rfl s) k'
theorem Ru.ifnonnullY {o : Int} {a : Addr} (hd : DB I.b pc (.ifnonnull o) 3 o pc1 pc') (k' : WP G I Q K S h cs sl pc' ls st) : WP G I Q K S h cs sl pc ls (.ref a :: st) := by
  obtain ⟨hd, rfl, ho, hp⟩ := hd
  exact WP.plain (fun _ _ hA hx hb s => XS.ifnonnullYes hA hx rfl rfl (hb ▸ hd) rfl ho hp s) k'
theorem Ru.ifnonnullN {o : Int} (hd : DB I.b pc (.ifnonnull o) 3 o pc1 pc') (k' : WP G I Q K S h cs sl pc1 ls st) : WP G I Q K S h cs sl pc ls (.null :: st) := by
  obtain ⟨hd, rfl, -, -⟩ := hd
  exact WP.plain (fun _ _ hA hx hb s => XS.ifnonnullNo hA hx rfl (hb ▸ hd) rfl s) k'
theorem Ru.acmpEqY {o : Int} {v w : Value} (hd : DB I.b pc (.if_acmp .eq o) 3 o pc1 pc') (hv : v.isRef = true) (hw : w.isRef = true) (q : v = w) (k' : WP G I Q K S h cs sl pc' ls st) : WP G I Q K S h cs sl pc ls (w :: v :: st) := by
  obtain ⟨hd, rfl, ho, hp⟩ := hd
  exact WP.plain (fun _ _ hA hx hb s => XT.acmpYes hA hx rfl rfl (hb ▸ hd) rfl hv hw (XT.aa_eq_t q) ho hp s) k'
theorem Ru.acmpEqN {o : Int} {v w : Value} (hd : DB I.b pc (.if_acmp .eq o) 3 o pc1 pc') (hv : v.isRef = true) (hw : w.isRef = true) (q : ¬ v = w) (k' : WP G I Q K S h cs sl pc1 ls st) : WP G I Q K S h cs sl pc ls (w :: v :: st) := by
  obtain ⟨hd, rfl, -, -⟩ := hd
  exact WP.plain (fun _ _ hA hx hb s => XT.acmpNo hA hx rfl (hb ▸ hd) rfl hv hw (XT.aa_eq_f q) s) k'
theorem Ru.acmpNeY {o : Int} {v w : Value} (hd : DB I.b pc (.if_acmp .ne o) 3 o pc1 pc') (hv : v.isRef = true) (hw : w.isRef = true) (q : ¬ v = w) (k' : WP G I Q K S h cs sl pc' ls st) : WP G I Q K S h cs sl pc ls (w :: v :: st) := by
  obtain ⟨hd, rfl, ho, hp⟩ := hd
  exact WP.plain (fun _ _ hA hx hb s => XT.acmpYes hA hx rfl rfl (hb ▸ hd) rfl hv hw (XT.aa_ne_t q) ho hp s) k'
theorem Ru.acmpNeN {o : Int} {v w : Value} (hd : DB I.b pc (.if_acmp .ne o) 3 o pc1 pc') (hv : v.isRef = true) (hw : w.isRef = true) (q : v = w) (k' : WP G I Q K S h cs sl pc1 ls st) : WP G I Q K S h cs sl pc ls (w :: v :: st) := by
  obtain ⟨hd, rfl, -, -⟩ := hd
  exact WP.plain (fun _ _ hA hx hb s => XT.acmpNo hA hx rfl (hb ▸ hd) rfl hv hw (XT.aa_ne_f q) s) k'
/-- whoever knows the end of pc tells it so -/
theorem WP.at (q : pc = pc') (k' : WP G I Q K S h cs sl pc' ls st) : WP G I Q K S h cs sl pc ls st := q ▸ k'
/-- another text of what lies on top -/
theorem WP.top {v w : Value} (q : v = w) (k' : WP G I Q K S h cs sl pc ls (w :: st)) : WP G I Q K S h cs sl pc ls (v :: st) := q ▸ k'
theorem WP.topI {x y : Int32} (q : x = y) (k' : WP G I Q K S h cs sl pc ls (.int y :: st)) : WP G I Q K S h cs sl pc ls (.int x :: st) := q ▸ k'
/-- more room counted than taken -/
theorem WP.more {cs' sl' : Nat} (h1 : cs ≤ cs') (h2 : sl ≤ sl') (k' : WP G I Q K S h cs' sl' pc ls st) : WP G I Q K S h cs sl pc ls st := by
  intro ok vm0 k0 T L ⟨X, r⟩
  exact k' ok vm0 k0 T L ⟨X.mono h1 h2, r⟩
/-- fewer cells that may be written -/
theorem WP.fewer {S' : List Addr} (q : ∀ x ∈ S', x ∈ S) (k' : WP G I Q K S' h cs sl pc ls st) : WP G I Q K S h cs sl pc ls st := by
  intro ok vm0 k0 T L ⟨X, hZ, hS, hk, hf, eT, hE, hF, hW, r⟩
  exact k' ok vm0 k0 T L ⟨X, hZ, hS, hk, hf, eT, hE, hF, hW.sub q, r⟩
/-- the start's heap stands in this one -/
theorem WP.old (k' : Ext G.Z.heap h → WP G I Q K S h cs sl pc ls st) : WP G I Q K S h cs sl pc ls st := by
  intro ok vm0 k0 T L Y
  exact k' Y.2.2.2.2.2.2.1 ok vm0 k0 T L Y
/-- what may be written lies above the start -/
theorem WP.new {a : Addr} (ha : a ∈ S) (k' : G.Z.heap.size ≤ a ∧ a < h.size → WP G I Q K S h cs sl pc ls st) : WP G I Q K S h cs sl pc ls st := by
  intro ok vm0 k0 T L Y
  have q := Y.2.2.2.2.2.2.2.2.1 a ha
  exact k' ⟨q.1, q.2.1⟩ ok vm0 k0 T L Y
end Plain
end Jvm.Own
namespace Jvm.Own
open Jvm Jvm.ClassFile Sem Op Lib Jvm.Free Jvm.Stand Jvm.LawKit Jvm.RoadKit Bundle
/-! ### arrays: the list of what they hold -/
def Ary (Z : State) (h : Heap) (a : Addr) (ty : FieldType) (vs : List Value) : Prop := ∃ c : Cell, Arr Z h a c ty ∧ c.slots.toList = vs ∧ vs.length < 2147483648 ∧ ∀ v ∈ vs, fits ty v = true
theorem Ary.lt {Z : State} {h : Heap} {a : Addr} {ty : FieldType} {vs : List Value} (F : Ary Z h a ty vs) : a < h.size := by obtain ⟨c, A, -⟩ := F; exact A.lt
theorem Ary.ext {Z : State} {h h' : Heap} {a : Addr} {ty : FieldType} {vs : List Value} (F : Ary Z h a ty vs) (E : Ext h h') : Ary Z h' a ty vs := by obtain ⟨c, A, r⟩ := F; exact ⟨c, A.ext E, r⟩
theorem Ary.keep {Z : State} {h h' : Heap} {a : Addr} {ty : FieldType} {vs : List Value} {ws : List Addr} (F : Ary Z h a ty vs) (K : Keep h h' ws) (q : a ∉ ws) : Ary Z h' a ty vs := by obtain ⟨c, A, r⟩ := F; exact ⟨c, ⟨K.2.1 a c A.1 q, A.2⟩, r⟩
theorem Ary.set {Z : State} {h h' : Heap} {a : Addr} {ty : FieldType} {vs : List Value} {i : Nat} {v : Value} (F : Ary Z h a ty vs) (W : Wr h h' a i v) (hv : fits ty v = true) : Ary Z h' a ty (vs.set i v) := by
  obtain ⟨c, A, rfl, hl, hf⟩ := F
  refine ⟨_, A.same W, by simp [Cell.setSlot, Array.toList_setIfInBounds], by simpa using hl, fun w hw => ?_⟩
  rcases List.mem_or_eq_of_mem_set hw with q | q
  · exact hf w q
  · rw [q]; exact hv
theorem Ary.new {Z : State} {h : Heap} {a : Addr} {ty : FieldType} {k : ClassId} {n : Int32} (A : Arr Z h a (newA k ty n) ty) (hn : ¬ n < 0) (hd : fits ty (defaultValue ty) = true) : Ary Z h a ty (List.replicate n.toNatClampNeg (defaultValue ty)) :=
  ⟨_, A, by simp [newA], by have := (back32 hn).2; simpa using this, fun v hv => by rw [(List.mem_replicate.mp hv).2]; exact hd⟩
theorem Ary.arv {Z : State} {h : Heap} {a : Addr} {ty : FieldType} {vs : List Value} {dv : Value} {z : Int32} (F : Ary Z h a ty vs) (hz : z.toNatClampNeg = vs.length) (h0 : ¬ z < 0) : ∃ k, Arv Z h a k ty z vs dv := by
  obtain ⟨c, A, rfl, hl, hf⟩ := F
  refine ⟨c.cls, c, A, rfl, by simp [hz], h0, fun i hi => ?_, fun i hi => ?_⟩
  · simp [List.getD, hi]
  · have : (c.slots.toList.getD i dv) = c.slots[i] := by simp [List.getD, hi]
    rw [this]; exact hf _ (by simp)
theorem Arv.ary {Z : State} {h : Heap} {a : Addr} {ty : FieldType} {vs : List Value} {dv : Value} {z : Int32} {k : ClassId} (F : Arv Z h a k ty z vs dv) (hz : z.toNatClampNeg = vs.length) : Ary Z h a ty vs := by
  obtain ⟨c, A, -, hs, h0, H, Fi⟩ := F
  have e : c.slots.toList = vs := by
    apply List.ext_getElem?
    intro i
    by_cases hi : i < c.slots.size
    · have q := H i hi
      have hi' : i < vs.length := by omega
      rw [Array.getElem?_toList, q]; simp [List.getD, hi']
    · have hi' : vs.length ≤ i := by omega
      rw [Array.getElem?_toList]; simp [Nat.le_of_not_lt hi, hi']
  refine ⟨c, A, e, by have := (back32 h0).2; omega, fun v hv => ?_⟩
  obtain ⟨i, hi, rfl⟩ := List.mem_iff_getElem.mp hv
  have := Fi i (by omega)
  simpa [List.getD, hi] using this
theorem Ary.ne {Z : State} {h : Heap} {a b : Addr} {ty ty' : FieldType} {vs ws : List Value} (A : Ary Z h a ty vs) (B : Ary Z h b ty' ws) (q : ty ≠ ty') : a ≠ b := by
  rintro rfl
  obtain ⟨c, ⟨A1, ⟨-, k1, hk1, comp1, e1⟩, -⟩, -⟩ := A
  obtain ⟨c', ⟨B1, ⟨-, k2, hk2, comp2, e2⟩, -⟩, -⟩ := B
  cases A1.symm.trans B1
  cases hk1.symm.trans hk2
  have := e1.symm.trans e2
  injection this with _ e3
  exact q e3
theorem Ary.ne_exa {Z : State} {h : Heap} {a b : Addr} {ty : FieldType} {vs : List Value} {C : String} {n : Nat} {a0 : Array Value} (F : Exa Z h a C) (wi : (Jvm.Cond.instantiable C n).before a0 Z = true) (A : Ary Z h b ty vs) : a ≠ b := by obtain ⟨c, A, -⟩ := A; exact ne_arr F wi A
theorem xlt {Z : State} {h : Heap} {a : Addr} {C : String} (F : Exa Z h a C) : @LT.lt Nat instLTNat a (Array.size h) := F.lt
theorem alt {Z : State} {h : Heap} {a : Addr} {ty : FieldType} {vs : List Value} (F : Ary Z h a ty vs) : @LT.lt Nat instLTNat a (Array.size h) := F.lt
theorem nne {a b : Nat} (q : a < b ∨ b < a) : @Ne Addr a b := q.elim Nat.ne_of_lt Nat.ne_of_gt
theorem keepE {h h' : Heap} (E : Ext h h') : Keep h h' [] := (Keep.refl h []).ext E
theorem kmono {h h' : Heap} {ws ws' : List Addr} (K : Keep h h' ws) (q : ∀ x ∈ ws, x ∈ ws') : Keep h h' ws' := ⟨K.1, fun x c h1 h2 => K.2.1 x c h1 fun h3 => h2 (q x h3), K.2.2⟩
theorem k0 {h h' : Heap} {ws : List Addr} (K : Keep h h' []) : Keep h h' ws := kmono K fun _ q => nomatch q
theorem extK {h h' : Heap} (K : Keep h h' []) : Ext h h' := ⟨K.1, fun x c q => K.2.1 x c q nin0⟩
theorem nref {t : FieldType} {v : Value} (hv : v.isRef = true) : narrow t v = v := by cases v <;> first | rfl | (cases t <;> rfl) | simp [Value.isRef] at hv
/-! ### contracts' ends -/
def Rt (P : Value → Heap → List Addr → Prop) : Po := fun v h S => ∃ x, v = some x ∧ P x h S
def Rv (P : Heap → List Addr → Prop) : Po := fun v h S => v = none ∧ P h S
def npar (d : String) : Option Nat := (parseMethodDescriptor d).map fun s => s.parameters.length
theorem npar_len {d : String} {n : Nat} (q : npar d = some n) {L : List Value} (hl : L.length = n) : ∀ sig, parseMethodDescriptor d = some sig → L.length = sig.parameters.length := fun sig hs => by
  simp only [npar, hs, Option.map_some, Option.some.injEq] at q
  omega
def wt (L : List Value) : Nat := (L.map fun v => v.category).sum
abbrev noMH (y : MethodName) : Prop := y.cls ≠ "java/lang/invoke/MethodHandle" ∧ y.cls ≠ "java/lang/invoke/VarHandle"
section Heaps
variable {G : Wd} {I J : Inf} {Q : Po} {K : Rn} {S S' : List Addr} {h : Heap} {cs sl pc pc1 pc' : Nat} {ls ls' : Array Slot} {st rest : List Value} {a0 : Array Value}
theorem Ru.getfield {idx : Nat} {R0 O n d : String} {a : Addr} {v : Value} (hd : D1 I.b pc (.getfield idx) 3 pc') (w : (Jvm.Cond.fieldLink I.y.cls idx R0 n d).before a0 G.Z = true) (via : Via G.Z R0 O n d) (F : Fld G.Z h a O n d v)
    (k : WP G I Q K S h cs sl pc' ls (v :: st)) : WP G I Q K S h cs sl pc ls (.ref a :: st) := by
  obtain ⟨hd, rfl⟩ := hd
  exact WP.quiet (fun vm0 T L ok X hZ hf eT hE => getF (s := K.s.setVm vm0) (host := "") X ok.1 hZ hf (Or.inl w) via eT F (g := mkF K.m pc ls (.ref a :: st)) rfl rfl (ok.2.1 ▸ hd)) k
theorem Ru.putfield {idx n' : Nat} {R0 O n d C : String} {ty : FieldType} {a : Addr} {v old : Value} (hd : D1 I.b pc (.putfield idx) 3 pc') (w : (Jvm.Cond.fieldLink I.y.cls idx R0 n d).before a0 G.Z = true) (via : Via G.Z R0 O n d) (ha : a ∈ S) (F : Fld G.Z h a O n d old) (E : Exa G.Z h a C)
    (L : (Jvm.Cond.lays C O n d).before a0 G.Z = true ∨ ((Jvm.Cond.laysFinal C O n d).before a0 G.Z = true ∧ I.y.cls = O ∧ I.y.name = "<init>")) (wi : (Jvm.Cond.instantiable C n').before a0 G.Z = true) (hty : parseFieldDescriptor d = some ty) (hn : narrow ty v = v) (hf : fits ty v = true)
    (k : ∀ h', Wr h h' a (Jvm.RoadKit.slotOf G.Z O n d) v → WP G I Q K S h' cs sl pc' ls st) : WP G I Q K S h cs sl pc ls (v :: .ref a :: st) := by
  obtain ⟨hd, rfl⟩ := hd
  exact WP.write ha (fun vm0 T Ls ok X hZ hf' eT => putF (s := K.s.setVm vm0) (host := "") X ok.1 hZ hf' (Or.inl w) via eT F E (L.imp id fun q => ⟨q.1, q.2.1, ok.2.2.2.2.2.1.1.trans q.2.2⟩) wi hty hn hf (g := mkF K.m pc ls (v :: .ref a :: st)) rfl rfl (ok.2.1 ▸ hd)) k
theorem Ru.getstatic {idx : Nat} {C n d : String} {v : Value} (hd : D1 I.b pc (.getstatic idx) 3 pc') (w : (Jvm.Cond.fieldLink I.y.cls idx C n d).before a0 G.Z = true) (F : Sta G.Z G.Z.heap C n d v)
    (k : WP G I Q K S h cs sl pc' ls (v :: st)) : WP G I Q K S h cs sl pc ls st := by
  obtain ⟨hd, rfl⟩ := hd
  exact WP.quiet (fun vm0 T L ok X hZ hf eT hE => getS (s := K.s.setVm vm0) (host := "") X ok.1 hZ hf w Via.refl eT (F.ext hE) (g := mkF K.m pc ls st) rfl (ok.2.1 ▸ hd)) k
theorem Ru.checkcast {idx : Nat} {C : String} {a : Addr} (hd : D1 I.b pc (.checkcast idx) 3 pc') (w : (Jvm.Cond.classLink I.y.cls idx C).before a0 G.Z = true) (F : Ins G.Z h a C true)
    (k : WP G I Q K S h cs sl pc' ls (.ref a :: st)) : WP G I Q K S h cs sl pc ls (.ref a :: st) := by
  obtain ⟨hd, rfl⟩ := hd
  exact WP.quiet (fun vm0 T L ok X hZ hf eT hE => castY (s := K.s.setVm vm0) X ok.1 hZ hf w eT F (g := mkF K.m pc ls (.ref a :: st)) rfl rfl (ok.2.1 ▸ hd)) k
theorem Ru.instanceofY {idx : Nat} {C : String} {a : Addr} (hd : D1 I.b pc (.instanceof idx) 3 pc') (w : (Jvm.Cond.classLink I.y.cls idx C).before a0 G.Z = true) (F : Ins G.Z h a C true)
    (k : WP G I Q K S h cs sl pc' ls (.int 1 :: st)) : WP G I Q K S h cs sl pc ls (.ref a :: st) := by
  obtain ⟨hd, rfl⟩ := hd
  exact WP.quiet (fun vm0 T L ok X hZ hf eT hE => instY (s := K.s.setVm vm0) X ok.1 hZ hf w eT F (g := mkF K.m pc ls (.ref a :: st)) rfl rfl (ok.2.1 ▸ hd)) k
theorem Ru.new {idx n : Nat} {C : String} (hd : D1 I.b pc (.new idx) 3 pc') (w : (Jvm.Cond.classLink I.y.cls idx C).before a0 G.Z = true) (wi : (Jvm.Cond.instantiable C n).before a0 G.Z = true) (wz : (Jvm.Cond.initialized C).before a0 G.Z = true) (hc : cs + 1 ≤ I.R.cells) (hl : sl + n ≤ I.R.slots)
    (k : ∀ h' a, h.size = a → Ext h h' → Exa G.Z h' a C → (∀ {O nm d : String} {ty : FieldType}, Laid G.Z a0 C O nm d → parseFieldDescriptor d = some ty → Fld G.Z h' a O nm d (defaultValue ty)) → WP G I Q K (a :: S) h' (cs + 1) (sl + n) pc' ls (.ref a :: st)) : WP G I Q K S h cs sl pc ls st := by
  obtain ⟨hd, rfl⟩ := hd
  exact WP.alloc (fun vm0 T L ok X hZ hf eT => by
    obtain ⟨T', h', X', e', E, Ex, D, -, stp⟩ := newO (s := K.s.setVm vm0) X ok.1 hZ hf w wi wz eT (g := mkF K.m pc ls st) rfl (ok.2.1 ▸ hd) hc hl
    exact ⟨T', h', X', e', E, Ex.lt, ⟨Ex, fun {O nm d ty} q1 q2 => D (O := O) (nm := nm) (d := d) (ty := ty) q1 q2⟩, stp⟩) (P := fun h' => Exa G.Z h' h.size C ∧ ∀ {O nm d : String} {ty : FieldType}, Laid G.Z a0 C O nm d → parseFieldDescriptor d = some ty → Fld G.Z h' h.size O nm d (defaultValue ty)) fun h' E q => k h' _ rfl E q.1 q.2
theorem Ru.newarray {aty : ArrayType} {n : Int32} {cap : Nat} {ty : FieldType} (hd : D1 I.b pc (.newarray aty) 2 pc') (hty : newarray.typeOf aty = ty) (w : (Jvm.Cond.arrayClass ty).before a0 G.Z = true) (hdf : fits ty (defaultValue ty) = true) (hn : ¬ n < 0) (hcap : n.toNatClampNeg ≤ cap) (hb : cap * 8 ≤ 536870912) (hc : cs + 1 ≤ I.R.cells) (hl : sl + cap ≤ I.R.slots)
    (k : ∀ h' a, h.size = a → Ext h h' → Ary G.Z h' a ty (List.replicate n.toNatClampNeg (defaultValue ty)) → WP G I Q K (a :: S) h' (cs + 1) (sl + cap) pc' ls (.ref a :: st)) : WP G I Q K S h cs sl pc ls (.int n :: st) := by
  obtain ⟨hd, rfl⟩ := hd
  subst hty
  exact WP.alloc (fun vm0 T L ok X hZ hf eT => by
    obtain ⟨T', h', cA, X', e', E, A, stp⟩ := newP (s := K.s.setVm vm0) X ok.1 hZ w eT (g := mkF K.m pc ls (.int n :: st)) rfl (ok.2.1 ▸ hd) rfl hn hcap hb hc hl
    exact ⟨T', h', X', e', E, A.lt, Ary.new A hn hdf, stp⟩) fun h' E q => k h' _ rfl E q
theorem ary_in {Z : State} {h : Heap} {a : Addr} {ty : FieldType} {vs : List Value} {j : Int32} {v : Value} (A : Ary Z h a ty vs) (hj : ¬ j < 0) (hv : vs[j.toNatClampNeg]? = some v) : ∃ c : Cell, Arr Z h a c ty ∧ ¬ (j < 0 ∨ c.slots.size ≤ j.toNatClampNeg) ∧ c.slots[j.toNatClampNeg]? = some v := by
  obtain ⟨c, A, rfl, hl, hf⟩ := A
  rw [Array.getElem?_toList] at hv
  refine ⟨c, A, fun q => ?_, hv⟩
  rcases q with q | q
  · exact hj q
  · rw [Array.getElem?_eq_none q] at hv; cases hv
theorem Ru.arraylength {a : Addr} {ty : FieldType} {vs : List Value} {n : Int32} (hd : D1 I.b pc (.arraylength) 1 pc') (A : Ary G.Z h a ty vs) (hn : vs.length.toInt32 = n)
    (k : WP G I Q K S h cs sl pc' ls (.int n :: st)) : WP G I Q K S h cs sl pc ls (.ref a :: st) := by
  obtain ⟨hd, rfl⟩ := hd
  obtain ⟨c, A, e, -⟩ := A
  have e2 : c.slots.size.toInt32 = n := by rw [← hn, ← e]; simp
  subst e2
  exact WP.quiet (fun vm0 T L ok X hZ hf eT hE => ⟨T, X, eT, fun target s => X.arraylength ok.1 (by rw [eT]; exact A.1) (State.isArrayOf_alike (T := K.s.setVm vm0) hZ.alike A.2.1) (g := mkF K.m pc ls (.ref a :: st)) rfl rfl (ok.2.1 ▸ hd) target s⟩) k
theorem Ru.caload {a : Addr} {vs : List Value} {j : Int32} {v : Value} (hd : D1 I.b pc (.caload) 1 pc') (A : Ary G.Z h a .char vs) (hj : ¬ j < 0) (hv : vs[j.toNatClampNeg]? = some v)
    (k : WP G I Q K S h cs sl pc' ls (v :: st)) : WP G I Q K S h cs sl pc ls (.int j :: .ref a :: st) := by
  obtain ⟨hd, rfl⟩ := hd
  obtain ⟨c, A, q1, q2⟩ := ary_in A hj hv
  exact WP.quiet (fun vm0 T L ok X hZ hf eT hE => ⟨T, X, eT, fun target s => X.caload ok.1 (by rw [eT]; exact A.1) (State.isArrayOf_alike (T := K.s.setVm vm0) hZ.alike A.2.1) A.2.2 q1 q2 (g := mkF K.m pc ls (.int j :: .ref a :: st)) rfl rfl (ok.2.1 ▸ hd) target s⟩) k
theorem Ru.iaload {a : Addr} {vs : List Value} {j : Int32} {v : Value} (hd : D1 I.b pc (.iaload) 1 pc') (A : Ary G.Z h a .int vs) (hj : ¬ j < 0) (hv : vs[j.toNatClampNeg]? = some v)
    (k : WP G I Q K S h cs sl pc' ls (v :: st)) : WP G I Q K S h cs sl pc ls (.int j :: .ref a :: st) := by
  obtain ⟨hd, rfl⟩ := hd
  obtain ⟨c, A, q1, q2⟩ := ary_in A hj hv
  exact WP.quiet (fun vm0 T L ok X hZ hf eT hE => ⟨T, X, eT, fun target s => X.iaload ok.1 (by rw [eT]; exact A.1) (State.isArrayOf_alike (T := K.s.setVm vm0) hZ.alike A.2.1) A.2.2 q1 q2 (g := mkF K.m pc ls (.int j :: .ref a :: st)) rfl rfl (ok.2.1 ▸ hd) target s⟩) k
theorem Ru.baload {a : Addr} {vs : List Value} {j : Int32} {v : Value} (hd : D1 I.b pc (.baload) 1 pc') (A : Ary G.Z h a .byte vs) (hj : ¬ j < 0) (hv : vs[j.toNatClampNeg]? = some v)
    (k : WP G I Q K S h cs sl pc' ls (v :: st)) : WP G I Q K S h cs sl pc ls (.int j :: .ref a :: st) := by
  obtain ⟨hd, rfl⟩ := hd
  obtain ⟨c, A, q1, q2⟩ := ary_in A hj hv
  exact WP.quiet (fun vm0 T L ok X hZ hf eT hE => ⟨T, X, eT, fun target s => X.baloadBytes ok.1 (by rw [eT]; exact A.1) (State.isArrayOf_alike (T := K.s.setVm vm0) hZ.alike A.2.1) A.2.2 q1 q2 (g := mkF K.m pc ls (.int j :: .ref a :: st)) rfl rfl (ok.2.1 ▸ hd) target s⟩) k
theorem Ru.aaload {a : Addr} {ty : FieldType} {vs : List Value} {j : Int32} {v : Value} (hd : D1 I.b pc (.aaload) 1 pc') (A : Ary G.Z h a ty vs) (hty : ty.isReference = true) (hj : ¬ j < 0) (hv : vs[j.toNatClampNeg]? = some v)
    (k : WP G I Q K S h cs sl pc' ls (v :: st)) : WP G I Q K S h cs sl pc ls (.int j :: .ref a :: st) := by
  obtain ⟨hd, rfl⟩ := hd
  obtain ⟨c, A, q1, q2⟩ := ary_in A hj hv
  exact WP.quiet (fun vm0 T L ok X hZ hf eT hE => ⟨T, X, eT, fun target s => X.aaload ok.1 (by rw [eT]; exact A.1) (State.isArrayOf_alike (T := K.s.setVm vm0) hZ.alike A.2.1) hty A.2.2 q1 q2 (g := mkF K.m pc ls (.int j :: .ref a :: st)) rfl rfl (ok.2.1 ▸ hd) target s⟩) k
theorem ary_at {Z : State} {h : Heap} {a : Addr} {ty : FieldType} {vs : List Value} {j : Int32} (A : Ary Z h a ty vs) (hj : ¬ j < 0) (hl : j.toNatClampNeg < vs.length) : ∃ c : Cell, Arr Z h a c ty ∧ ¬ (j < 0 ∨ c.slots.size ≤ j.toNatClampNeg) := by
  obtain ⟨c, A1, q1, -⟩ := ary_in A hj (List.getElem?_eq_getElem hl)
  exact ⟨c, A1, q1⟩
theorem Ru.castore {a : Addr} {vs : List Value} {j x x' : Int32} (hd : D1 I.b pc (.castore) 1 pc') (ha : a ∈ S) (A : Ary G.Z h a .char vs) (hj : ¬ j < 0) (hl : j.toNatClampNeg < vs.length) (hx : nar .char x = x')
    (k : ∀ h', Keep h h' [a] → Ary G.Z h' a .char (vs.set j.toNatClampNeg (.int x')) → WP G I Q K S h' cs sl pc' ls st) : WP G I Q K S h cs sl pc ls (.int x :: .int j :: .ref a :: st) := by
  obtain ⟨hd, rfl⟩ := hd
  subst hx
  obtain ⟨c, A1, q1⟩ := ary_at A hj hl
  exact WP.write ha (fun vm0 T L ok X hZ hf eT => stC (s := K.s.setVm vm0) X ok.1 hZ eT A1 q1 (g := mkF K.m pc ls (.int x :: .int j :: .ref a :: st)) rfl rfl (ok.2.1 ▸ hd)) fun h' W => k h' (Keep.of_wr W) (A.set W (fits_nar_char x))
theorem Ru.bastore {a : Addr} {vs : List Value} {j x : Int32} (hd : D1 I.b pc (.bastore) 1 pc') (ha : a ∈ S) (A : Ary G.Z h a .byte vs) (hj : ¬ j < 0) (hl : j.toNatClampNeg < vs.length)
    (k : ∀ h', Keep h h' [a] → Ary G.Z h' a .byte (vs.set j.toNatClampNeg (.int x.toInt8.toInt32)) → WP G I Q K S h' cs sl pc' ls st) : WP G I Q K S h cs sl pc ls (.int x :: .int j :: .ref a :: st) := by
  obtain ⟨hd, rfl⟩ := hd
  obtain ⟨c, A1, q1⟩ := ary_at A hj hl
  exact WP.write ha (fun vm0 T L ok X hZ hf eT => stB (s := K.s.setVm vm0) X ok.1 hZ eT A1 q1 (g := mkF K.m pc ls (.int x :: .int j :: .ref a :: st)) rfl rfl (ok.2.1 ▸ hd)) fun h' W => k h' (Keep.of_wr W) (A.set W (fits_nar_byte x))
theorem Ru.iastore {a : Addr} {vs : List Value} {j x : Int32} (hd : D1 I.b pc (.iastore) 1 pc') (ha : a ∈ S) (A : Ary G.Z h a .int vs) (hj : ¬ j < 0) (hl : j.toNatClampNeg < vs.length)
    (k : ∀ h', Keep h h' [a] → Ary G.Z h' a .int (vs.set j.toNatClampNeg (.int x)) → WP G I Q K S h' cs sl pc' ls st) : WP G I Q K S h cs sl pc ls (.int x :: .int j :: .ref a :: st) := by
  obtain ⟨hd, rfl⟩ := hd
  obtain ⟨c, A1, q1⟩ := ary_at A hj hl
  exact WP.write ha (fun vm0 T L ok X hZ hf eT => stI (s := K.s.setVm vm0) X ok.1 hZ eT A1 q1 (g := mkF K.m pc ls (.int x :: .int j :: .ref a :: st)) rfl rfl (ok.2.1 ▸ hd)) fun h' W => k h' (Keep.of_wr W) (A.set W rfl)
theorem Ru.ldcInt {idx : Nat} {x : Int32} (hd : D1 I.b pc (.ldc idx) 2 pc') (w : (Jvm.Cond.constant I.y.cls idx x).before a0 G.Z = true)
    (k : WP G I Q K S h cs sl pc' ls (.int x :: st)) : WP G I Q K S h cs sl pc ls st := by
  obtain ⟨hd, rfl⟩ := hd
  exact WP.quiet (fun vm0 T L ok X hZ hf eT hE => ⟨T, X, eT, fun target s => X.ldcInt ok.1 hf (mvT (s := K.s.setVm vm0) hZ w) (g := mkF K.m pc ls st) rfl (ok.2.1 ▸ hd) target s⟩) k
theorem Ru.ldc2Long {idx : Nat} {x : Int64} (hd : D1 I.b pc (.ldc2_w idx) 3 pc') (w : (Jvm.Cond.constantLong I.y.cls idx x).before a0 G.Z = true)
    (k : WP G I Q K S h cs sl pc' ls (.long x :: st)) : WP G I Q K S h cs sl pc ls st := by
  obtain ⟨hd, rfl⟩ := hd
  exact WP.quiet (fun vm0 T L ok X hZ hf eT hE => ⟨T, X, eT, fun target s => X.ldc2Long ok.1 hf (mvT (s := K.s.setVm vm0) hZ w) (g := mkF K.m pc ls st) rfl (ok.2.1 ▸ hd) target s⟩) k
/-- a String constant of the list, its text read -/
theorem Ru.ldcStr {idx n : Nat} {text : String} {vs : List Value} (hnar : G.nar = false) (hd : D1 I.b pc (.ldc idx) 2 pc') (hm : (I.y.cls, idx) ∈ G.E) (w : (Jvm.Cond.stringLink I.y.cls idx text).before a0 G.Z = true) (wS : ∀ a ∈ Bundle.stringAtoms, a.before a0 G.Z = true)
    (ht : (∀ c ∈ text.toList, c.toNat < 256) ∧ text.toList.map (fun c => Value.int (Jvm.Lit.byteI c.toNat.toUInt16)) = vs) (hlen : vs.length < 134217728) (hn : 4 * text.toList.length ≤ n) (hbig : n ≤ 536870912) (hc : cs + 2 ≤ I.R.cells) (hl : sl + (n + 4) ≤ I.R.slots)
    (k : ∀ h' a b, Ext h h' → Exa G.Z h' a "java/lang/String" → Fld G.Z h' a "java/lang/String" "coder" "B" (.int 0) → Fld G.Z h' a "java/lang/String" "value" "[B" (.ref b) → Ary G.Z h' b .byte vs → (∀ x ∈ S, x ≠ a ∧ x ≠ b) → WP G I Q K S h' (cs + 2) (sl + (n + 4)) pc' ls (.ref a :: st)) (hrs : I.rs = [] := by rfl) : WP G I Q K S h cs sl pc ls st := by
  obtain ⟨hd, rfl⟩ := hd
  intro ok vm0 k0 T L ⟨X, hZ, hS, hk, hf, eT, hE, hF, hW, hC, hN, hRs⟩
  obtain ⟨a1, hEL⟩ := ok.2.2.2.2.2.2
  have z1 : ¬ (vs.length.toInt32) < 0 ∧ vs.length.toInt32.toNatClampNeg = vs.length := by
    have e : (vs.length.toInt32).toInt = vs.length := by
      rw [show vs.length.toInt32 = Int32.ofNat vs.length from rfl, Int32.toInt_ofNat_of_lt (by omega)]
    refine ⟨by rw [Int32.lt_iff_toInt_lt, e]; simp, ?_⟩
    rw [Int32.toNatClampNeg, e]; simp
  obtain ⟨a, T', h', k1, b, kk, X', e', E, hS', hk', hZ', hf', x1, x2, x3, x4, x5, x6, hC', -, hsf, stp⟩ := ldcCH (a0 := a0) X ok.1 hZ hf w wS eT hS hk (fun p hp => by obtain ⟨t, q1, q2⟩ := hEL p hp; exact ⟨t, by simpa [Jvm.Cond.before, Jvm.Cond.holds, Jvm.Cond.value] using q1, q2⟩) hm hC.1 ht z1.1 z1.2 (g := mkF K.m pc ls st) rfl (ok.2.1 ▸ hd) hn hbig hc hl
  obtain ⟨t, o, st1, r⟩ := k h' a b E x1 x2 x3 (Arv.ary x4 z1.2) (fun x hx => hsf x (hC'.safe (hW x hx).2.1 (hW x hx).2.2)) ok T'.vm k1 T' L ⟨X', hZ', hS', hk', hf', e', ⟨Nat.le_trans hE.1 E.1, fun x c q => E.2 x c (hE.2 x c q)⟩, hF, hW.on hC', hC.trans hC', (fun q => by rw [hnar] at q; cases q), by rw [hrs]; exact fun _ q => nomatch q⟩
  exact ⟨t, o, stp _ st1, r⟩
/-- a String constant, unread -/
theorem Ru.ldcO {idx n : Nat} {text : String} (hnar : G.nar = false) (hd : D1 I.b pc (.ldc idx) 2 pc') (w : (Jvm.Cond.stringLink I.y.cls idx text).before a0 G.Z = true) (wS : ∀ a ∈ Bundle.stringAtoms, a.before a0 G.Z = true)
    (hn : 4 * text.toList.length ≤ n) (hbig : n ≤ 536870912) (hc : cs + 2 ≤ I.R.cells) (hl : sl + (n + 4) ≤ I.R.slots)
    (k : ∀ h' a, Ext h h' → WP G I Q K S h' (cs + 2) (sl + (n + 4)) pc' ls (.ref a :: st)) (hrs : I.rs = [] := by rfl) : WP G I Q K S h cs sl pc ls st := by
  obtain ⟨hd, rfl⟩ := hd
  intro ok vm0 k0 T L ⟨X, hZ, hS, hk, hf, eT, hE, hF, hW, hC, hN, hRs⟩
  obtain ⟨a1, hEL⟩ := ok.2.2.2.2.2.2
  obtain ⟨a2, hEL2⟩ : ∃ a2, EW G.Z a2 G.E := ⟨a1, hEL⟩
  obtain ⟨a, T', h', k1, X', e', E, hS', hk', hZ', hf', hC', -, stp⟩ := ldcOH (a0 := a0) X ok.1 hZ hf w wS eT hS hk (fun p hp => by obtain ⟨t, q1, q2⟩ := hEL p hp; exact ⟨t, by simpa [Jvm.Cond.before, Jvm.Cond.holds, Jvm.Cond.value] using q1, q2⟩) hC.1 (g := mkF K.m pc ls st) rfl (ok.2.1 ▸ hd) hn hbig hc hl
  obtain ⟨t, o, st1, r⟩ := k h' a E ok T'.vm k1 T' L ⟨X', hZ', hS', hk', hf', e', ⟨Nat.le_trans hE.1 E.1, fun x c q => E.2 x c (hE.2 x c q)⟩, hF, hW.on hC', hC.trans hC', (fun q => by rw [hnar] at q; cases q), by rw [hrs]; exact fun _ q => nomatch q⟩
  exact ⟨t, o, stp _ st1, r⟩
/-- Object's constructor -/
theorem Ru.initO {idx : Nat} {a : Addr} (hd : D1 I.b pc (.invokespecial idx) 3 pc') (w1 : (Jvm.Cond.methodLink I.y.cls idx Lib.objectInit).before a0 G.Z = true) (w2 : (Jvm.Cond.instanceMethod Lib.objectInit).before a0 G.Z = true) (w3 : (Jvm.Cond.code Lib.objectInit ⟨#[0xb1]⟩ 1 none).before a0 G.Z = true)
    (hs : ls.size = I.n) (hf : 1 ≤ I.R.frames) (hl : wt st + 12 ≤ I.R.locals) (k : WP G I Q K S h cs sl pc' ls st) : WP G I Q K S h cs sl pc ls (.ref a :: st) := by
  obtain ⟨hd, rfl⟩ := hd
  exact WP.quiet (fun vm0 T L ok X hZ hf' eT hE => RoadKit.initO (s := K.s.setVm vm0) X ok.1 hZ hf' w1 w2 w3 eT (g := mkF K.m pc ls (.ref a :: st)) rfl (hs.trans ok.2.2.1.symm) rfl (ok.2.1 ▸ hd) hf (W := wt st) (by show 2 * 0 + _ ≤ _; exact Nat.le_of_eq (Nat.zero_add _)) hl) k
/-! returns -/
theorem Ru.out {v : Option Value} (hv : I.r = none → v = none) (hs : ∀ x ∈ S', x ∈ S) (hc : cs ≤ I.R.cells) (hl : sl ≤ I.R.slots) (hq : Q v h S') (hro : ∀ p ∈ I.ro, p ∈ I.rs)
    (hst : ∀ vm0 T L, Ok G I K → Stand K.p G.l K.e I.R (K.s.setVm vm0) K.m K.args K.below K.meth K.c T L cs sl → ∀ fs, (∀ (f : JFrame) (acts : List Action), f.method = K.m → f.locked = none → f.entered = [] → (doReturn K.e (T.setTop f) acts v).1 = T.setFrames fs) → Steps K.p.tables K.e K.below (T.setTop (mkF K.m pc ls st)) (T.setFrames fs)) : WP G I Q K S h cs sl pc ls st := by
  intro ok vm0 k0 T L ⟨X, hZ, hS, hk, hf, eT, hE, hF, hW, hC, hN, hRs⟩
  obtain ⟨fs, hr, h1, h2, h3⟩ := X.leaveW hS (by rw [eT]; exact hk) (v := v) (fun q => hv (ok.2.2.2.1.symm.trans q)) ok.2.2.2.2.1
  have hT : (T.setFrames fs).heap = h := eT
  have hvm : (T.setFrames fs).vm = T.vm := rfl
  obtain ⟨a1, hEL⟩ := ok.2.2.2.2.2.2
  have C2 : CHr G.Z G.E vm0 h T.vm h := CHv.at X hZ hEL hC.1
  refine ⟨_, _, hst vm0 T L ok X fs hr, h1, h2, v, L, rfl, ⟨⟨S', by rw [hT]; exact hq, by rw [hT, hvm]; exact (hW.on C2).sub hs⟩, hF, by rw [hT]; exact hE, fun p q => by rw [hvm]; exact Rsv.on (s := K.s.setVm vm0) X.warmed.wide (hRs p (hro p q))⟩, by rw [hT, hvm]; exact hC.trans C2, ?_, fun hn => State.WarmedH.trans (t := K.s.setVm vm0) (hN hn) X.warmed⟩
  exact ⟨h3.1, h3.2.1, h3.2.2.1, h3.2.2.2.mono hc hl⟩
theorem Ru.ret (hd : D1 I.b pc (.return_) 1 pc') (hr : I.r = none) (S' : List Addr) (hs : ∀ x ∈ S', x ∈ S) (hc : cs ≤ I.R.cells) (hl : sl ≤ I.R.slots) (hq : Q none h S') (hro : ∀ p ∈ I.ro, p ∈ I.rs := by first | exact nilmem | exact (fun _ q => q) | simp) : WP G I Q K S h cs sl pc ls [] :=
  Ru.out (fun _ => rfl) hs hc hl hq hro fun vm0 T L ok X fs hf => X.returnOut ok.1 (ok.2.2.2.1.trans hr) (ok.2.1 ▸ hd.1) hf
theorem Ru.ireturn {x : Int32} (hd : D1 I.b pc (.ireturn) 1 pc') (hr : I.r = some .int) (S' : List Addr) (hs : ∀ x ∈ S', x ∈ S) (hc : cs ≤ I.R.cells) (hl : sl ≤ I.R.slots) (hq : Q (some (.int x)) h S') (hro : ∀ p ∈ I.ro, p ∈ I.rs := by first | exact nilmem | exact (fun _ q => q) | simp) : WP G I Q K S h cs sl pc ls (.int x :: st) :=
  Ru.out (fun q => by rw [hr] at q; cases q) hs hc hl hq hro fun vm0 T L ok X fs hf => retOut X ok.1 (t := .int) (i := .ireturn) (ok.2.2.2.1.trans hr) rfl (Or.inl ⟨rfl, Or.inl rfl, x, rfl⟩) (ok.2.1 ▸ hd.1) hf
theorem Ru.ireturnN {x x' : Int32} {t : FieldType} (hd : D1 I.b pc (.ireturn) 1 pc') (hr : I.r = some t) (ht : t = .boolean ∨ t = .byte ∨ t = .char ∨ t = .short) (hx : nar t x = x') (S' : List Addr) (hs : ∀ x ∈ S', x ∈ S) (hc : cs ≤ I.R.cells) (hl : sl ≤ I.R.slots) (hq : Q (some (.int x')) h S') (hro : ∀ p ∈ I.ro, p ∈ I.rs := by first | exact nilmem | exact (fun _ q => q) | simp) : WP G I Q K S h cs sl pc ls (.int x :: st) := by
  subst hx
  exact Ru.out (fun q => by rw [hr] at q; cases q) hs hc hl hq hro fun vm0 T L ok X fs hf => retN X ok.1 (t := t) (ok.2.2.2.1.trans hr) ht (ok.2.1 ▸ hd.1) hf
theorem Ru.lreturn {x : Int64} (hd : D1 I.b pc (.lreturn) 1 pc') (hr : I.r = some .long) (S' : List Addr) (hs : ∀ x ∈ S', x ∈ S) (hc : cs ≤ I.R.cells) (hl : sl ≤ I.R.slots) (hq : Q (some (.long x)) h S') (hro : ∀ p ∈ I.ro, p ∈ I.rs := by first | exact nilmem | exact (fun _ q => q) | simp) : WP G I Q K S h cs sl pc ls (.long x :: st) :=
  Ru.out (fun q => by rw [hr] at q; cases q) hs hc hl hq hro fun vm0 T L ok X fs hf => retOut X ok.1 (t := .long) (i := .lreturn) (ok.2.2.2.1.trans hr) rfl (Or.inr (Or.inl ⟨rfl, rfl, x, rfl⟩)) (ok.2.1 ▸ hd.1) hf
theorem Ru.areturn {v : Value} {t : FieldType} (hd : D1 I.b pc (.areturn) 1 pc') (hr : I.r = some t) (ht : t.isReference = true) (hv : v.isRef = true) (hn : narrow t v = v) (S' : List Addr) (hs : ∀ x ∈ S', x ∈ S) (hc : cs ≤ I.R.cells) (hl : sl ≤ I.R.slots) (hq : Q (some v) h S') (hro : ∀ p ∈ I.ro, p ∈ I.rs := by first | exact nilmem | exact (fun _ q => q) | simp) : WP G I Q K S h cs sl pc ls (v :: st) :=
  Ru.out (fun q => by rw [hr] at q; cases q) hs hc hl hq hro fun vm0 T L ok X fs hf => retOut X ok.1 (t := t) (i := .areturn) (ok.2.2.2.1.trans hr) hn (Or.inr (Or.inr (Or.inr (Or.inr ⟨rfl, ht, hv⟩)))) (ok.2.1 ▸ hd.1) hf
/-! calls -/
theorem Ru.callS0 {as' : Array Value} {idx : Nat} {argsL : List Value} {Q' : Po} (M : Met G J as' h S' Q') (hd : D1 I.b pc (.invokestatic idx) 3 pc') (w1 : (Jvm.Cond.methodLink I.y.cls idx J.y).before a0 G.Z = true) (w2 : (Jvm.Cond.static J.y).before a0 G.Z = true) (w3 : (Jvm.Cond.initialized J.y.cls).before a0 G.Z = true) (w4 : (Jvm.Cond.code J.y J.b J.n J.r).before a0 G.Z = true)
    (hy : noMH J.y) (hnp : npar J.y.desc = some argsL.length) (hs : ls.size = I.n) (ha : as' = argsL.toArray) (hst : st = argsL.reverse ++ rest) (hS' : ∀ x ∈ S', x ∈ S) (hf : J.R.frames + 1 ≤ I.R.frames) (hl : wt rest + (J.n + 11) + J.R.locals ≤ I.R.locals) (hc : cs + J.R.cells ≤ I.R.cells) (hsl : sl + J.R.slots ≤ I.R.slots)
    (k : ∀ v h' S2, Q' v h' S2 → WP G I Q K (S2 ++ S) h' (cs + J.R.cells) (sl + J.R.slots) pc' ls (v.toList ++ rest)) (hJo : J.ro = [] := by rfl) (hJs : ∀ p ∈ J.rs, p ∈ I.rs := by first | exact nilmem | exact (fun _ q => q) | simp) : WP G I Q K S h cs sl pc ls st := by
  obtain ⟨hd, rfl⟩ := hd
  subst ha hst
  refine WP.came M w4 w3 hS' hJo hJs (W := wt rest) (len := 3) hf hl (rest := rest) (pc' := pc + 3) ?_ k
  intro vm0 T L ok X hZ hf' eT Post hB
  obtain ⟨v, vm₁, B, -, X', h1, h2, h3, h4⟩ := callSS (s := K.s.setVm vm0) X ok.1 hf' (mvT (s := K.s.setVm vm0) hZ w1) (mvT (s := K.s.setVm vm0) hZ w2) (mvT (s := K.s.setVm vm0) hZ w3) (mvT (s := K.s.setVm vm0) hZ w4) hy hB (g := mkF K.m pc ls (argsL.reverse ++ rest)) rfl (hs.trans ok.2.2.1.symm) (argsL := argsL) (rest := rest) (npar_len hnp rfl) rfl (by show 2 * 0 + _ ≤ _; exact Nat.le_of_eq (Nat.zero_add _)) (ok.2.1 ▸ hd) (fun _ _ => ⟨rfl, eT, hc, hsl⟩)
  exact ⟨v, vm₁, B, X', h1, h2, h3, h4⟩
theorem Ru.callI0 {as' : Array Value} {idx : Nat} {argsL : List Value} {a : Addr} {Q' : Po} (M : Met G J as' h S' Q') (hd : D1 I.b pc (.invokespecial idx) 3 pc') (hr : J.r = none) (hn : J.y.name = "<init>") (w1 : (Jvm.Cond.methodLink I.y.cls idx J.y).before a0 G.Z = true) (w2 : (Jvm.Cond.instanceMethod J.y).before a0 G.Z = true) (w3 : (Jvm.Cond.initialized J.y.cls).before a0 G.Z = true) (w4 : (Jvm.Cond.code J.y J.b J.n J.r).before a0 G.Z = true)
    (hy : noMH J.y) (hnp : npar J.y.desc = some argsL.length) (hs : ls.size = I.n) (ha : as' = (.ref a :: argsL).toArray) (hst : st = argsL.reverse ++ .ref a :: rest) (hS' : ∀ x ∈ S', x ∈ S) (hf : J.R.frames + 1 ≤ I.R.frames) (hl : wt rest + (J.n + 11) + J.R.locals ≤ I.R.locals) (hc : cs + J.R.cells ≤ I.R.cells) (hsl : sl + J.R.slots ≤ I.R.slots)
    (k : ∀ v h' S2, Q' v h' S2 → WP G I Q K (S2 ++ S) h' (cs + J.R.cells) (sl + J.R.slots) pc' ls (v.toList ++ rest)) (hJo : J.ro = [] := by rfl) (hJs : ∀ p ∈ J.rs, p ∈ I.rs := by first | exact nilmem | exact (fun _ q => q) | simp) : WP G I Q K S h cs sl pc ls st := by
  obtain ⟨hd, rfl⟩ := hd
  subst ha hst
  refine WP.came M w4 w3 hS' hJo hJs (W := wt rest) (len := 3) hf hl (rest := rest) (pc' := pc + 3) ?_ k
  intro vm0 T L ok X hZ hf' eT Post hB
  rw [hr] at w4
  obtain ⟨v, vm₁, B, -, X', h1, h2, h3, h4⟩ := X.specialBackS ok.1 hn hf' (mvT (s := K.s.setVm vm0) hZ w1) (mvT (s := K.s.setVm vm0) hZ w2) (mvT (s := K.s.setVm vm0) hZ w4) hy hB (g := mkF K.m pc ls (argsL.reverse ++ .ref a :: rest)) rfl (hs.trans ok.2.2.1.symm) (Steps.refl _) (a := a) (argsL := argsL) (rest := rest) (npar_len hnp rfl) rfl (by show 2 * 0 + _ ≤ _; exact Nat.le_of_eq (Nat.zero_add _)) (ok.2.1 ▸ hd) (fun _ _ => ⟨rfl, eT, hc, hsl⟩)
  exact ⟨v, vm₁, B, X', h1, h2, h3, h4⟩
theorem Ru.callV0 {as' : Array Value} {idx : Nat} {argsL : List Value} {a : Addr} {C : String} {y : MethodName} {Q' : Po} (M : Met G J as' h S' Q') (hd : D1 I.b pc (.invokevirtual idx) 3 pc') (E : Exa G.Z h a C) (w1 : (Jvm.Cond.methodLink I.y.cls idx y).before a0 G.Z = true) (w2 : (Jvm.Cond.declares y).before a0 G.Z = true) (hnf : ∀ s : State, G.Z.Warmed39 s.vm → NotFace s y) (w3 : (Jvm.Cond.selects C y J.y).before a0 G.Z = true) (w4 : (Jvm.Cond.instanceMethod J.y).before a0 G.Z = true) (w5 : (Jvm.Cond.initialized J.y.cls).before a0 G.Z = true) (w6 : (Jvm.Cond.code J.y J.b J.n J.r).before a0 G.Z = true)
    (hy : noMH y) (hnp : npar y.desc = some argsL.length) (hs : ls.size = I.n) (ha : as' = (.ref a :: argsL).toArray) (hst : st = argsL.reverse ++ .ref a :: rest) (hS' : ∀ x ∈ S', x ∈ S) (hf : J.R.frames + 1 ≤ I.R.frames) (hl : wt rest + (J.n + 11) + J.R.locals ≤ I.R.locals) (hc : cs + J.R.cells ≤ I.R.cells) (hsl : sl + J.R.slots ≤ I.R.slots)
    (k : ∀ v h' S2, Q' v h' S2 → WP G I Q K (S2 ++ S) h' (cs + J.R.cells) (sl + J.R.slots) pc' ls (v.toList ++ rest)) (hJo : J.ro = [] := by rfl) (hJs : ∀ p ∈ J.rs, p ∈ I.rs := by first | exact nilmem | exact (fun _ q => q) | simp) : WP G I Q K S h cs sl pc ls st := by
  obtain ⟨hd, rfl⟩ := hd
  subst ha hst
  refine WP.came M w6 w5 hS' hJo hJs (W := wt rest) (len := 3) hf hl (rest := rest) (pc' := pc + 3) ?_ k
  intro vm0 T L ok X hZ hf' eT Post hB
  obtain ⟨cq, kq, qa, qb, qc⟩ := isOf (s := K.s.setVm vm0) (T := T) hZ eT E
  obtain ⟨v, vm₁, B, -, X', h1, h2, h3, h4⟩ := X.virtualBackS ok.1 hf' (mvT (s := K.s.setVm vm0) hZ w1) (mvT (s := K.s.setVm vm0) hZ w2) (hnf (K.s.setVm vm0) hZ) (mvT (s := K.s.setVm vm0) hZ w3) (mvT (s := K.s.setVm vm0) hZ w4) hy hB qa qc (g := mkF K.m pc ls (argsL.reverse ++ .ref a :: rest)) rfl (hs.trans ok.2.2.1.symm) (Steps.refl _) (argsL := argsL) (rest := rest) (npar_len hnp rfl) rfl (by show 2 * 0 + _ ≤ _; exact Nat.le_of_eq (Nat.zero_add _)) (ok.2.1 ▸ hd) (fun _ _ => ⟨rfl, eT, hc, hsl⟩)
  exact ⟨v, vm₁, B, X', h1, h2, h3, h4⟩
theorem WP.rt {P : Value → Heap → List Addr → Prop} {cs' sl' : Nat} (k : ∀ x h' S2, P x h' S2 → WP G I Q K (S2 ++ S) h' cs' sl' pc' ls (x :: rest)) : ∀ v h' S2, Rt P v h' S2 → WP G I Q K (S2 ++ S) h' cs' sl' pc' ls (v.toList ++ rest) := by
  rintro v h' S2 ⟨x, rfl, q⟩
  exact k x h' S2 q
theorem WP.rv {P : Heap → List Addr → Prop} {cs' sl' : Nat} (k : ∀ h' S2, P h' S2 → WP G I Q K (S2 ++ S) h' cs' sl' pc' ls rest) : ∀ v h' S2, Rv P v h' S2 → WP G I Q K (S2 ++ S) h' cs' sl' pc' ls (v.toList ++ rest) := by
  rintro v h' S2 ⟨rfl, q⟩
  exact k h' S2 q
theorem nf_sel {C : String} {y : MethodName} {Z : State} (w : (Jvm.Cond.selects C y y).before a0 Z = true) : ∀ s : State, Z.Warmed39 s.vm → NotFace s y := fun s hZ => notFace_of_selects (args := #[]) (mvT (s := s) hZ w)
end Heaps
end Jvm.Own
namespace Jvm.Own
open Jvm Jvm.ClassFile Sem Op Lib Jvm.Free Jvm.Stand Jvm.LawKit Jvm.RoadKit Bundle
/-! ### small naturals as ints; chars; Strings -/
def n32 (n : Nat) : Int32 := Int32.ofNat n
theorem n32_int {n : Nat} (h : n < 2147483648) : (n32 n).toInt = n := Int32.toInt_ofNat_of_lt (by omega)
theorem n32_cl {n : Nat} (h : n < 2147483648) : (n32 n).toNatClampNeg = n := by rw [Int32.toNatClampNeg, n32_int h]; simp
theorem n32_nn {n : Nat} (h : n < 2147483648) : ¬ n32 n < 0 := by rw [Int32.lt_iff_toInt_lt, n32_int h]; simp
theorem n32_lt {n m : Nat} (h : n < 2147483648) (h' : m < 2147483648) : n32 n < n32 m ↔ n < m := by rw [Int32.lt_iff_toInt_lt, n32_int h, n32_int h']; omega
theorem n32_eq {n m : Nat} (h : n < 2147483648) (h' : m < 2147483648) : n32 n = n32 m ↔ n = m := ⟨fun q => by have := congrArg Int32.toInt q; rw [n32_int h, n32_int h'] at this; omega, fun q => by rw [q]⟩
theorem n32_add (n m : Nat) : n32 n + n32 m = n32 (n + m) := (Int32.ofNat_add n m).symm
theorem n32_succ (n : Nat) : n32 n + (1 : Int32) = n32 (n + 1) := n32_add n 1
theorem n32_sub {n m : Nat} (h : n < 2147483648) (q : m ≤ n) : n32 n - n32 m = n32 (n - m) := by
  apply Int32.toInt_inj.mp
  rw [Int32.toInt_sub, n32_int h, n32_int (by omega), n32_int (by omega)]
  rw [Int.bmod_eq_of_le (by omega) (by omega)]; omega
theorem n32_len (vs : List Value) : vs.length.toInt32 = n32 vs.length := rfl
/-- a char; a char of Latin-1 -/
def IsC (c : Int32) : Prop := ¬ c < 0 ∧ ¬ (65535 : Int32) < c
def IsL (c : Int32) : Prop := ¬ c < 0 ∧ ¬ (255 : Int32) < c
theorem IsL.c {c : Int32} (q : IsL c) : IsC c := by
  obtain ⟨h1, h2⟩ := q
  refine ⟨h1, fun h => h2 ?_⟩
  rw [Int32.lt_iff_toInt_lt] at *
  exact Int.lt_trans (by decide) h
theorem IsC.int {c : Int32} (q : IsC c) : 0 ≤ c.toInt ∧ c.toInt < 65536 := by
  obtain ⟨h1, h2⟩ := q
  rw [Int32.lt_iff_toInt_lt] at h1 h2
  have e1 : (0 : Int32).toInt = 0 := rfl
  have e2 : (65535 : Int32).toInt = 65535 := rfl
  omega
theorem IsL.int {c : Int32} (q : IsL c) : 0 ≤ c.toInt ∧ c.toInt < 256 := by
  obtain ⟨h1, h2⟩ := q
  rw [Int32.lt_iff_toInt_lt] at h1 h2
  have e1 : (0 : Int32).toInt = 0 := rfl
  have e2 : (255 : Int32).toInt = 255 := rfl
  omega
theorem IsC.of {c : Int32} (h1 : 0 ≤ c.toInt) (h2 : c.toInt < 65536) : IsC c := by
  constructor <;> rw [Int32.lt_iff_toInt_lt]
  · have : (0 : Int32).toInt = 0 := rfl
    omega
  · have : (65535 : Int32).toInt = 65535 := rfl
    omega
theorem IsL.of {c : Int32} (h1 : 0 ≤ c.toInt) (h2 : c.toInt < 256) : IsL c := by
  constructor <;> rw [Int32.lt_iff_toInt_lt]
  · have : (0 : Int32).toInt = 0 := rfl
    omega
  · have : (255 : Int32).toInt = 255 := rfl
    omega
theorem i2c_id {c : Int32} (q : IsC c) : c.toUInt32.toUInt16.toUInt32.toInt32 = c := by
  have h := q.int
  have h2 := c_i2c c
  apply Int32.toInt_inj.mp
  omega
theorem nar_c {c : Int32} (q : IsC c) : nar .char c = c := i2c_id q
theorem i2c_isC (x : Int32) : IsC x.toUInt32.toUInt16.toUInt32.toInt32 := by
  have h := c_i2c x
  exact IsC.of (by omega) (by omega)
theorem and255_isL (x : Int32) : IsL (x &&& 255) := by
  have h := c_mask x 255 8 (by decide) (by decide)
  refine IsL.of ?_ ?_ <;> rw [h]
  · exact Int.emod_nonneg _ (by decide)
  · exact Int.emod_lt_of_pos _ (by decide)
theorem i8i8 (x : Int32) : x.toInt8.toInt32.toInt8.toInt32 = x.toInt8.toInt32 := by simp
/-- a char's byte in Latin-1 -/
def lat (c : Int32) : Value := .int c.toInt8.toInt32
theorem set_step {α β : Type} (f : α → β) {cs : List α} {vs : List β} {i : Nat} {c : α} (hc : cs[i]? = some c) (hv : i < vs.length) : ((cs.take i).map f ++ vs.drop i).set i (f c) = (cs.take (i + 1)).map f ++ vs.drop (i + 1) := by
  have hi : i < cs.length := (List.getElem?_eq_some_iff.mp hc).1
  have e : cs[i] = c := (List.getElem?_eq_some_iff.mp hc).2
  have e1 : (List.map f (cs.take i)).length = i := by simp; omega
  rw [List.set_append, e1, if_neg (Nat.lt_irrefl i), Nat.sub_self, List.take_succ_eq_append_getElem hi, e, List.map_append, List.append_assoc]
  congr 1
  rw [List.drop_eq_getElem_cons hv]
  rfl
theorem cfal_nar {n m : Nat} (hq : n ≤ m) (hl : m < 2147483648) : nar .byte (((n32 n - n32 m).toUInt32 >>> ((31 : Int32) &&& 31).toUInt32).toInt32).toInt8.toInt32 = if m = n then (0 : Int32) else (1 : Int32) := by
  by_cases e : m = n
  · subst e
    rw [if_pos rfl, Int32.sub_self]; decide
  · rw [if_neg e]
    have h1 : (n32 n - n32 m).toInt = (n : Int) - m := by
      rw [Int32.toInt_sub, n32_int (by omega), n32_int hl, Int.bmod_eq_of_le (by omega) (by omega)]
    have h2 := c_iushr (n32 n - n32 m) 31 31 (by decide) (by decide)
    rw [h1] at h2
    have h3 : ((n : Int) - m) % 4294967296 / ((2 ^ 31 : Nat) : Int) = 1 := by omega
    rw [h3] at h2
    have h4 : ((n32 n - n32 m).toUInt32 >>> ((31 : Int32) &&& 31).toUInt32).toInt32 = 1 := Int32.toInt_inj.mp (h2.trans rfl)
    rw [h4]; decide
/-- a String whose chars are all of Latin-1: its object a, its byte[] t -/
def StrL (Z : State) (h : Heap) (a t : Addr) (cs : List Int32) : Prop := Exa Z h a "java/lang/String" ∧ Fld Z h a "java/lang/String" "value" "[B" (.ref t) ∧ Fld Z h a "java/lang/String" "coder" "B" (.int 0) ∧ Ary Z h t .byte (cs.map lat) ∧ ∀ c ∈ cs, IsL c
theorem StrL.keep {Z : State} {h h' : Heap} {a t : Addr} {cs : List Int32} {ws : List Addr} (F : StrL Z h a t cs) (K : Keep h h' ws) (qa : a ∉ ws) (qt : t ∉ ws) : StrL Z h' a t cs :=
  ⟨F.1.keep K, F.2.1.keep K qa, F.2.2.1.keep K qa, F.2.2.2.1.keep K qt, F.2.2.2.2⟩
theorem StrL.ext {Z : State} {h h' : Heap} {a t : Addr} {cs : List Int32} (F : StrL Z h a t cs) (E : Ext h h') : StrL Z h' a t cs := F.keep (keepE E) nin0 nin0
theorem StrL.lt {Z : State} {h : Heap} {a t : Addr} {cs : List Int32} (F : StrL Z h a t cs) : a < h.size ∧ t < h.size := ⟨F.1.lt, F.2.2.2.1.lt⟩
end Jvm.Own
namespace Jvm.Own
open Jvm Jvm.ClassFile Sem Op Lib Jvm.Free Jvm.Stand Jvm.LawKit Jvm.RoadKit Bundle
/-- Long's table of boxes -/
def LCache (G : Wd) : Prop := ∃ ca vs, Sta G.Z G.Z.heap "java/lang/Long$LongCache" "cache" "[Ljava/lang/Long;" (.ref ca) ∧ Ary G.Z G.Z.heap ca (.object "java/lang/Long") vs ∧ ∀ j : Int32, ¬ j < 0 → j < 256 → ∃ r, vs[j.toNatClampNeg]? = some (.ref r) ∧ Exa G.Z G.Z.heap r "java/lang/Long" ∧ Fld G.Z G.Z.heap r "java/lang/Long" "value" "J" (.long (j - 128).toInt64)
theorem lc_idx {v : Int64} (h1 : ¬ v < -128) (h2 : ¬ 127 < v) : ¬ (v.toInt32 + (128 : Int32) < 0) ∧ v.toInt32 + (128 : Int32) < 256 ∧ (v.toInt32 + (128 : Int32) - 128).toInt64 = v := by
  rw [Int64.lt_iff_toInt_lt] at h1 h2
  have e1 : (-128 : Int64).toInt = -128 := by decide
  have e2 : (127 : Int64).toInt = 127 := by decide
  have e3 : (128 : Int32).toInt = 128 := by decide
  have e4 : (256 : Int32).toInt = 256 := by decide
  have e5 : (0 : Int32).toInt = 0 := by decide
  rw [e1] at h1; rw [e2] at h2
  have q1 : v.toInt32.toInt = v.toInt := by rw [Int64.toInt_toInt32]; exact Int.bmod_eq_of_le (by omega) (by omega)
  have q2 : (v.toInt32 + (128 : Int32)).toInt = v.toInt + 128 := by rw [Int32.toInt_add, q1, e3]; exact Int.bmod_eq_of_le (by omega) (by omega)
  have q3 : (v.toInt32 + (128 : Int32) - 128).toInt = v.toInt := by rw [Int32.toInt_sub, q2, e3]; rw [Int.bmod_eq_of_le (by omega) (by omega)]; omega
  refine ⟨by rw [Int32.lt_iff_toInt_lt, q2, e5]; omega, by rw [Int32.lt_iff_toInt_lt, q2, e4]; omega, ?_⟩
  apply Int64.toInt_inj.mp
  rw [Int32.toInt_toInt64, q3]
theorem fits_ref_of {C : String} {v : Value} (hv : v.isRef = true) : fits (.object C) v = true := by cases v <;> first | rfl | simp [Value.isRef] at hv
end Jvm.Own
namespace Jvm.Own
open Jvm Jvm.ClassFile Sem Op Lib Jvm.Free Jvm.Stand Jvm.LawKit Jvm.RoadKit Bundle
theorem len_start {Z : State} {args : Array Value} {t : Term} {a : Addr} {c : Cell} {ty : FieldType} {n : Int32} (ev : t.eval args Z none [] Z = some (.ref a)) (A : Arr Z Z.heap a c ty) (h : (Term.length t).eval args Z none [] Z = some (.int n)) : c.slots.size < 2 ^ 31 ∧ c.slots.size.toInt32 = n := by
  have q := A.fin (U := Z) (Vm.Alike.refl _)
  simpa [Term.eval, ev, q] using h
theorem ary_start {Z : State} {a : Addr} {c : Cell} {ty : FieldType} (hf : Fit Z) (A : Arr Z Z.heap a c ty) (hl : c.slots.size < 2 ^ 31) : Ary Z Z.heap a ty c.slots.toList := by
  refine ⟨c, A, rfl, by simpa using hl, fun v hv => ?_⟩
  obtain ⟨i, hi, rfl⟩ := List.mem_iff_getElem.mp hv
  have hi' : i < c.slots.size := by simpa using hi
  have e : (n32 i).toNatClampNeg = i := n32_cl (by omega)
  refine elem_fits (j := n32 i) hf A (fun q => ?_) (by rw [e]; simp [hi'])
  rcases q with q | q
  · exact n32_nn (by omega) q
  · rw [e] at q; omega
theorem LCache.start {G : Wd} {args : Array Value} (hf : Fit G.Z) (h10 : (Jvm.Cond.initializedFor "java/lang/Long$LongCache" "cache" "[Ljava/lang/Long;").before args G.Z = true)
    (h11 : (Jvm.Cond.arrayOf (Term.static "java/lang/Long$LongCache" "cache" "[Ljava/lang/Long;") (.object "java/lang/Long")).before args G.Z = true)
    (h13 : (Jvm.Cond.eq (Term.length (Term.static "java/lang/Long$LongCache" "cache" "[Ljava/lang/Long;")) (Term.int 256)).before args G.Z = true)
    (h14 : (Jvm.Cond.all (Term.static "java/lang/Long$LongCache" "cache" "[Ljava/lang/Long;") (.and (.exactly (.elem (Term.static "java/lang/Long$LongCache" "cache" "[Ljava/lang/Long;") (.index 0)) "java/lang/Long") (.eq (.field (.elem (Term.static "java/lang/Long$LongCache" "cache" "[Ljava/lang/Long;") (.index 0)) "java/lang/Long" "value" "J") (.op1 .i2l (.sub (.index 0) (.int 128)))))).before args G.Z = true) : LCache G := by
  obtain ⟨ca, ev⟩ := arr_v (Cond.before_iff.mp h11)
  obtain ⟨c, A⟩ := Arr.start ev (Cond.before_iff.mp h11)
  have hl := eqv_i (Term.int_eval 256) (Cond.before_iff.mp h13)
  obtain ⟨q1, q2⟩ := len_start ev A hl
  have B := Bxs.start (val := fun j => .long (j - 128).toInt64) (z := 256) (fun idx => by simpa [Term.eval] using ev) A q1 q2 (by decide) (Cond.before_iff.mp h14) (fun X j hj hq => by
    have e1 : (Term.index 0).eval args G.Z none [j.toNatClampNeg] G.Z = some (.int j) := idx_at hj
    have e2 : (Term.sub (.index 0) (.int 128)).eval args G.Z none [j.toNatClampNeg] G.Z = some (.int (j - 128)) := by
      have e3 : (Term.int 128).eval args G.Z none [j.toNatClampNeg] G.Z = some (.int 128) := Term.int_eval 128
      simp [Term.eval] at e1 ⊢
      simp [e1]
    exact eqv_l (i2l_at e2) hq)
  have hs : c.slots.size = 256 := B.2.1.trans (by decide)
  refine ⟨ca, c.slots.toList, Sta.start ev (Or.inl h10), ary_start hf A q1, fun j hj hj2 => ?_⟩
  have hlt : j.toNatClampNeg < 256 := by
    rw [Int32.lt_iff_toInt_lt] at hj hj2
    have e5 : (0 : Int32).toInt = 0 := by decide
    have e4 : (256 : Int32).toInt = 256 := by decide
    rw [e5] at hj; rw [e4] at hj2
    rw [Int32.toNatClampNeg]; omega
  obtain ⟨r, r1, r2, r3⟩ := B.2.2.2 j (fun q => by rcases q with q | q; · exact hj q
                                                   · omega)
  exact ⟨r, by rw [Array.getElem?_toList]; exact r1, r2, r3⟩
/-- an object that a static names -/
theorem sta_exa {Z : State} {args : Array Value} {C n d K : String} (h : (Jvm.Cond.exactly (Term.static C n d) K).value args Z none Z [] = some true) (hi : (Jvm.Cond.initialized C).before args Z = true) (hl : (Jvm.Cond.laysStatic C n d).before args Z = true) :
    ∃ a, (Term.static C n d).eval args Z none [] Z = some (.ref a) ∧ Sta Z Z.heap C n d (.ref a) ∧ Exa Z Z.heap a K := by
  obtain ⟨a, ev⟩ := exa_v h
  exact ⟨a, ev, Sta.start ev (Or.inr ⟨hi, hl⟩), Exa.start ev h⟩
theorem fld_eq {Z : State} {args : Array Value} {t : Term} {a : Addr} {C n d : String} {y : Int32} (ev : t.eval args Z none [] Z = some (.ref a)) (h : (Jvm.Cond.eq (.field t C n d) (.int y)).value args Z none Z [] = some true) : Fld Z Z.heap a C n d (.int y) :=
  Fld.start ((fld_at ev).symm.trans (eqv_i (Term.int_eval y) h))
end Jvm.Own
namespace Jvm.Own
open Jvm Jvm.ClassFile Sem Op Lib Jvm.Free Jvm.Stand Jvm.LawKit Jvm.RoadKit Bundle
/-! ### Strings of any chars: Latin-1 or UTF-16 (little end first) -/
def hi8 (c : Int32) : Value := .int (c >>> ((8 : Int32) &&& 31)).toInt8.toInt32
def u16 (c : Int32) : List Value := [lat c, hi8 c]
theorem shr0 (c : Int32) : c >>> ((0 : Int32) &&& 31) = c := by
  apply Int32.toInt_inj.mp
  rw [c_ishr c 0 0 (by decide)]; simp
theorem shl0 (c : Int32) : c <<< ((0 : Int32) &&& 31) = c := by
  have h := c_ishl c 0 0 (by decide)
  have h1 := rng32 c
  have h2 := rng32 (c <<< ((0 : Int32) &&& 31))
  apply Int32.toInt_inj.mp
  omega
theorem lat_mask {c : Int32} (q : IsL c) : c.toInt8.toInt32 &&& (255 : Int32) = c := by
  have h := c_mask c.toInt8.toInt32 255 8 (by decide) (by decide)
  have h1 := c_i2b c
  have h2 := q.int
  apply Int32.toInt_inj.mp
  omega
theorem lo_mask {c : Int32} (q : IsC c) : (c.toInt8.toInt32 &&& (255 : Int32)).toInt = c.toInt % 256 := by
  have h := c_mask c.toInt8.toInt32 255 8 (by decide) (by decide)
  have h1 := c_i2b c
  omega
theorem hi_mask {c : Int32} (q : IsC c) : ((c >>> ((8 : Int32) &&& 31)).toInt8.toInt32 &&& (255 : Int32)).toInt = c.toInt / 256 := by
  have h0 := c_ishr c 8 8 (by decide)
  have h := c_mask (c >>> ((8 : Int32) &&& 31)).toInt8.toInt32 255 8 (by decide) (by decide)
  have h1 := c_i2b (c >>> ((8 : Int32) &&& 31))
  have h2 := q.int
  omega
theorem get_u16 {c : Int32} (q : IsC c) : (((c.toInt8.toInt32 &&& (255 : Int32)) <<< ((0 : Int32) &&& 31)) ||| (((c >>> ((8 : Int32) &&& 31)).toInt8.toInt32 &&& (255 : Int32)) <<< ((8 : Int32) &&& 31))) = c := by
  rw [shl0]
  have h1 := lo_mask q
  have h2 := hi_mask q
  have h3 := q.int
  generalize c.toInt8.toInt32 &&& (255 : Int32) = lo at h1
  generalize (c >>> ((8 : Int32) &&& 31)).toInt8.toInt32 &&& (255 : Int32) = hi at h2
  have h4 := c_ishl hi 8 8 (by decide)
  have h5 := rng32 (hi <<< ((8 : Int32) &&& 31))
  generalize hi <<< ((8 : Int32) &&& 31) = hs at h4 h5
  have h6 : hs.toInt = hi.toInt * 256 := by omega
  have h7 := c_or' lo hs 8 (by decide) 256 (by decide) (by omega) (by omega) (by omega)
  have h8 := rng32 (lo ||| hs)
  apply Int32.toInt_inj.mp
  omega
theorem u16_len (cs : List Int32) : (cs.flatMap u16).length = 2 * cs.length := by
  induction cs with
  | nil => rfl
  | cons c r ih => simp [u16, ih]; omega
theorem u16_at {cs : List Int32} {i : Nat} {c : Int32} (hc : cs[i]? = some c) : (cs.flatMap u16)[2 * i]? = some (lat c) ∧ (cs.flatMap u16)[2 * i + 1]? = some (hi8 c) := by
  induction cs generalizing i with
  | nil => simp at hc
  | cons d r ih =>
    cases i with
    | zero => simp at hc; subst hc; simp [u16]
    | succ i =>
      simp at hc
      obtain ⟨h1, h2⟩ := ih hc
      have e1 : 2 * (i + 1) = 2 * i + 2 := by omega
      have e2 : 2 * (i + 1) + 1 = (2 * i + 1) + 2 := by omega
      constructor
      · rw [e1]; simpa [u16] using h1
      · rw [e2]; simpa [u16] using h2
theorem set2 {cs : List Int32} {vs : List Value} {i : Nat} {c : Int32} (hc : cs[i]? = some c) (hv : 2 * i + 1 < vs.length) : (((cs.take i).flatMap u16 ++ vs.drop (2 * i)).set (2 * i) (lat c)).set (2 * i + 1) (hi8 c) = (cs.take (i + 1)).flatMap u16 ++ vs.drop (2 * (i + 1)) := by
  have hi : i < cs.length := (List.getElem?_eq_some_iff.mp hc).1
  have e : cs[i] = c := (List.getElem?_eq_some_iff.mp hc).2
  have e1 : ((cs.take i).flatMap u16).length = 2 * i := by rw [u16_len]; simp; omega
  have e2 : vs.drop (2 * i) = vs[2 * i]'(by omega) :: vs[2 * i + 1] :: vs.drop (2 * (i + 1)) := by
    rw [List.drop_eq_getElem_cons (by omega), List.drop_eq_getElem_cons (i := 2 * i + 1) (by omega)]
    rfl
  rw [List.set_append, e1, if_neg (Nat.lt_irrefl _), Nat.sub_self, List.set_append, e1, if_neg (by omega), e2, List.take_succ_eq_append_getElem hi, e, List.flatMap_append, List.append_assoc]
  congr 1
  have e3 : 2 * i + 1 - 2 * i = 1 := by omega
  rw [e3]
  rfl
/-- a String with a char beyond Latin-1 -/
def StrU (Z : State) (h : Heap) (a t : Addr) (cs : List Int32) : Prop := Exa Z h a "java/lang/String" ∧ Fld Z h a "java/lang/String" "value" "[B" (.ref t) ∧ Fld Z h a "java/lang/String" "coder" "B" (.int 1) ∧ Ary Z h t .byte (cs.flatMap u16) ∧ (∀ c ∈ cs, IsC c) ∧ ∃ c ∈ cs, (255 : Int32) < c
theorem StrU.keep {Z : State} {h h' : Heap} {a t : Addr} {cs : List Int32} {ws : List Addr} (F : StrU Z h a t cs) (K : Keep h h' ws) (qa : a ∉ ws) (qt : t ∉ ws) : StrU Z h' a t cs :=
  ⟨F.1.keep K, F.2.1.keep K qa, F.2.2.1.keep K qa, F.2.2.2.1.keep K qt, F.2.2.2.2⟩
/-- any String -/
def Str (Z : State) (h : Heap) (a t : Addr) (cs : List Int32) : Prop := StrL Z h a t cs ∨ StrU Z h a t cs
theorem Str.keep {Z : State} {h h' : Heap} {a t : Addr} {cs : List Int32} {ws : List Addr} (F : Str Z h a t cs) (K : Keep h h' ws) (qa : a ∉ ws) (qt : t ∉ ws) : Str Z h' a t cs := F.imp (fun q => q.keep K qa qt) (fun q => q.keep K qa qt)
theorem Str.ext {Z : State} {h h' : Heap} {a t : Addr} {cs : List Int32} (F : Str Z h a t cs) (E : Ext h h') : Str Z h' a t cs := F.keep (keepE E) nin0 nin0
theorem Str.exa {Z : State} {h : Heap} {a t : Addr} {cs : List Int32} (F : Str Z h a t cs) : Exa Z h a "java/lang/String" := by rcases F with F | F <;> exact F.1
theorem Str.val {Z : State} {h : Heap} {a t : Addr} {cs : List Int32} (F : Str Z h a t cs) : Fld Z h a "java/lang/String" "value" "[B" (.ref t) := by rcases F with F | F <;> exact F.2.1
theorem Str.isC {Z : State} {h : Heap} {a t : Addr} {cs : List Int32} (F : Str Z h a t cs) : ∀ c ∈ cs, IsC c := by
  rcases F with F | F
  · exact fun c q => (F.2.2.2.2 c q).c
  · exact F.2.2.2.2.1
theorem Str.lt {Z : State} {h : Heap} {a t : Addr} {cs : List Int32} (F : Str Z h a t cs) : a < h.size ∧ t < h.size := by
  rcases F with F | F
  · exact F.lt
  · exact ⟨F.1.lt, F.2.2.2.1.lt⟩
end Jvm.Own
namespace Jvm.Own
open Jvm Jvm.ClassFile Sem Op Lib Jvm.Free Jvm.Stand Jvm.LawKit Jvm.RoadKit Bundle
theorem n32_shl1 {n : Nat} (h : n < 1073741824) : n32 n <<< ((1 : Int32) &&& 31) = n32 (2 * n) := by
  have h1 := c_ishl (n32 n) 1 1 (by decide)
  have h2 := rng32 (n32 n <<< ((1 : Int32) &&& 31))
  apply Int32.toInt_inj.mp
  rw [n32_int (by omega)] at h1
  rw [n32_int (by omega)]
  omega
theorem n32_shr1 {n : Nat} (h : n < 1073741824) : n32 (2 * n) >>> ((1 : Int32) &&& 31) = n32 n := by
  have h1 := c_ishr (n32 (2 * n)) 1 1 (by decide)
  apply Int32.toInt_inj.mp
  rw [n32_int (by omega)] at h1
  rw [n32_int (by omega)]
  omega
theorem n32_or0 {n m k : Nat} (hn : n < 2147483648) (hm : m < 2147483648) (hk : k < 2147483648) : ¬ ((n32 n ||| n32 m) ||| n32 k) < 0 := by
  have h1 := c_or0 (n32 n) (n32 m) (by rw [n32_int hn]; omega) (by rw [n32_int hm]; omega)
  have h2 := c_or0 (n32 n ||| n32 m) (n32 k) (by rw [n32_int hn] at h1; omega) (by rw [n32_int hk]; omega)
  rw [Int32.lt_iff_toInt_lt]
  have e : (0 : Int32).toInt = 0 := rfl
  rw [n32_int hk] at h2
  omega
theorem ncf {c : Int32} (q : IsC c) : narrow .char (.int c) = .int c ∧ fits .char (.int c) = true := by
  refine ⟨congrArg Value.int (nar_c q), ?_⟩
  have := fits_nar_char c
  rw [nar_c q] at this
  exact this
theorem getc {c : Int32} (q : IsC c) : nar .char ((((c.toInt8.toInt32 &&& (255 : Int32)) <<< ((0 : Int32) &&& 31)) ||| (((c >>> ((8 : Int32) &&& 31)).toInt8.toInt32 &&& (255 : Int32)) <<< ((8 : Int32) &&& 31))).toUInt32.toUInt16.toUInt32.toInt32) = c := by
  rw [get_u16 q, i2c_id q, nar_c q]
theorem take_get {α : Type} {cs : List α} {n r : Nat} {c : α} (h : cs[r]? = some c) (q : r < n) : (cs.take n)[r]? = some c := by rw [List.getElem?_take, if_pos q]; exact h
end Jvm.Own
namespace Jvm.Own
open Jvm Jvm.ClassFile Sem Op Lib Jvm.Free Jvm.Stand Jvm.LawKit Jvm.RoadKit Bundle
theorem notL_of {cs : List Int32} (h1 : ∀ c ∈ cs, IsL c) (h2 : ∃ c ∈ cs, (255 : Int32) < c) : False := by
  obtain ⟨c, q1, q2⟩ := h2
  exact (h1 c q1).2 q2
/-- two Strings of the same chars: one coder, the same bytes -/
theorem str_pair {Z : State} {h : Heap} {a b t u : Addr} {cs : List Int32} (A : Str Z h a t cs) (B : Str Z h b u cs) : ∃ (co : Int32) (vs : List Value), Fld Z h a "java/lang/String" "coder" "B" (.int co) ∧ Fld Z h b "java/lang/String" "coder" "B" (.int co) ∧ Ary Z h t .byte vs ∧ Ary Z h u .byte vs ∧ ∀ x ∈ vs, ∃ z, x = .int z := by
  rcases A with A | A <;> rcases B with B | B
  · exact ⟨0, _, A.2.2.1, B.2.2.1, A.2.2.2.1, B.2.2.2.1, fun x hx => by obtain ⟨c, -, rfl⟩ := List.mem_map.mp hx; exact ⟨_, rfl⟩⟩
  · exact (notL_of A.2.2.2.2 B.2.2.2.2.2).elim
  · exact (notL_of B.2.2.2.2 A.2.2.2.2.2).elim
  · exact ⟨1, _, A.2.2.1, B.2.2.1, A.2.2.2.1, B.2.2.2.1, fun x hx => by
      obtain ⟨c, -, hc⟩ := List.mem_flatMap.mp hx
      simp only [u16, List.mem_cons, List.not_mem_nil, or_false] at hc
      rcases hc with rfl | rfl <;> exact ⟨_, rfl⟩⟩
end Jvm.Own
namespace Jvm.Own
open Jvm Jvm.ClassFile Sem Op Lib Jvm.Free Jvm.Stand Jvm.LawKit Jvm.RoadKit Bundle Jvm.Free.SB Jvm.Free.SBG
/-! ### ldc_w of a String constant, its text read -/
theorem push2 (h : Heap) (x y : Cell) : (∀ z, z < h.size → ((h.push x).push y)[z]? = h[z]?) ∧ ((h.push x).push y)[h.size]? = some x ∧ ((h.push x).push y)[h.size + 1]? = some y ∧ ((h.push x).push y).size = h.size + 2 := by
  refine ⟨fun z hz => ?_, ?_, ?_, by simp⟩
  · rw [Array.getElem?_push, if_neg (by simp; omega), Array.getElem?_push, if_neg (by omega)]
  · rw [Array.getElem?_push, if_neg (by simp), Array.getElem?_push, if_pos rfl]
  · rw [Array.getElem?_push, if_pos (by simp)]
theorem made_heap (T : State) (cB cS : ClassId) (kS : Class) (fv fc : Field) (u : Array UInt16) : (withString T cB cS kS fv fc u).heap = (T.heap.push (bytesOf cB u)).push (stringAt cS kS fv fc u T.heap.size) := by
  rw [withString_eq]; rfl
section W
variable {p : Program} {l : Launch} {e : Env} {R : Room} {s : State} {m : MethodId} {args : Array Value} {below : List Frame} {meth : Method} {c : Code} {T : State} {locs : List Loc} {cells slots : Nat}
/-- what the step leaves: the entry noted, at most one String made, and of that one its bytes -/
theorem ldcW_out (X : Stand p l e R s m args below meth c T locs cells slots) (hx : p.tables.exec = Jvm.exec) {own text : String} {ix : Nat} (ho : s.vm.findClass own = some m.cls)
    (hl : (Cond.stringLink own ix text).before args s = true) (hS : ∀ a ∈ Bundle.stringAtoms, a.before args s = true)
    {g : JFrame} (hg : g.method = m) (hd : decode c.code g.pc = .ok (.ldc_w ix, 3)) {n : Nat} (hn : 4 * text.toList.length ≤ n) (hb : n ≤ 536870912) (hc : cells + 2 ≤ R.cells) (hs : slots + (n + 4) ≤ R.slots) :
    ∃ (a : Addr) (V : State), Stand p l e R (s.setVm V.vm) m args below meth c V locs (cells + 2) (slots + (n + 4)) ∧ s.Since V.vm V.heap.size ∧ (∃ k, V.vm.classes[m.cls]? = some k ∧ k.resolved[ix]? = some (some (.string a))) ∧ (∀ y, y < T.heap.size → V.heap[y]? = T.heap[y]?) ∧ T.Warmed39 V.vm ∧
      (V.vm.interned = T.vm.interned ∨ ∃ u : Array UInt16, V.vm.interned = T.vm.interned.push (u, a) ∧ T.vm.interned.find? (fun p => p.1 == u) = none ∧ (u.all (· < 256) = true → SlIn 0 T.heap.size V a u)) ∧
      ∀ t, Steps p.tables e below (V.setTop { g with pc := g.pc + 3, stack := .ref a :: g.stack }) t → Steps p.tables e below (T.setTop g) t := by
  subst hg
  obtain ⟨k, cf, i, u, hk, hcf, hp, hu, hnm, htx, hrs⟩ := Cond.stringLink_spec ho hl
  obtain ⟨k1, hk1, ek⟩ := X.warmed.alike.2.2 _ _ hk
  have hcf1 : k1.cf = some cf := by rw [ek]; exact hcf
  have pool : ∀ kk : Class, kk.cf = some cf → kk.cf.bind (namesOf? ·.constantPool ix) = some (.string text) ∧ kk.cf.bind (·.constantPool[ix]?) = some (.string i) ∧ kk.cf.bind (·.constantPool.utf8? i) = some u := fun kk q => by
    rw [q]; exact ⟨hnm, hp, by simp [ConstantPool.utf8?, hu]⟩
  obtain ⟨p1, p2, p3⟩ := pool k hcf
  obtain ⟨r1, r2, r3⟩ := pool k1 hcf1
  have same : k1.resolved[ix]? = k.resolved[ix]? := by
    rcases X.warmed.entry hk hk1 ix with q | ⟨-, r, -, bad⟩
    · exact q
    · cases r <;> simp [State.rightAt, hk, hcf, hnm] at bad
  rcases hrs with o0 | ⟨a, o0⟩
  · have o1 : k1.resolved[ix]? = some none := same.trans o0
    cases hf : T.vm.interned.find? (fun p => p.1 == u) with
    | some pr =>
      obtain ⟨u', a⟩ := pr
      obtain rfl : u' = u := by simpa using Array.find?_some hf
      have W := X.warmed.wide.notedString hk (Or.inl o0) p1 p2 p3 hf
      refine ⟨a, T.setVm (T.vm.noted g.method.cls ix (.string a)), (X.mono (by omega) (by omega)).retabled W, ⟨W, ?_⟩, ⟨_, Vm.classes_note_self ix (.string a) hk1, Class.resolved_note_self (.string a) o1⟩, fun _ _ => rfl, (State.Warmed39.refl T).notedString hk1 (Or.inl o1) r1 r2 r3 hf, Or.inl rfl, fun t ht => ?_⟩
      · exact State.Booked.step (T₂ := T.setVm (T.vm.noted g.method.cls ix (.string a))) (X.warmed.no_new_pair _) X.same.2.1 ⟨Nat.le_refl _, Or.inl rfl⟩
      · jvm_step X.here [hx, hd, ldc_w.wp_string_found (e := e) (s := T) (f := g) X.here.top hk1 hcf1 hp hu o1 hf]
        exact ht
    | none =>
      obtain ⟨Q, L, n4, fv, fc⟩ := StringT.of_atoms (args := args) hS
      obtain ⟨kS, kB, L', ty⟩ := L.warmer X.warmed.alike
      have ft : T.fitsSlot = s.fitsSlot := (show T.fitsSlot = (s.setVm T.vm).fitsSlot from rfl).trans (State.fitsSlot_setVm X.warmed.alike)
      have found : (T.vm.interned.push (u, T.heap.size + 1)).find? (fun p => p.1 == u) = some (u, T.heap.size + 1) := by rw [Array.find?_push, hf]; simp
      have W := (X.warmed.wide.interns u (T.heap.size + 1)).notedString hk (Or.inl o0) p1 p2 p3 found
      have WT := ((State.Warmed39.refl T).interns u (T.heap.size + 1)).notedString hk1 (Or.inl o1) r1 r2 r3 found
      have eh := made_heap T Q.cB Q.cS kS Q.fv Q.fc u
      obtain ⟨c1, c2, c3, c4⟩ := push2 T.heap (bytesOf Q.cB u) (stringAt Q.cS kS Q.fv Q.fc u T.heap.size)
      rw [← eh] at c1 c2 c3 c4
      have b0 : (stringBytes u).size ≤ n := Nat.le_trans (text_bytes_le htx) hn
      have b1 : (bytesOf Q.cB u).slots.size = (stringBytes u).size := by rw [(Cell.writeAll_facts _ _).2.2]; simp [bytes0]
      have b2 : (stringAt Q.cS kS Q.fv Q.fc u T.heap.size).slots.size = 4 := by simp [string0, Cell.setSlot, ty, n4]
      have X2 := (X.pushed (bytesOf Q.cB u)).pushed (stringAt Q.cS kS Q.fv Q.fc u T.heap.size)
      rw [← withString_eq, b1, b2] at X2
      refine ⟨T.heap.size + 1, (withString T Q.cB Q.cS kS Q.fv Q.fc u).setVm (({ T.vm with interned := T.vm.interned.push (u, T.heap.size + 1) } : Vm).noted g.method.cls ix (.string (T.heap.size + 1))), (X2.mono (by omega) (by omega)).retabled W, ⟨W, ?_⟩, ⟨_, Vm.classes_note_self (vm := { T.vm with interned := T.vm.interned.push (u, T.heap.size + 1) }) ix (.string (T.heap.size + 1)) hk1, Class.resolved_note_self (.string (T.heap.size + 1)) o1⟩, c1, WT, Or.inr ⟨u, rfl, hf, fun hl => made_sl (W := (withString T Q.cB Q.cS kS Q.fv Q.fc u).setVm (({ T.vm with interned := T.vm.interned.push (u, T.heap.size + 1) } : Vm).noted g.method.cls ix (.string (T.heap.size + 1)))) hS L n4 ty W.alike c2 c3 hl (by omega) 0⟩, fun t ht => ?_⟩
      · refine State.Booked.step (X.warmed.no_new_pair _) X.same.2.1 ⟨?_, Or.inr ⟨u, T.heap.size + 1, rfl, by omega, ?_⟩⟩
        · show T.heap.size ≤ (withString T Q.cB Q.cS kS Q.fv Q.fc u).heap.size
          omega
        · show T.heap.size + 1 < (withString T Q.cB Q.cS kS Q.fv Q.fc u).heap.size
          omega
      · refine Steps.instr (c := _) (by simpa using X.here) ?_
        simp [jvm, wpRun, exec, X.here.top, hx, hd]
        refine ldc_w.wp_string_new (e := e) (s := T) (f := g) X.here.top hk1 hcf1 hp hu o1 hf L'.found L'.cls L'.initialized L'.ordinary L'.foundB L'.clsB L'.kindB L'.value L'.coder ?_ ?_ (X.cellsAbove hc) ?_ (stringBytes_fit L'.clsB L'.kindB u) L'.valueSlot L'.coderSlot (by rw [ft]; exact fv _) (by rw [ft]; exact fc _) (fun d' acts' => ?_)
        · rw [Launch.admits_arrayLengthLimit X.admits]; omega
        · rw [Launch.admits_maxHeapBytes X.admits]; simp only [componentBytes]; omega
        · have := X.slotsAbove hs
          show T.slotsUsed + (stringBytes u).size + kS.instanceTypes.size ≤ _
          rw [ty, n4]; omega
        · intro acts''
          have t1 : (withString T Q.cB Q.cS kS Q.fv Q.fc u).topJava?.isSome := by simpa [withString] using X.here.top
          have t2 : ((withString T Q.cB Q.cS kS Q.fv Q.fc u).setVm (({ T.vm with interned := T.vm.interned.push (u, T.heap.size + 1) } : Vm).noted g.method.cls ix (.string (T.heap.size + 1)))).topJava?.isSome := by simpa using t1
          simp [jvm, afterInstr, t1, t2]
          rw [State.modifyTopJava_setTop]
          exact ht
  · have o1 := same.trans o0
    refine ⟨a, T, (X.mono (by omega) (by omega)).retabled X.warmed.wide, X.warmed.since _, ⟨k1, hk1, o1⟩, fun _ _ => rfl, State.Warmed39.refl T, Or.inl rfl, fun t ht => ?_⟩
    jvm_step X.here [hx, hd, ldc_w.wp_string (e := e) (s := T) (f := g) X.here.top hk1 hcf1 hp o1]
    exact ht
end W
/-- a compact String, read -/
theorem sl_read {Z : State} {vm : Vm} {h : Heap} {q : SQ} {u : Array UInt16} (hal : Z.vm.Alike vm) (F : SlB (Wst Z vm h) q u) (hlat : u.all (· < 256) = true) (hsz : u.size < 2147483648) :
    Exa Z h q.sa "java/lang/String" ∧ Fld Z h q.sa "java/lang/String" "coder" "B" (.int 0) ∧ Fld Z h q.sa "java/lang/String" "value" "[B" (.ref q.sd) ∧ Ary Z h q.sd .byte (u.toList.map fun x => Value.int (Jvm.Lit.byteI x)) := by
  obtain ⟨cS, ⟨⟨s1, s2, s3, ⟨cv, kv, iv, s4, s4'⟩, ⟨cc, kc, ic, s5, s5'⟩, s6, s7, s8, s9, s10, ⟨s11, kb, s12, comp, s13⟩, s14, s15, s16, s17, s18⟩, f1, f2⟩, ⟨kS, g1, g2, g3⟩, g4, g5⟩ := F
  have f1 : vm.findClass "java/lang/String" = some cS := f1
  have g1 : vm.classes[cS]? = some kS := g1
  have g4 : vm.findClass "[B" = some q.SA.cls := g4
  have s12 : vm.classes[q.SA.cls]? = some kb := s12
  have z1 : Z.vm.findClass "java/lang/String" = some q.sC.cls := by rw [← hal.findClass, f2]; exact f1
  have z2 : Z.vm.findClass "[B" = some q.SA.cls := by rw [← hal.findClass]; exact g4
  obtain ⟨kz, hkz, -⟩ := Vm.findClass_spec z1
  obtain ⟨kz', y1, y2⟩ := hal.2.2 _ _ hkz
  obtain ⟨ky, hky, -⟩ := Vm.findClass_spec z2
  obtain ⟨ky', y3, y4⟩ := hal.2.2 _ _ hky
  obtain rfl : kz' = kS := Option.some.inj (y1.symm.trans (by rw [f2]; exact g1))
  obtain rfl : ky' = kb := Option.some.inj (y3.symm.trans s12)
  obtain ⟨kv', v1⟩ := ff_back (U := Wst Z vm h) hal s4
  obtain ⟨kc', v2⟩ := ff_back (U := Wst Z vm h) hal s5
  have es : q.SA.slots = u.map fun x => Value.int (Jvm.Lit.byteI x) := by rw [g5, SBG.stringBytes_lat hlat]; rfl
  refine ⟨⟨q.sC, kz, s1, z1, hkz, s3, fun _ => by rw [g3, y2]⟩, ⟨q.sC, cc, kc', ic, q.fSC, s1, v2, s7, s2, s3, by rw [← hal.assignable]; exact s5', s9⟩, ⟨q.sC, cv, kv', iv, q.fSV, s1, v1, s6, s2, s3, by rw [← hal.assignable]; exact s4', s8⟩, q.SA, ⟨s10, ⟨s11, ky, hky, comp, by rw [y4] at s13; exact s13⟩, s14⟩, by rw [es]; simp, by simpa using hsz, fun v hv => ?_⟩
  have hv' : v ∈ q.SA.slots.toList := by rw [es]; simpa using hv
  obtain ⟨j, hj, rfl⟩ := List.mem_iff_getElem.mp hv'
  have hj' : j < q.SA.slots.size := by simpa using hj
  have := s18 j hj'
  simpa [Array.getD, hj'] using this
variable {G : Wd} {I J : Inf} {Q : Po} {K : Rn} {S S' : List Addr} {h : Heap} {cs sl pc pc' : Nat} {ls ls' : Array Slot} {st : List Value} {a0 : Array Value}
theorem Ru.ldcStrW {idx n : Nat} {text : String} {vs : List Value} (hnar : G.nar = false) (hd : D1 I.b pc (.ldc_w idx) 3 pc') (hm : (I.y.cls, idx) ∈ G.E) (w : (Jvm.Cond.stringLink I.y.cls idx text).before a0 G.Z = true) (wS : ∀ a ∈ Bundle.stringAtoms, a.before a0 G.Z = true)
    (ht : (∀ c ∈ text.toList, c.toNat < 256) ∧ text.toList.map (fun c => Value.int (Jvm.Lit.byteI c.toNat.toUInt16)) = vs) (hlen : vs.length < 134217728) (hn : 4 * text.toList.length ≤ n) (hbig : n ≤ 536870912) (hc : cs + 2 ≤ I.R.cells) (hl : sl + (n + 4) ≤ I.R.slots)
    (k : ∀ h' a b, Ext h h' → Exa G.Z h' a "java/lang/String" → Fld G.Z h' a "java/lang/String" "coder" "B" (.int 0) → Fld G.Z h' a "java/lang/String" "value" "[B" (.ref b) → Ary G.Z h' b .byte vs → (∀ x ∈ S, x ≠ a ∧ x ≠ b) → WP G I Q K S h' (cs + 2) (sl + (n + 4)) pc' ls (.ref a :: st)) (hrs : I.rs = [] := by rfl) : WP G I Q K S h cs sl pc ls st := by
  obtain ⟨hd, rfl⟩ := hd
  intro ok vm0 k0 T L ⟨X, hZ, hS, hk, hf, eT, hE, hF, hW, hC, hN, hRs⟩
  obtain ⟨a1, hEL⟩ := ok.2.2.2.2.2.2
  have hEW : EW G.Z a0 G.E := fun p hp => by obtain ⟨t, q1, q2⟩ := hEL p hp; exact ⟨t, by simpa [Jvm.Cond.before, Jvm.Cond.holds, Jvm.Cond.value] using q1, q2⟩
  have wS' : ∀ d ∈ Bundle.stringAtoms, d.before K.args (K.s.setVm vm0) = true := fun d hd => by
    have q := wS d hd
    simp only [Bundle.stringAtoms, List.mem_cons, List.not_mem_nil, or_false] at hd
    rcases hd with rfl | rfl | rfl | rfl | rfl | rfl | rfl
    iterate 2 exact mv (s := K.s.setVm vm0) hZ q
    exact mvA (s := K.s.setVm vm0) hZ q
    iterate 4 exact mv (s := K.s.setVm vm0) hZ q
  obtain ⟨a, V, X', hS', ⟨kk, hkk, hrr⟩, hb, hTW, hint, stp⟩ := ldcW_out X ok.1 (own := I.y.cls) hf (mvS (s := K.s.setVm vm0) hZ w) wS' (g := mkF K.m pc ls st) rfl (ok.2.1 ▸ hd) hn hbig hc hl
  subst eT
  have E : Ext T.heap V.heap := ext_of hb
  have hWV : G.Z.Warmed39 V.vm := State.Warmed39.trans (t := K.s.setVm vm0) hZ hS'.1
  have A := CHv.at X hZ hEW hC.1
  have hZT : G.Z.Warmed39 T.vm := wtrans (s := K.s.setVm vm0) hZ X.warmed
  have B := CHv.later (vm := T.vm) (vm1 := V.vm) hZT (show (Wst G.Z T.vm T.heap).Warmed39 V.vm from hTW) hEW E (hint.imp id fun ⟨us, e1, e2, e3⟩ => ⟨us, a, e1, e2, fun hl => by
    obtain ⟨q, cS, hq, r1, r2, r3, r4, r5⟩ := e3 hl
    have F : SlB V q us := ⟨cS, r1, r2, r3, r4⟩
    refine ⟨q, hq, F.carry (V := Wst G.Z V.vm V.heap) (Vm.Alike.refl _) F.ha F.hd, ?_⟩
    rcases r5 with ⟨z, -⟩ | z
    · exact absurd z (Nat.not_lt_zero _)
    · exact z⟩) A.1
  have CC : CHr G.Z G.E vm0 T.heap V.vm V.heap := A.trans ⟨B.1, E.1, B.2⟩
  have hfV : V.vm.findClass I.y.cls = some K.m.cls := by rw [hS'.1.alike.findClass]; exact hf
  have w2 : (Cond.stringLink I.y.cls idx text).before a0 (Wst G.Z V.vm V.heap) = true := mvS (s := { G.Z with heap := V.heap }) hWV w
  obtain ⟨k2, cf, i, u, g1, g2, g3, g4, -, g5, -⟩ := Cond.stringLink_spec (s := Wst G.Z V.vm V.heap) hfV w2
  obtain rfl : k2 = kk := Option.some.inj ((show V.vm.classes[K.m.cls]? = some k2 from g1).symm.trans hkk)
  have bk : Booksv V.vm I.y.cls idx u a := ⟨K.m.cls, k2, cf, i, hfV, hkk, g2, g3, g4, Or.inl hrr⟩
  obtain ⟨q, rfl, F⟩ := SlB.of (CC.1 _ hm u a bk)
  have eu : vs = u.toList.map fun x => Value.int (Jvm.Lit.byteI x) := by rw [← ht.2, Jvm.ClassFile.units_of_text g5 ht.1, List.map_map]; rfl
  have el : vs.length = u.size := by rw [eu]; simp
  obtain ⟨x1, x2, x3, x4⟩ := sl_read hWV.alike F (Jvm.ClassFile.lat_of_text g5 ht.1) (by omega)
  rw [← eu] at x4
  have safe : ∀ x, Safe G.Z G.E V.vm V.heap x → x ≠ q.sa ∧ x ≠ q.sd := fun x N => ⟨fun z => N ⟨_, hm, u, _, bk, q, rfl, F, Or.inl z⟩, fun z => N ⟨_, hm, u, _, bk, q, rfl, F, Or.inr z⟩⟩
  obtain ⟨t, o, st1, r⟩ := k V.heap q.sa q.sd E x1 x2 x3 x4 (fun x hx => safe x (CC.safe (hW x hx).2.1 (hW x hx).2.2)) ok V.vm V.heap.size V L ⟨X', hWV, hS.trans hS' (Nat.le_trans hk E.1), Nat.le_refl _, hfV, rfl, ⟨Nat.le_trans hE.1 E.1, fun x c q => E.2 x c (hE.2 x c q)⟩, hF, hW.on CC, hC.trans CC, (fun q => by rw [hnar] at q; cases q), by rw [hrs]; exact fun _ q => nomatch q⟩
  exact ⟨t, o, stp _ st1, r⟩
end Jvm.Own
namespace Jvm.Own
open Jvm Jvm.ClassFile Sem Op Lib Jvm.Free Jvm.Stand Jvm.LawKit Jvm.RoadKit Bundle
section Exc
variable {G : Wd} {I J : Inf} {Q : Po} {K : Rn} {S S' : List Addr} {h : Heap} {cs sl pc pc' : Nat} {ls ls' : Array Slot} {st st' : List Value} {a0 : Array Value}
/-- a step that writes in cells of ours, and may make cells -/
theorem WP.keeps {ws : List Addr} {P : Heap → Prop} {na nb : Nat} (hws : ∀ x ∈ ws, x ∈ S) (hst : ∀ vm0 T L, Ok G I K → Stand K.p G.l K.e I.R (K.s.setVm vm0) K.m K.args K.below K.meth K.c T L cs sl → G.Z.Warmed39 vm0 → K.s.vm.Alike vm0 → vm0.findClass I.y.cls = some K.m.cls → T.heap = h → Ext G.Z.heap h →
      ∃ T' h' L', Stand K.p G.l K.e I.R (K.s.setVm vm0) K.m K.args K.below K.meth K.c T' (L ++ L') (cs + na) (sl + nb) ∧ T'.heap = h' ∧ Keep h h' ws ∧ (∀ y ∈ L', y.base ∈ ws) ∧ P h' ∧ ∀ target, Steps K.p.tables K.e K.below (T'.setTop (mkF K.m pc' ls' st')) target → Steps K.p.tables K.e K.below (T.setTop (mkF K.m pc ls st)) target)
    (k : ∀ h', Keep h h' ws → P h' → WP G I Q K S h' (cs + na) (sl + nb) pc' ls' st') : WP G I Q K S h cs sl pc ls st := by
  intro ok vm0 k0 T L ⟨X, hZ, hS, hk, hf, eT, hE, hF, hW, hC, hN, hRs⟩
  obtain ⟨T', h', L', X', eT', Kp, hL, hP, stp⟩ := hst vm0 T L ok X hZ hS.1.alike hf eT hE
  have C : CHr G.Z G.E vm0 h vm0 h' := CHr.keep Kp (fun x hx => (hW x (hws x hx)).2.2) hC.1
  have hE' : Ext G.Z.heap h' := ⟨Nat.le_trans hE.1 Kp.1, fun x c q => Kp.2.1 x c (hE.2 x c q) fun hx => Nat.lt_irrefl _ (Nat.lt_of_lt_of_le (Array.getElem?_eq_some_iff.mp q).1 (hW x (hws x hx)).1)⟩
  obtain ⟨t, o, st1, r⟩ := k h' Kp hP ok vm0 k0 T' (L ++ L') ⟨X', hZ, hS, Nat.le_trans hk Kp.1, hf, eT', hE', hF.app (fun y hy => (hW _ (hws _ (hL y hy))).1), hW.on C, hC.trans C, hN, hRs⟩
  exact ⟨t, o, stp _ st1, r⟩
/-- 'new', and that nothing has touched the object -/
theorem Ru.newU {idx n : Nat} {C : String} (hd : D1 I.b pc (.new idx) 3 pc') (w : (Jvm.Cond.classLink I.y.cls idx C).before a0 G.Z = true) (wi : (Jvm.Cond.instantiable C n).before a0 G.Z = true) (wz : (Jvm.Cond.initialized C).before a0 G.Z = true) (hc : cs + 1 ≤ I.R.cells) (hl : sl + n ≤ I.R.slots)
    (k : ∀ h' a, h.size = a → Ext h h' → Exa G.Z h' a C → Unt h' a → (∀ {O nm d : String} {ty : FieldType}, Laid G.Z a0 C O nm d → parseFieldDescriptor d = some ty → Fld G.Z h' a O nm d (defaultValue ty)) → WP G I Q K (a :: S) h' (cs + 1) (sl + n) pc' ls (.ref a :: st)) : WP G I Q K S h cs sl pc ls st := by
  obtain ⟨hd, rfl⟩ := hd
  exact WP.alloc (fun vm0 T L ok X hZ hf eT => by
    obtain ⟨T', h', X', e', E, Ex, D, U, stp⟩ := newO (s := K.s.setVm vm0) X ok.1 hZ hf w wi wz eT (g := mkF K.m pc ls st) rfl (ok.2.1 ▸ hd) hc hl
    exact ⟨T', h', X', e', E, Ex.lt, ⟨Ex, U, fun {O nm d ty} q1 q2 => D (O := O) (nm := nm) (d := d) (ty := ty) q1 q2⟩, stp⟩) (P := fun h' => Exa G.Z h' h.size C ∧ Unt h' h.size ∧ ∀ {O nm d : String} {ty : FieldType}, Laid G.Z a0 C O nm d → parseFieldDescriptor d = some ty → Fld G.Z h' h.size O nm d (defaultValue ty)) fun h' E q => k h' _ rfl E q.1 q.2.1 q.2.2
/-- a Throwable's constructor with a message -/
theorem Ru.excInit1 {a : Addr} {ic n : Nat} {rc : String} {links : List Jvm.Free.Exc.Link} {msg : Value} (hkn : G.kn = true) (htr : G.l.stackTraces = true) (hok : Jvm.Free.Exc.linksOk 1 links = true) (hd : D1 I.b pc (.invokespecial ic) 3 pc')
    (w1 : (Cond.methodLink I.y.cls ic (Jvm.Free.Exc.ctor 1 (Jvm.Free.Exc.headName links))).before a0 G.Z = true) (w2 : (Cond.instanceMethod (Jvm.Free.Exc.ctor 1 (Jvm.Free.Exc.headName links))).before a0 G.Z = true) (wT : (Jvm.Free.Exc.chainTab 1 rc links).before a0 G.Z = true) (wi : (Cond.instantiable rc n).before a0 G.Z = true) (r : ∀ d ∈ twoRefs, d.before a0 G.Z = true)
    (ha : a ∈ S) (E : Exa G.Z h a rc) (N : Unt h a) (B : Fld G.Z h a "java/lang/Throwable" "backtrace" "Ljava/lang/Object;" .null) (B2 : Fld G.Z h a "java/lang/Throwable" "detailMessage" "Ljava/lang/String;" .null) (hmsg : msg.isRef = true) (hs : ls.size = I.n)
    (hf : 4 + links.length ≤ I.R.frames) (hlo : wt st + (56 + 14 * links.length) ≤ I.R.locals) (hc : cs + 1 ≤ I.R.cells) (hsl : sl + 2752 ≤ I.R.slots)
    (k : ∀ h', Kp G.Z h h' a → Exa G.Z h' a rc → Fld G.Z h' a "java/lang/Throwable" "detailMessage" "Ljava/lang/String;" msg → WP G I Q K S h' (cs + 1) (sl + 2752) pc' ls st) : WP G I Q K S h cs sl pc ls (msg :: .ref a :: st) := by
  obtain ⟨hd, rfl⟩ := hd
  refine WP.keeps (ws := [a]) (na := 1) (nb := 2752) (P := fun h' => Kp G.Z h h' a ∧ Exa G.Z h' a rc ∧ Fld G.Z h' a "java/lang/Throwable" "detailMessage" "Ljava/lang/String;" msg) (by simpa using ha) ?_ (fun h' _ q => k h' q.1 q.2.1 q.2.2)
  intro vm0 T L ok X hZ hal hf' eT hE
  obtain ⟨kn1, kn2⟩ := kn_alike hal (ok.2.2.2.2.2.1.2.2 hkn)
  obtain ⟨T', h', X', e', K', E', -, D', -, -, stp⟩ := excL1 (s := K.s.setVm vm0) X ok.1 htr hZ hf' hok w1 w2 wT wi r (ThS.ext ok.2.2.2.2.2.1.2.1 ThS.start) (ThS.ext hE ThS.start) kn1 kn2 eT E N B B2 hmsg (g := mkF K.m pc ls (msg :: .ref a :: st)) rfl (hs.trans ok.2.2.1.symm) (rest := st) rfl (ok.2.1 ▸ hd) hf (by show 2 * 0 + wt st + _ ≤ _; rw [Nat.mul_zero, Nat.zero_add]; exact hlo) hc hsl
  exact ⟨T', h', _, X', e', keep_of_kp K', fun y hy => by obtain ⟨nd, -, rfl⟩ := List.mem_map.mp hy; exact List.mem_singleton.mpr rfl, ⟨K', E', D'⟩, stp⟩
theorem copied_list {c d : Cell} {i j n : Nat} (hi : i < 2147483648) (hj : j < 2147483648) (hn : n < 2147483648) (h1 : i + n ≤ c.slots.size) (h2 : j + n ≤ d.slots.size) :
    (copied c d (n32 i) (n32 j) (n32 n)).slots.toList = d.slots.toList.take j ++ ((c.slots.toList.drop i).take n ++ d.slots.toList.drop (j + n)) := by
  apply List.ext_getElem?
  intro x
  rw [Array.getElem?_toList, show copied c d (n32 i) (n32 j) (n32 n) = copied c d (Int32.ofNat i) (Int32.ofNat j) (Int32.ofNat n) from rfl, Jvm.Free.Str.copied_at2 hi hj hn h2]
  have l1 : (d.slots.toList.take j).length = j := by simp; omega
  have l2 : ((c.slots.toList.drop i).take n).length = n := by simp; omega
  by_cases q1 : x < j
  · rw [if_neg (by omega), List.getElem?_append_left (by omega), List.getElem?_take, if_pos q1, Array.getElem?_toList]
  · by_cases q2 : x < j + n
    · rw [if_pos ⟨by omega, q2⟩, List.getElem?_append_right (by omega), l1, List.getElem?_append_left (by omega), List.getElem?_take, if_pos (by omega), List.getElem?_drop, Array.getElem?_toList]
      have : i + (x - j) < c.slots.size := by omega
      simp [Array.getD, this]
    · rw [if_neg (by omega), List.getElem?_append_right (by omega), l1, List.getElem?_append_right (by omega), l2, List.getElem?_drop, Array.getElem?_toList]
      congr 1; omega
/-- System.arraycopy from a byte array to another -/
theorem Ru.arraycopyB {idx i j n : Nat} {a b : Addr} {vs us : List Value} (hd : D1 I.b pc (.invokestatic idx) 3 pc') (w1 : (Cond.methodLink I.y.cls idx Stand.acN).before a0 G.Z = true) (w2 : (Cond.native Stand.acN).before a0 G.Z = true) (w3 : (Cond.static Stand.acN).before a0 G.Z = true) (w4 : (Cond.initialized "java/lang/System").before a0 G.Z = true)
    (hb : b ∈ S) (A : Ary G.Z h a .byte vs) (B : Ary G.Z h b .byte us) (hi : i + n ≤ vs.length) (hj : j + n ≤ us.length) (hs : ls.size = I.n) (hf : 1 ≤ I.R.frames) (hl : wt st + (nativeFrameWords "java/lang/System" "arraycopy" 5 + 11) ≤ I.R.locals)
    (k : ∀ h', Keep h h' [b] → Ary G.Z h' b .byte (us.take j ++ ((vs.drop i).take n ++ us.drop (j + n))) → WP G I Q K S h' cs sl pc' ls st) : WP G I Q K S h cs sl pc ls (.int (n32 n) :: .int (n32 j) :: .ref b :: .int (n32 i) :: .ref a :: st) := by
  obtain ⟨hd, rfl⟩ := hd
  obtain ⟨c, ⟨c1, ⟨c2, kc, c3, cc, c4⟩, c5⟩, rfl, c6, c7⟩ := A
  obtain ⟨d, ⟨d1, ⟨d2, kd, d3, dc, d4⟩, d5⟩, rfl, d6, d7⟩ := B
  have lc : c.slots.toList.length = c.slots.size := by simp
  have ld : d.slots.toList.length = d.slots.size := by simp
  have ei := n32_cl (n := i) (by omega)
  have ej := n32_cl (n := j) (by omega)
  have en := n32_cl (n := n) (by omega)
  refine WP.keeps (ws := [b]) (na := 0) (nb := 0) (P := fun h' => Ary G.Z h' b .byte (d.slots.toList.take j ++ ((c.slots.toList.drop i).take n ++ d.slots.toList.drop (j + n)))) (by simpa using hb) ?_ (fun h' q r => k h' q r)
  intro vm0 T L ok X hZ hal hf' eT hE
  subst eT
  obtain ⟨kc', y1, y2⟩ := hZ.alike.2.2 _ _ c3
  obtain ⟨kd', y3, y4⟩ := hZ.alike.2.2 _ _ d3
  obtain ⟨vm1, -, X', stp⟩ := X.arraycopyK ok.1 (own := I.y.cls) hf' (mvT (s := K.s.setVm vm0) hZ w1) (mvT (s := K.s.setVm vm0) hZ w2) (mvT (s := K.s.setVm vm0) hZ w3) (mvT (s := K.s.setVm vm0) hZ w4) (srcPos := n32 i) (destPos := n32 j) (n := n32 n) c1 d1 c2 d2 c5 d5 y1 y3 (by rw [y2]; exact c4) (by rw [y4]; exact d4) rfl (n32_nn (by omega)) (n32_nn (by omega)) (n32_nn (by omega)) (by rw [n32_int (by omega), n32_int (by omega)]; omega) (by rw [n32_int (by omega), n32_int (by omega)]; omega)
    (fun v _ x hx => by
      rw [en] at hx; rw [ei]
      have hx2 : i + x < c.slots.size := by omega
      have q := c7 (c.slots[i + x]) (by simp)
      have e1 : c.slots.getD (i + x) .null = c.slots[i + x] := by simp [Array.getD, hx2]
      rw [e1]
      refine ⟨q, ?_⟩
      cases hz : c.slots[i + x] <;> first | exact trivial | (rw [hz] at q; cases q)) (g := mkF K.m pc ls (.int (n32 n) :: .int (n32 j) :: .ref b :: .int (n32 i) :: .ref a :: st)) rfl (hs.trans ok.2.2.1.symm) (rest := st) rfl (ok.2.1 ▸ hd) hf (by show 2 * 0 + wt st + _ ≤ _; rw [Nat.mul_zero, Nat.zero_add]; exact hl)
  obtain ⟨f1, f2, f3⟩ := Jvm.Free.SB.copied_facts c d (n32 i) (n32 j) (n32 n)
  have bl : b < T.heap.size := (Array.getElem?_eq_some_iff.mp d1).1
  have e1 : ((T.setVm vm1).setCell b (copied c d (n32 i) (n32 j) (n32 n))).heap = T.heap.setIfInBounds b (copied c d (n32 i) (n32 j) (n32 n)) := rfl
  have e2 : (T.heap.setIfInBounds b (copied c d (n32 i) (n32 j) (n32 n)))[b]? = some (copied c d (n32 i) (n32 j) (n32 n)) := by simp [bl]
  have el := copied_list (c := c) (d := d) (i := i) (j := j) (n := n) (by omega) (by omega) (by omega) (by omega) (by omega)
  refine ⟨_, _, _, X', e1, ⟨by simp, fun x cx q nx => ?_, fun x cx q => ?_⟩, fun y hy => ?_, ⟨_, ⟨e2, ⟨by rw [f2]; exact d2, kd, by rw [f1]; exact d3, dc, d4⟩, by rw [f2]; exact d5⟩, el, ?_, fun v hv => ?_⟩, stp⟩
  · rw [Array.getElem?_setIfInBounds_ne (fun z => nx (by simp [z]))]; exact q
  · by_cases z : b = x
    · subst z; cases q.symm.trans d1; exact ⟨_, e2, f1, f2, f3⟩
    · exact ⟨cx, by rw [Array.getElem?_setIfInBounds_ne z]; exact q, rfl, rfl, rfl⟩
  · obtain ⟨z, -, rfl⟩ := List.mem_map.mp hy; exact List.mem_singleton.mpr rfl
  · rw [← el]; simp only [Array.length_toList]; rw [f3]; omega
  · rcases List.mem_append.mp hv with hv | hv
    · exact d7 v (List.mem_of_mem_take hv)
    · rcases List.mem_append.mp hv with hv | hv
      · exact c7 v (List.mem_of_mem_drop (List.mem_of_mem_take hv))
      · exact d7 v (List.mem_of_mem_drop hv)
/-- a class that declares a method finds it itself -/
theorem same_of {Z : State} {y y' : MethodName} {C : String} (wd : (Jvm.Cond.declares y).before a0 Z = true) (wd' : (Jvm.Cond.declares y').before a0 Z = true) (ws : (Jvm.Cond.selects C y' y').before a0 Z = true) (hc : y'.cls = y.cls) (hy : y.cls ≠ "java/lang/invoke/MethodHandle" ∧ y.cls ≠ "java/lang/invoke/VarHandle") : (Jvm.Cond.sameMethod y.cls y.cls y.name y.desc).before a0 Z = true := by
  obtain ⟨r0, r, hn, -⟩ := Cond.declares_spec wd
  obtain ⟨r1, r', hn', -⟩ := Cond.declares_spec wd'
  obtain ⟨k, hk, hi⟩ := notFace_of_selects ws r1 hn'
  have e0 := findClass_of_methodNamed hn
  have e1 := findClass_of_methodNamed hn'
  rw [hc, e0] at e1
  have e2 : r1.cls = r0.cls := (Option.some.inj e1).symm
  rw [e2] at hk
  have hf := State.methodFound?_of_named hn hy
  simp [Cond.before, Cond.holds, Cond.value, e0, hf, hn, hk, hi]
theorem Ru.callU0 {as' : Array Value} {idx : Nat} {argsL rest : List Value} {a : Addr} {C : String} {Q' : Po} (M : Met G J as' h S' Q') (hd : D1 I.b pc (.invokespecial idx) 3 pc') (hn : J.y.name ≠ "<init>") (F : Exa G.Z h a C) (w1 : (Jvm.Cond.methodLink I.y.cls idx J.y).before a0 G.Z = true) (wsm : (Jvm.Cond.sameMethod J.y.cls J.y.cls J.y.name J.y.desc).before a0 G.Z = true) (w2 : (Jvm.Cond.instanceMethod J.y).before a0 G.Z = true) (wsu : (Jvm.Cond.superclass I.y.cls J.y.cls).before a0 G.Z = true) (w3 : (Jvm.Cond.initialized J.y.cls).before a0 G.Z = true) (w4 : (Jvm.Cond.code J.y J.b J.n J.r).before a0 G.Z = true)
    (hnp : npar J.y.desc = some argsL.length) (hs : ls.size = I.n) (ha : as' = (.ref a :: argsL).toArray) (hst : st = argsL.reverse ++ .ref a :: rest) (hS' : ∀ x ∈ S', x ∈ S) (hf : J.R.frames + 1 ≤ I.R.frames) (hl : wt rest + (J.n + 11) + J.R.locals ≤ I.R.locals) (hc : cs + J.R.cells ≤ I.R.cells) (hsl : sl + J.R.slots ≤ I.R.slots)
    (k : ∀ v h' S2, Q' v h' S2 → WP G I Q K (S2 ++ S) h' (cs + J.R.cells) (sl + J.R.slots) pc' ls (v.toList ++ rest)) (hJo : J.ro = [] := by rfl) (hJs : ∀ p ∈ J.rs, p ∈ I.rs := by first | exact nilmem | exact (fun _ q => q) | simp) : WP G I Q K S h cs sl pc ls st := by
  obtain ⟨hd, rfl⟩ := hd
  subst ha hst
  refine WP.came M w4 w3 hS' hJo hJs (W := wt rest) (len := 3) hf hl (rest := rest) (pc' := pc + 3) ?_ k
  intro vm0 T L ok X hZ hf' eT Post hB
  obtain ⟨v, vm₁, B, -, X', h1, h2, h3, h4⟩ := superBackS (s := K.s.setVm vm0) X ok.1 hZ hf' w1 wsm w2 wsu hn hB eT (Ins.self F) (g := mkF K.m pc ls (argsL.reverse ++ .ref a :: rest)) rfl (hs.trans ok.2.2.1.symm) w4 (argsL := argsL) (rest := rest) (npar_len hnp rfl) rfl (by show 2 * 0 + _ ≤ _; exact Nat.le_of_eq (Nat.zero_add _)) (ok.2.1 ▸ hd) (fun _ _ => ⟨rfl, eT, hc, hsl⟩)
  exact ⟨v, vm₁, B, X', h1, h2, h3, h4⟩
/-- a virtual call of a method that the named class inherits, or that is selected below it -/
theorem Ru.callVU0 {as' : Array Value} {idx : Nat} {argsL rest : List Value} {a : Addr} {C owner : String} {y : MethodName} {Q' : Po} (M : Met G J as' h S' Q') (hd : D1 I.b pc (.invokevirtual idx) 3 pc') (E : Exa G.Z h a C) (w1 : (Jvm.Cond.methodLink I.y.cls idx y).before a0 G.Z = true) (wsm : (Jvm.Cond.sameMethod y.cls owner y.name y.desc).before a0 G.Z = true) (w2 : (Jvm.Cond.declares ⟨owner, y.name, y.desc⟩).before a0 G.Z = true) (w3 : (Jvm.Cond.selects C y J.y).before a0 G.Z = true) (w4 : (Jvm.Cond.instanceMethod J.y).before a0 G.Z = true) (w5 : (Jvm.Cond.initialized J.y.cls).before a0 G.Z = true) (w6 : (Jvm.Cond.code J.y J.b J.n J.r).before a0 G.Z = true)
    (hy : owner ≠ "java/lang/invoke/MethodHandle" ∧ owner ≠ "java/lang/invoke/VarHandle") (hnp : npar y.desc = some argsL.length) (hs : ls.size = I.n) (ha : as' = (.ref a :: argsL).toArray) (hst : st = argsL.reverse ++ .ref a :: rest) (hS' : ∀ x ∈ S', x ∈ S) (hf : J.R.frames + 1 ≤ I.R.frames) (hl : wt rest + (J.n + 11) + J.R.locals ≤ I.R.locals) (hc : cs + J.R.cells ≤ I.R.cells) (hsl : sl + J.R.slots ≤ I.R.slots)
    (k : ∀ v h' S2, Q' v h' S2 → WP G I Q K (S2 ++ S) h' (cs + J.R.cells) (sl + J.R.slots) pc' ls (v.toList ++ rest)) (hJo : J.ro = [] := by rfl) (hJs : ∀ p ∈ J.rs, p ∈ I.rs := by first | exact nilmem | exact (fun _ q => q) | simp) : WP G I Q K S h cs sl pc ls st := by
  obtain ⟨hd, rfl⟩ := hd
  subst ha hst
  refine WP.came M w6 w5 hS' hJo hJs (W := wt rest) (len := 3) hf hl (rest := rest) (pc' := pc + 3) ?_ k
  intro vm0 T L ok X hZ hf' eT Post hB
  obtain ⟨cq, kq, qa, qb, qc⟩ := isOf (s := K.s.setVm vm0) (T := T) hZ eT E
  obtain ⟨v, vm₁, B, -, X', h1, h2, h3, h4⟩ := X.virtualBackUpS ok.1 hf' (mvT (s := K.s.setVm vm0) hZ w1) (mv (s := K.s.setVm vm0) hZ wsm) (mvT (s := K.s.setVm vm0) hZ w2) hy (mvT (s := K.s.setVm vm0) hZ w3) (mvT (s := K.s.setVm vm0) hZ w4) hB qa qc (g := mkF K.m pc ls (argsL.reverse ++ .ref a :: rest)) rfl (hs.trans ok.2.2.1.symm) (Steps.refl _) (argsL := argsL) (rest := rest) (npar_len hnp rfl) rfl (by show 2 * 0 + _ ≤ _; exact Nat.le_of_eq (Nat.zero_add _)) (ok.2.1 ▸ hd) (fun _ _ => ⟨rfl, eT, hc, hsl⟩)
  exact ⟨v, vm₁, B, X', h1, h2, h3, h4⟩
theorem decl_of {Z : State} {y : MethodName} {b : ByteArray} {n : Nat} {r : Option FieldType} (wi : (Jvm.Cond.instanceMethod y).before a0 Z = true) (wc : (Jvm.Cond.code y b n r).before a0 Z = true) : (Jvm.Cond.declares y).before a0 Z = true := by
  obtain ⟨mk, meth, hn, hm, hst, hab⟩ := Cond.instanceMethod_spec wi
  obtain ⟨m2, c, hm2, -, -, -, -, -, -, hsig⟩ := Cond.code_spec hn wc
  cases hm.symm.trans hm2
  simp [Cond.before, Cond.holds, Cond.value, hn, hm, hst, hsig]
end Exc
end Jvm.Own
namespace Jvm.Own
open Jvm Jvm.ClassFile Sem Op Lib Jvm.Free Jvm.Stand Jvm.LawKit Jvm.RoadKit Bundle Jvm.Free.SB Jvm.Free.SBG
section Lt
variable {G : Wd} {I J : Inf} {Q : Po} {K : Rn} {S S' : List Addr} {h : Heap} {cs sl pc pc' : Nat} {ls ls' : Array Slot} {st st' : List Value} {a0 : Array Value}
theorem Rsv.of_lit {s : State} {vm : Vm} {own : String} {ix : Nat} {a : Addr} (L : Lit (s.setVm vm) own ix a) : Rsv vm (own, ix) := by
  have q : (s.setVm vm).resolvedAt? own ix = some (.string a) := L
  simp only [State.resolvedAt?, Option.bind_eq_bind, State.vm_setVm] at q
  cases h1 : vm.findClass own with
  | none => rw [h1] at q; cases q
  | some c =>
    rw [h1] at q
    cases h2 : vm.classes[c]? with
    | none => simp [h2] at q
    | some k =>
      simp only [h2, Option.bind_some] at q
      cases h3 : k.resolved[ix]? with
      | none => rw [h3] at q; cases q
      | some o =>
        rw [h3] at q
        cases o with
        | none => cases q
        | some r => exact ⟨c, k, a, h1, h2, by rw [h3]; simpa using q⟩
/-- a String constant of the list, read, and from here on known to be resolved -/
theorem Ru.ldcStrL {idx n : Nat} {text : String} {vs : List Value} (hnar : G.nar = false) (hd : D1 I.b pc (.ldc idx) 2 pc') (hm : (I.y.cls, idx) ∈ G.E) (w : (Jvm.Cond.stringLink I.y.cls idx text).before a0 G.Z = true) (wS : ∀ a ∈ Bundle.stringAtoms, a.before a0 G.Z = true)
    (ht : (∀ c ∈ text.toList, c.toNat < 256) ∧ text.toList.map (fun c => Value.int (Jvm.Lit.byteI c.toNat.toUInt16)) = vs) (hlen : vs.length < 134217728) (hn : 4 * text.toList.length ≤ n) (hbig : n ≤ 536870912) (hc : cs + 2 ≤ I.R.cells) (hl : sl + (n + 4) ≤ I.R.slots)
    (k : ∀ h' a b, Ext h h' → Exa G.Z h' a "java/lang/String" → Fld G.Z h' a "java/lang/String" "coder" "B" (.int 0) → Fld G.Z h' a "java/lang/String" "value" "[B" (.ref b) → Ary G.Z h' b .byte vs → (∀ x ∈ S, x ≠ a ∧ x ≠ b) → WP G (I.learn [(I.y.cls, idx)]) Q K S h' (cs + 2) (sl + (n + 4)) pc' ls (.ref a :: st)) (hrs : I.rs = [] := by rfl) : WP G I Q K S h cs sl pc ls st := by
  obtain ⟨hd, rfl⟩ := hd
  intro ok vm0 k0 T L ⟨X, hZ, hS, hk, hf, eT, hE, hF, hW, hC, hN, hRs⟩
  obtain ⟨a1, hEL⟩ := ok.2.2.2.2.2.2
  have z1 : ¬ (vs.length.toInt32) < 0 ∧ vs.length.toInt32.toNatClampNeg = vs.length := ⟨n32_nn (by omega), n32_cl (by omega)⟩
  obtain ⟨a, T', h', k1, b, kk, X', e', E, hS', hk', hZ', hf', x1, x2, x3, x4, x5, x6, hC', hL, hsf, stp⟩ := ldcCH (a0 := a0) X ok.1 hZ hf w wS eT hS hk (fun p hp => by obtain ⟨t, q1, q2⟩ := hEL p hp; exact ⟨t, by simpa [Jvm.Cond.before, Jvm.Cond.holds, Jvm.Cond.value] using q1, q2⟩) hm hC.1 ht z1.1 z1.2 (g := mkF K.m pc ls st) rfl (ok.2.1 ▸ hd) hn hbig hc hl
  obtain ⟨t, o, st1, r⟩ := k h' a b E x1 x2 x3 (Arv.ary x4 z1.2) (fun x hx => hsf x (hC'.safe (hW x hx).2.1 (hW x hx).2.2)) ok T'.vm k1 T' L ⟨X', hZ', hS', hk', hf', e', ⟨Nat.le_trans hE.1 E.1, fun x c q => E.2 x c (hE.2 x c q)⟩, hF, hW.on hC', hC.trans hC', (fun q => by rw [hnar] at q; cases q), fun p hp => by
    rcases List.mem_append.mp hp with z | z
    · rw [List.mem_singleton.mp z]; exact Rsv.of_lit hL
    · rw [show I.2.2.2.2.2.1 = [] from hrs] at z; cases z⟩
  exact ⟨t, o, stp _ st1, r⟩
/-- a String constant of the list that is known to be resolved: nothing is made -/
theorem Ru.ldcKnown {idx : Nat} {text : String} {vs : List Value} (hd : D1 I.b pc (.ldc idx) 2 pc') (hr : (I.y.cls, idx) ∈ I.rs) (hm : (I.y.cls, idx) ∈ G.E) (w : (Jvm.Cond.stringLink I.y.cls idx text).before a0 G.Z = true)
    (ht : (∀ c ∈ text.toList, c.toNat < 256) ∧ text.toList.map (fun c => Value.int (Jvm.Lit.byteI c.toNat.toUInt16)) = vs) (hlen : vs.length < 134217728)
    (k : ∀ a b, Exa G.Z h a "java/lang/String" → Fld G.Z h a "java/lang/String" "coder" "B" (.int 0) → Fld G.Z h a "java/lang/String" "value" "[B" (.ref b) → Ary G.Z h b .byte vs → WP G I Q K S h cs sl pc' ls (.ref a :: st)) : WP G I Q K S h cs sl pc ls st := by
  obtain ⟨hd, rfl⟩ := hd
  intro ok vm0 k0 T L ⟨X, hZ, hS, hk, hf, eT, hE, hF, hW, hC, hN, hRs⟩
  obtain ⟨c, k1, a, r1, r2, r3⟩ := hRs _ hr
  cases hf.symm.trans r1
  have w0 : (Cond.stringLink I.y.cls idx text).before K.args (K.s.setVm vm0) = true := mvS (s := K.s.setVm vm0) hZ w
  obtain ⟨k2, cf, i, u, g1, g2, g3, g4, -, g5, -⟩ := Cond.stringLink_spec (s := K.s.setVm vm0) hf w0
  obtain rfl : k2 = k1 := Option.some.inj ((show vm0.classes[K.m.cls]? = some k2 from g1).symm.trans r2)
  obtain ⟨k3, y1, y2⟩ := X.warmed.alike.2.2 _ _ r2
  have o1 : k3.resolved[idx]? = some (some (.string a)) := by
    rcases X.warmed.entry r2 y1 idx with z | ⟨z, -⟩
    · exact z.trans r3
    · rw [r3] at z; cases z
  have bk : Booksv vm0 I.y.cls idx u a := ⟨K.m.cls, k2, cf, i, hf, r2, g2, g3, g4, Or.inl r3⟩
  obtain ⟨q, rfl, F⟩ := SlB.of (hC.1 _ hm u a bk)
  have eu : vs = u.toList.map fun x => Value.int (Jvm.Lit.byteI x) := by rw [← ht.2, Jvm.ClassFile.units_of_text g5 ht.1, List.map_map]; rfl
  have el : vs.length = u.size := by rw [eu]; simp
  obtain ⟨x1, x2, x3, x4⟩ := sl_read hZ.alike F (Jvm.ClassFile.lat_of_text g5 ht.1) (by omega)
  rw [← eu] at x4
  obtain ⟨t, o, st1, r⟩ := k q.sa q.sd x1 x2 x3 x4 ok vm0 k0 T L ⟨X, hZ, hS, hk, hf, eT, hE, hF, hW, hC, hN, hRs⟩
  have hd' : decode K.c.code (mkF K.m pc ls st).pc = .ok (.ldc idx, 2) := ok.2.1 ▸ hd
  refine ⟨t, o, ?_, r⟩
  jvm_step X.here [ok.1, hd', ldc.wp_string (e := K.e) (s := T) (f := mkF K.m pc ls st) X.here.top y1 (by rw [y2]; exact g2) g3 o1]
  exact st1
/-- a static call from whose end on more entries are known -/
theorem Ru.callSL {as' : Array Value} {idx : Nat} {argsL rest : List Value} {Q' : Po} (M : Met G J as' h S' Q') (hd : D1 I.b pc (.invokestatic idx) 3 pc') (w1 : (Jvm.Cond.methodLink I.y.cls idx J.y).before a0 G.Z = true) (w2 : (Jvm.Cond.static J.y).before a0 G.Z = true) (w3 : (Jvm.Cond.initialized J.y.cls).before a0 G.Z = true) (w4 : (Jvm.Cond.code J.y J.b J.n J.r).before a0 G.Z = true)
    (hy : noMH J.y) (hnp : npar J.y.desc = some argsL.length) (hs : ls.size = I.n) (ha : as' = argsL.toArray) (hst : st = argsL.reverse ++ rest) (hS' : ∀ x ∈ S', x ∈ S) (hf : J.R.frames + 1 ≤ I.R.frames) (hl : wt rest + (J.n + 11) + J.R.locals ≤ I.R.locals) (hc : cs + J.R.cells ≤ I.R.cells) (hsl : sl + J.R.slots ≤ I.R.slots)
    (k : ∀ v h' S2, Q' v h' S2 → WP G (I.learn J.ro) Q K (S2 ++ S) h' (cs + J.R.cells) (sl + J.R.slots) pc' ls (v.toList ++ rest)) (hJs : ∀ p ∈ J.rs, p ∈ I.rs := by first | exact nilmem | exact (fun _ q => q) | simp) : WP G I Q K S h cs sl pc ls st := by
  obtain ⟨hd, rfl⟩ := hd
  subst ha hst
  refine WP.cameL M w4 w3 hS' hJs (W := wt rest) (len := 3) hf hl (rest := rest) (pc' := pc + 3) ?_ k
  intro vm0 T L ok X hZ hf' eT Post hB
  obtain ⟨v, vm₁, B, -, X', h1, h2, h3, h4⟩ := callSS (s := K.s.setVm vm0) X ok.1 hf' (mvT (s := K.s.setVm vm0) hZ w1) (mvT (s := K.s.setVm vm0) hZ w2) (mvT (s := K.s.setVm vm0) hZ w3) (mvT (s := K.s.setVm vm0) hZ w4) hy hB (g := mkF K.m pc ls (argsL.reverse ++ rest)) rfl (hs.trans ok.2.2.1.symm) (argsL := argsL) (rest := rest) (npar_len hnp rfl) rfl (by show 2 * 0 + _ ≤ _; exact Nat.le_of_eq (Nat.zero_add _)) (ok.2.1 ▸ hd) (fun _ _ => ⟨rfl, eT, hc, hsl⟩)
  exact ⟨v, vm₁, B, X', h1, h2, h3, h4⟩
end Lt
end Jvm.Own
namespace Jvm.Own
open Jvm Jvm.ClassFile Sem Op Lib Jvm.Free Jvm.Stand Jvm.LawKit Jvm.RoadKit Bundle Jvm.Free.Exc
/-! ### Throwable's links from words that do not name Throwable's own place of suppressedExceptions -/
/-- the words: for the class rc of the object -/
def thW (rc : String) : List Jvm.Cond := (excAtoms rc).filter fun d => decide (d ≠ Jvm.Cond.lays tN tN "suppressedExceptions" listD)
theorem thr_links {args : Array Value} {s : State} {pl : Platform} {rc : String} (ho : pl.frameOwnsMonitors = true) (hf : pl.finalization = false) (hp : pl.magicAccessors = ({} : Platform).magicAccessors)
    (hrc : Jvm.Cond.lays rc tN "suppressedExceptions" listD ≠ Jvm.Cond.lays tN tN "suppressedExceptions" listD) (W : ∀ d ∈ thW rc, d.before args s = true) :
    ∃ T : ThrowableC, T.Links pl s ∧ s.vm.findClass tN = some T.cT ∧ s.methodNamed? tFill = some T.fill ∧ s.methodNamed? tFill0 = some T.fill0 ∧ s.fieldFound? tN "stackTrace" steD = some (T.cT, T.kT, T.i17, T.fStack) ∧ s.fieldFound? tN "UNASSIGNED_STACK" steD = some (T.cT, T.kT, T.i13, T.fUnassigned) ∧ T.fStack.name = "stackTrace" ∧ T.fStack.type = .array (.object "java/lang/StackTraceElement") ∧ ∃ cell, s.heap[T.aS]? = some cell ∧ cell.vm.isStatics = true := by
  have w : ∀ d, d ∈ thW rc → d.holds args s none s [] = true := fun d q => W d q
  have wm : ∀ {d : Jvm.Cond}, d ∈ excAtoms rc → d ≠ Jvm.Cond.lays tN tN "suppressedExceptions" listD → d.holds args s none s [] = true := fun {d} q1 q2 => w d (List.mem_filter.mpr ⟨q1, decide_eq_true q2⟩)
  obtain ⟨⟨ct, j0⟩, x0, n0, m0, nat0, code0, lock0, sig0⟩ := Cond.native_spec (wm (d := .native tFill0) (by simp [excAtoms, throwableAtoms]) (by simp))
  have fc : s.vm.findClass tN = some ct := findClass_of_methodNamed n0
  obtain ⟨kt, hkt, nm⟩ := Vm.findClass_spec fc
  have ini := Cond.initialized_spec fc hkt (wm (d := .initialized tN) (by simp [excAtoms, throwableAtoms]) (by simp))
  obtain ⟨_, k1, _, _, hk1, _, _, ord, _, ni⟩ := Cond.superclass_spec fc (wm (d := .superclass tN "java/lang/Object") (by simp [excAtoms, throwableAtoms]) (by simp))
  obtain rfl : kt = k1 := Option.some.inj (hkt.symm.trans hk1)
  obtain ⟨jF, xF, nF, mF, atF, stF, abF, -, -⟩ := Cond.ownMethod (x := tFill) fc hkt (wm (d := .instanceMethod tFill) (by simp [excAtoms, throwableAtoms]) (by simp))
  obtain ⟨xF', cF, mF', cdF, byF, loF, reF, lkF, -, sgF⟩ := Cond.codeSync_spec nF (wm (d := .codeSync tFill LibCode.Throwable.Fill.code 1 (some (.object tN))) (by simp [excAtoms, throwableAtoms]) (by simp))
  obtain rfl : xF = xF' := Option.some.inj (mF.symm.trans mF')
  obtain ⟨j0', x0', n0', m0', at0, st0, ab0, nm0, ds0⟩ := Cond.ownMethod (x := tFill0) fc hkt (wm (d := .instanceMethod tFill0) (by simp [excAtoms, throwableAtoms]) (by simp))
  obtain rfl : j0 = j0' := by simpa using Option.some.inj (n0.symm.trans n0')
  obtain rfl : x0 = x0' := Option.some.inj (m0.symm.trans m0')
  obtain ⟨mo, xo, no, hmo, sto, abo⟩ := Cond.instanceMethod_spec (wm (d := .instanceMethod oInit) (by simp [excAtoms, throwableAtoms]) (by simp))
  obtain ⟨xo', co, hmo', cdo, byo, loo, -, lko, -, sgo⟩ := Cond.code_spec no (wm (d := .code oInit ⟨#[0xb1]⟩ 1 none) (by simp [excAtoms, throwableAtoms]) (by simp))
  obtain rfl : xo = xo' := Option.some.inj (hmo.symm.trans hmo')
  obtain ⟨ko, hko, nmo⟩ := Vm.findClass_spec (findClass_of_methodNamed no)
  obtain ⟨nmeo, dso⟩ := name_of_methodNamed no hmo
  obtain ⟨ci1, a1, cf, l1, r1, hcf, q1⟩ := Cond.linkedMethod fc hkt no (wm (d := .methodLink tN 1 oInit) (by simp [excAtoms, throwableAtoms]) (by simp)) pl hp
  obtain ⟨ci27, a27, cf2, l27, r27, hcf2, q27⟩ := Cond.linkedMethod fc hkt nF (wm (d := .methodLink tN 27 tFill) (by simp [excAtoms, throwableAtoms]) (by simp)) pl hp
  obtain rfl : cf = cf2 := Option.some.inj (hcf.symm.trans hcf2)
  obtain ⟨ci202, a202, cf3, l202, r202, hcf3, q202⟩ := Cond.linkedMethod fc hkt n0 (wm (d := .methodLink tN 202 tFill0) (by simp [excAtoms, throwableAtoms]) (by simp)) pl hp
  obtain rfl : cf = cf3 := Option.some.inj (hcf.symm.trans hcf3)
  obtain ⟨u7, i7, f7, k7, g7, t7, s7, z7, -, -, -⟩ := Cond.ownField (t := .object tN) fc hkt (by decide +kernel) (wm (d := .fieldLink tN 7 tN "cause" thD) (by simp [excAtoms, throwableAtoms]) (by simp)) (wm (d := .lays rc tN "cause" thD) (by simp [excAtoms]) (by simp)) pl hp
  obtain ⟨u17, i17, f17, k17, g17, t17, s17, z17, n17, ty17, ff17⟩ := Cond.ownField (t := .array (.object "java/lang/StackTraceElement")) fc hkt (by decide +kernel) (wm (d := .fieldLink tN 17 tN "stackTrace" steD) (by simp [excAtoms, throwableAtoms]) (by simp)) (wm (d := .lays rc tN "stackTrace" steD) (by simp [excAtoms]) (by simp)) pl hp
  obtain ⟨u24, i24, f24, k24, g24, t24, s24, z24, n24, -, ff24⟩ := Cond.ownField (t := .object "java/util/List") fc hkt (by decide +kernel) (wm (d := .fieldLink tN 24 tN "suppressedExceptions" listD) (by simp [excAtoms, throwableAtoms]) (by simp)) (wm (d := .lays rc tN "suppressedExceptions" listD) (by simp [excAtoms]) hrc) pl hp
  obtain ⟨u13, i13, f13, aS, cellS, k13, g13, t13, s13, -, -, sta, hcS, isS, -, -, ff13⟩ := Cond.ownStatic (t := .array (.object "java/lang/StackTraceElement")) fc hkt (by decide +kernel) (wm (d := .fieldLink tN 13 tN "UNASSIGNED_STACK" steD) (by simp [excAtoms, throwableAtoms]) (by simp)) (wm (d := .laysStatic tN "UNASSIGNED_STACK" steD) (by simp [excAtoms, throwableAtoms]) (by simp)) pl hp
  obtain ⟨u20, i20, f20, _, _, k20, g20, t20, s20, -⟩ := Cond.ownStatic (t := .object "java/util/List") fc hkt (by decide +kernel) (wm (d := .fieldLink tN 20 tN "SUPPRESSED_SENTINEL" listD) (by simp [excAtoms, throwableAtoms]) (by simp)) (wm (d := .laysStatic tN "SUPPRESSED_SENTINEL" listD) (by simp [excAtoms, throwableAtoms]) (by simp)) pl hp
  obtain ⟨_, _, cM, kM, iM, fM, _, _, ffM, sM, zM, _⟩ := Cond.lays_spec (wm (d := .lays tN tN "detailMessage" msgD) (by simp [excAtoms, throwableAtoms]) (by simp))
  obtain ⟨c1, kr, hc1, hkr⟩ : ∃ c1 kr, s.vm.findClass rc = some c1 ∧ s.vm.classes[c1]? = some kr := by
    obtain ⟨c1, kr, _, _, _, _, e1, e2, _⟩ := Cond.lays_spec (wm (d := .lays rc tN "cause" thD) (by simp [excAtoms]) (by simp))
    exact ⟨c1, kr, e1, e2⟩
  obtain ⟨_, d17, e17, v17⟩ := Cond.laysAt hc1 hkr ff17 (wm (d := .lays rc tN "stackTrace" steD) (by simp [excAtoms]) (by simp))
  obtain ⟨_, d24, e24, v24⟩ := Cond.laysAt hc1 hkr ff24 (wm (d := .lays rc tN "suppressedExceptions" listD) (by simp [excAtoms]) hrc)
  have apart := Cond.laysApart e17 e24 v17 v24 (by rw [n17, n24]; decide)
  have pF : xF.sig.parameters = [] := by
    have : (parseMethodDescriptor tFill.desc).map (·.parameters) = some [] := by decide +kernel
    rw [sgF] at this; simpa using this
  have p0 : x0.sig.parameters = [.int] := by
    have : (parseMethodDescriptor tFill0.desc).map (·.parameters) = some [.int] := by decide +kernel
    rw [sig0] at this; simpa using this
  have pO : xo.sig.parameters.length = 0 := by
    have : (parseMethodDescriptor oInit.desc).map (·.parameters) = some [] := by decide +kernel
    rw [sgo] at this
    rw [show xo.sig.parameters = [] by simpa using this]; rfl
  refine ⟨{ cT := ct, kT := kt, cO := ct, aS := aS, fillIdx := jF, fill0Idx := j0, initSIdx := jF, obj := mo, kObj := ko, methFill := xF, methFill0 := x0, methInitS := xF, methObj := xo, codeFill := cF, codeInitS := cF, codeObj := co, fBack := f7, fDepth := f7, fStack := f17, fCause := f7, fSupp := f24, fMsg := fM, fUnassigned := f13, fSentinel := f20, cfT := cf, ci1 := ci1, n1 := a1, ci27 := ci27, n27 := a27, ci202 := ci202, n202 := a202, ci7 := u7, i7 := i7, ci13 := u13, i13 := i13, ci17 := u17, i17 := i17, ci20 := u20, i20 := i20, ci24 := u24, i24 := i24 }, ?_, fc, nF, n0, ff17, ff13, n17, ty17, cellS, hcS, isS⟩
  constructor
  all_goals first | assumption | (show lookupSpecial _ _ _ _ = _; rw [dso]; exact lookupSpecial_of_named no hmo sto) | exact Vm.findClass_boot fc hkt
theorem thW_ok {rc : String} : ∀ d ∈ thW rc, xOk d = true := fun d hd => List.all_eq_true.mp exc_ok d (List.mem_filter.mp hd).1
section Fill
variable {G : Wd} {I J : Inf} {Q : Po} {K : Rn} {S S' : List Addr} {h : Heap} {cs sl pc pc' : Nat} {ls ls' : Array Slot} {st st' : List Value} {a0 : Array Value}
/-- fillInStackTrace() in Throwable's constructor -/
theorem Ru.fill {a : Addr} {rc : String} {n : Nat} {u0 : Value} (hkn : G.kn = true) (htr : G.l.stackTraces = true) (hd : D1 I.b pc (.invokevirtual 27) 3 pc') (hy : I.y.cls = tN) (hrc : Jvm.Cond.lays rc tN "suppressedExceptions" listD ≠ Jvm.Cond.lays tN tN "suppressedExceptions" listD) (W : ∀ d ∈ thW rc, d.before a0 G.Z = true) (wi : (Cond.instantiable rc n).before a0 G.Z = true)
    (ha : a ∈ S) (E : Exa G.Z h a rc) (N : Unt h a) (B : Fld G.Z h a tN "backtrace" obD .null) (FS : Fld G.Z h a tN "stackTrace" steD u0) (Su : Sta G.Z G.Z.heap tN "UNASSIGNED_STACK" steD u0) (hu : u0.isRef = true) (hu0 : u0 ≠ .null) (hs : ls.size = I.n)
    (hf : 3 ≤ I.R.frames) (hlo : wt st + 42 ≤ I.R.locals) (hc : cs + 1 ≤ I.R.cells) (hsl : sl + 2752 ≤ I.R.slots)
    (k : ∀ h', Keep h h' [a] → WP G I Q K S h' (cs + 1) (sl + 2752) pc' ls (.ref a :: st)) : WP G I Q K S h cs sl pc ls (.ref a :: st) := by
  obtain ⟨hd, rfl⟩ := hd
  refine WP.keeps (ws := [a]) (na := 1) (nb := 2752) (P := fun _ => True) (by simpa using ha) ?_ (fun h' q _ => k h' q)
  intro vm0 T L ok X hZ hal hf' eT hE
  subst eT
  obtain ⟨kn1, kn2⟩ := kn_alike hal (ok.2.2.2.2.2.1.2.2 hkn)
  have hT0 : ThS G.Z (K.s.setVm vm0).heap := ThS.ext ok.2.2.2.2.2.1.2.1 ThS.start
  have W' : ∀ d ∈ thW rc, d.before K.args (K.s.setVm vm0) = true := fun d q => mvX hT0 hZ (thW_ok d q) (W d q)
  have wm : ∀ {d : Jvm.Cond}, d ∈ excAtoms rc → d ≠ Jvm.Cond.lays tN tN "suppressedExceptions" listD → d.holds K.args (K.s.setVm vm0) none (K.s.setVm vm0) [] = true := fun {d} q1 q2 => W' d (List.mem_filter.mpr ⟨q1, decide_eq_true q2⟩)
  have hpl : K.e.platform.magicAccessors = ({} : Platform).magicAccessors := by rw [X.admits.platform]
  have hst : K.e.platform.stackTraces = true := by rw [X.admits.platform]; exact htr
  obtain ⟨Tc, Ln, fT, fF, fF0, fStk, fUn, nStk, tyStk, cS0, hcS0, isS0⟩ := thr_links (by rw [X.admits.platform]) (by rw [X.admits.platform]) hpl hrc W'
  obtain ⟨cell, e1, vmN, mon⟩ := N
  obtain ⟨ce, ke, h1, h2, h3, h4, h5⟩ := E
  cases e1.symm.trans h1
  obtain ⟨kX, hkX, ekX⟩ := hZ.alike.2.2 _ _ h3
  have hfound : (K.s.setVm vm0).vm.findClass rc = some cell.cls := by show vm0.findClass rc = _; rw [hZ.alike.findClass]; exact h2
  obtain ⟨c2, cf2, k2, i2, f2, g1, g2, -, -, -, -, g7⟩ := FS
  cases e1.symm.trans g1
  obtain ⟨k2', q2, -⟩ := State.fieldFound?_setVm hZ.alike g2
  cases Option.some.inj (fStk.symm.trans q2)
  obtain ⟨cf3, i3, k3, f3, st3, cell3, s1, s2, s3, s4, s5, s6, s7⟩ := Su
  obtain ⟨k3', q3, ek3⟩ := State.fieldFound?_setVm hZ.alike s1
  cases Option.some.inj (fUn.symm.trans q3)
  have hst3 : Tc.kT.statics = some st3 := by rw [ek3]; exact s4
  obtain rfl : Tc.aS = st3 := Option.some.inj (Ln.statics.symm.trans hst3)
  have hcS : T.heap[Tc.aS]? = some cell3 := hE.2 _ _ s5
  have hneS : Tc.aS ≠ a := fun z => by
    rw [z, e1] at hcS
    rw [← Option.some.inj hcS, vmN] at s6
    cases s6
  have ord : kX.kind = .ordinary ∧ cell.slots.size = kX.instanceTypes.size := by
    obtain ⟨c4, k4, w1, w2, w3, -⟩ := Cond.instantiable_spec wi
    cases Option.some.inj (h2.symm.trans w1)
    cases h3.symm.trans w2
    exact ⟨by rw [ekX]; exact w3, by rw [ekX]; exact h5 w3⟩
  have hsel0 : selectMethod K.e.platform vm0 cell.cls Tc.fill0 = .method Tc.fill0 := by
    obtain ⟨c5, r5, m5, w1, w2, w3, w4, -⟩ := Cond.selects_spec (wm (d := .selects rc tFill0 tFill0) (by simp [excAtoms]) (by simp))
    cases Option.some.inj (w1.symm.trans hfound)
    cases Option.some.inj (w2.symm.trans (State.methodFound?_of_named fF0 (by decide)))
    cases Option.some.inj (w3.symm.trans fF0)
    rw [Launch.admits_selectMethod X.admits]; exact w4
  obtain ⟨u198, i198, fB, k198, g198, t198, sB, -, nB, tB, ffB⟩ := Cond.ownField (t := .object "java/lang/Object") fT Ln.cls (by decide +kernel) (wm (d := .fieldLink tN 198 tN "backtrace" obD) (by simp [excAtoms]) (by simp)) (wm (d := .lays tN tN "backtrace" obD) (by simp [excAtoms]) (by simp)) K.e.platform hpl
  obtain ⟨c6, cf6, k6, i6, f6, b1, b2, -, -, -, -, b7⟩ := B
  cases e1.symm.trans b1
  obtain ⟨k6', q6, -⟩ := State.fieldFound?_setVm hZ.alike b2
  cases Option.some.inj (ffB.symm.trans q6)
  obtain ⟨_, _, cD, kD, iD, fD, -, -, ffD, stD, -, -, -, -⟩ := Cond.lays_spec (wm (d := .lays rc tN "depth" "I") (by simp [excAtoms]) (by simp))
  cases Option.some.inj ((Cond.lays_declared (wm (d := .lays rc tN "depth" "I") (by simp [excAtoms]) (by simp)) ffD).symm.trans fT)
  obtain ⟨hkD, atD⟩ := State.fieldFound?_spec ffD
  cases Option.some.inj (hkD.symm.trans Ln.cls)
  obtain ⟨nD, tyD⟩ := State.fieldFound?_type ffD (t := .int) (by decide +kernel)
  have hfb := Cond.soleField_find fT Ln.cls (wm (d := .soleField tN "backtrace") (by simp [excAtoms]) (by simp)) t198 nB sB
  have hfd := Cond.soleField_find fT Ln.cls (wm (d := .soleField tN "depth") (by simp [excAtoms]) (by simp)) atD nD stD
  obtain ⟨comp, cO, kO, -, -, hkO, kdO, hO⟩ := Cond.arrayOver_spec (W' (.arrayOver (.object "java/lang/Object")) (List.mem_filter.mpr ⟨by simp [excAtoms], by simp⟩))
  obtain ⟨tyS, -⟩ := Cond.laysAt hfound hkX fStk (wm (d := .lays rc tN "stackTrace" steD) (by simp [excAtoms]) (by simp))
  obtain ⟨tyB', -⟩ := Cond.laysAt hfound hkX ffB (wm (d := .lays rc tN "backtrace" obD) (by simp [excAtoms]) (by simp))
  obtain ⟨tyD', -⟩ := Cond.laysAt hfound hkX ffD (wm (d := .lays rc tN "depth" "I") (by simp [excAtoms]) (by simp))
  have tk : ∀ {f : Field} {v : Value}, kX.instanceTypes[f.slot]? = some f.type → fits f.type v = true → Jvm.Takes (K.s.setVm vm0) cell f v := fun {f v} w1 w2 => by
    obtain ⟨y1, y2⟩ := Takes.of_laid (s := K.s.setVm vm0) (v := v) hkX ord.1 w1 w2
    exact ⟨by rw [ord.2]; simpa using y1, by rw [vmN]; exact y2⟩
  have wb : ∀ {d : Jvm.Cond}, d ∈ excAtoms rc → d ≠ Jvm.Cond.lays tN tN "suppressedExceptions" listD → d.before K.args (K.s.setVm vm0) = true := fun {d} q1 q2 => W' d (List.mem_filter.mpr ⟨q1, decide_eq_true q2⟩)
  have hSE := wb (d := .selects rc tFill tFill) (by simp [excAtoms]) (by simp)
  have alen : (([] : List Value)).length = 0 := rfl
  obtain ⟨v6, vm6, ⟨T6, L6, c6, n6⟩, hW6, X6, ⟨hv6, vm7, lines, hlines, hW7, hU, hL6, hc6, hn6⟩, come⟩ := X.virtualBack ok.1 (own := tN) (C := rc) (index := 27) (y := tFill) (z := tFill) (hy ▸ hf') (wb (d := .methodLink tN 27 tFill) (by simp [excAtoms, throwableAtoms]) (by simp)) (wb (d := .declares tFill) (by simp [excAtoms]) (by simp)) (notFace_of_selects hSE) hSE (wb (d := .instanceMethod tFill) (by simp [excAtoms, throwableAtoms]) (by simp)) (by decide)
    (Jvm.Free.Str.fillPays (l := G.l) (W := wt st) ok.1 hst Tc Ln fF (u0 := ⟨u0, hu⟩) hu0 (self := a) (cell := cell) (cellS := cell3) (fun _ => by rw [vmN]; simp) (by rw [vmN]; simp) (by rw [mon]) (by rw [mon]) g7 hsel0 hneS (fun z => by rw [z] at s6; cases s6) s7 (tk tyS (by rw [tyStk]; exact fits_refV_array _ ⟨u0, hu⟩))
      ⟨{ ci198 := u198, i198 := i198, fBack := fB }, ⟨k198, g198, t198, sB⟩, b7⟩ kn1 kn2 fT hO hkO kdO hfb hfd (fun x => tk tyB' (by rw [tB]; rfl)) (fun x => tk tyD' (by rw [tyD]; rfl)) hf hlo)
    (b := a) (cB := cell.cls) hfound ⟨cell, e1, rfl, by rw [vmN]; rfl⟩ (g := mkF K.m pc ls (.ref a :: st)) rfl (hs.trans ok.2.2.1.symm) (Steps.refl _) (argsL := []) (rest := st)
    (fun sig q => by rw [show parseMethodDescriptor tFill.desc = some ⟨[], some (.object tN)⟩ from by decide +kernel] at q; rw [← Option.some.inj q]; rfl) rfl (by show 2 * 0 + wt st ≤ _; rw [Nat.mul_zero, Nat.zero_add]; exact Nat.le_refl _) (ok.2.1 ▸ hd)
    (fun vmx hWx => ⟨rfl, hc, hsl, e1, hcS⟩)
  dsimp only [Pt.U, Pt.locs, Pt.cells, Pt.slots] at X6 hU hL6 hc6 hn6 come
  subst hv6 hL6 hc6 hn6
  have al : a < T.heap.size := (Array.getElem?_eq_some_iff.mp e1).1
  obtain ⟨F, hF⟩ : ∃ F : Cell, F = Jvm.Free.Str.filledOn Tc.toThrowableT fB fD cell ⟨u0, hu⟩ (T.setVm vm6).heap.size lines.length.toInt32 := ⟨_, rfl⟩
  have hh : T6.heap = (T.heap.push (traceHolder cO lines)).setIfInBounds a F := by rw [hU, hF]; rfl
  have F1 : F.cls = cell.cls ∧ F.vm = cell.vm ∧ F.slots.size = cell.slots.size := by rw [hF]; exact ⟨rfl, rfl, by simp [Jvm.Free.Str.filledOn, Cell.setSlot]⟩
  refine ⟨T6, _, _, X6.mono (Nat.le_refl _) (Nat.add_le_add_left (traceHolder_size_le cO hlines) _), hh, ⟨by simp, fun x cx q nx => ?_, fun x cx q => ?_⟩, fun y hy => ?_, trivial, fun target q => come.trans q⟩
  · rw [Array.getElem?_setIfInBounds_ne (fun z => nx (by simp [z])), Array.getElem?_push, if_neg (Nat.ne_of_lt (Array.getElem?_eq_some_iff.mp q).1)]; exact q
  · by_cases z : a = x
    · subst z; cases q.symm.trans e1; exact ⟨F, by rw [Array.getElem?_setIfInBounds, if_pos rfl, if_pos (by rw [Array.size_push]; exact Nat.lt_succ_of_lt al)], F1⟩
    · exact ⟨cx, by rw [Array.getElem?_setIfInBounds_ne z, Array.getElem?_push, if_neg (Nat.ne_of_lt (Array.getElem?_eq_some_iff.mp q).1)]; exact q, rfl, rfl, rfl⟩
  · simp only [List.mem_cons, List.not_mem_nil, or_false] at hy
    rcases hy with rfl | rfl | rfl <;> exact List.mem_singleton.mpr rfl
end Fill
end Jvm.Own
namespace Jvm.Pilot.@@N@@
open Jvm Jvm.ClassFile Sem Op Lib Jvm.Free Jvm.Stand Jvm.LawKit Jvm.RoadKit Bundle Jvm.Pilot.@@N@@.Jvm.D Jvm.Own
def lits_1 : List (String × Nat) := [("com/example/ilan/ilan/engine/BrokerException", 33), ("com/example/ilan/ilan/engine/BrokerException", 44), ("com/example/ilan/ilan/engine/BrokerExceptionAlreadyExistsPinLaw", 57), ("java/lang/String", 7)]
def Ev (G : Own.Wd) (a0 : Array Value) : Prop := (∀ d ∈ tables_1, d.before a0 G.Z = true) ∧ (∃ cz : Int32, Sta G.Z G.Z.heap "java/lang/String" "COMPACT_STRINGS" "Z" (.int cz) ∧ ¬ cz = 0) ∧ G.nar = false ∧ (∀ p ∈ lits_1, p ∈ G.E) ∧ (∃ v : Value, v.isRef = true ∧ Sta G.Z G.Z.heap "jdk/internal/util/Preconditions" "SIOOBE_FORMATTER" "Ljava/util/function/BiFunction;" v) ∧ (G.kn = true ∧ G.l.stackTraces = true ∧ ((∃ u : Value, u.isRef = true ∧ u ≠ .null ∧ Sta G.Z G.Z.heap "java/lang/Throwable" "UNASSIGNED_STACK" "[Ljava/lang/StackTraceElement;" u) ∧ ∃ v : Value, v.isRef = true ∧ Sta G.Z G.Z.heap "java/lang/Throwable" "SUPPRESSED_SENTINEL" "Ljava/util/List;" v) ∧ ∃ r : Addr, Sta G.Z G.Z.heap "com/example/ilan/ilan/engine/BrokerException$Reason" "ALREADY_EXISTS" "Lcom/example/ilan/ilan/engine/BrokerException$Reason;" (.ref r))
theorem Ev.w {G : Own.Wd} {a0 : Array Value} (e : Ev G a0) (i : Nat) {d : Jvm.Cond} (q : tables_1[i]? = some d) : d.before a0 G.Z = true := e.1 d (List.mem_of_getElem? q)
theorem Ev.cz {G : Own.Wd} {a0 : Array Value} (e : Ev G a0) : ∃ cz : Int32, Sta G.Z G.Z.heap "java/lang/String" "COMPACT_STRINGS" "Z" (.int cz) ∧ ¬ cz = 0 := e.2.1
theorem Ev.nar {G : Own.Wd} {a0 : Array Value} (e : Ev G a0) : G.nar = false := e.2.2.1
theorem Ev.el {G : Own.Wd} {a0 : Array Value} (e : Ev G a0) : ∀ p ∈ lits_1, p ∈ G.E := e.2.2.2.1
theorem str_atoms : ∀ a ∈ Bundle.stringAtoms, a ∈ tables_1 := by decide +kernel
theorem Ev.sa {G : Own.Wd} {a0 : Array Value} (e : Ev G a0) : ∀ a ∈ Bundle.stringAtoms, a.before a0 G.Z = true := fun a h => e.1 a (str_atoms a h)
theorem Ev.fm {G : Own.Wd} {a0 : Array Value} (e : Ev G a0) : (∃ v : Value, v.isRef = true ∧ Sta G.Z G.Z.heap "jdk/internal/util/Preconditions" "SIOOBE_FORMATTER" "Ljava/util/function/BiFunction;" v) := e.2.2.2.2.1
theorem Ev.more {G : Own.Wd} {a0 : Array Value} (e : Ev G a0) : (G.kn = true ∧ G.l.stackTraces = true ∧ ((∃ u : Value, u.isRef = true ∧ u ≠ .null ∧ Sta G.Z G.Z.heap "java/lang/Throwable" "UNASSIGNED_STACK" "[Ljava/lang/StackTraceElement;" u) ∧ ∃ v : Value, v.isRef = true ∧ Sta G.Z G.Z.heap "java/lang/Throwable" "SUPPRESSED_SENTINEL" "Ljava/util/List;" v) ∧ ∃ r : Addr, Sta G.Z G.Z.heap "com/example/ilan/ilan/engine/BrokerException$Reason" "ALREADY_EXISTS" "Lcom/example/ilan/ilan/engine/BrokerException$Reason;" (.ref r)) := e.2.2.2.2.2
abbrev I_comp2 : Own.Inf := (⟨"java/lang/StringUTF16", "compress", "([CI[BII)I"⟩, jdk_52_method_21_code, 7, (Option.some Jvm.ClassFile.FieldType.int), { frames := 0, cells := 0, slots := 0, locals := 0 }, [], [])
theorem d_comp2_0 : Own.D1 jdk_52_method_21_code 0 (.iconst 0) 1 1 := ⟨by decide +kernel, rfl⟩
theorem d_comp2_1 : Own.D1 jdk_52_method_21_code 1 (.istore 5) 2 3 := ⟨by decide +kernel, rfl⟩
theorem d_comp2_3 : Own.D1 jdk_52_method_21_code 3 (.iload 5) 2 5 := ⟨by decide +kernel, rfl⟩
theorem d_comp2_5 : Own.D1 jdk_52_method_21_code 5 (.iload 4) 2 7 := ⟨by decide +kernel, rfl⟩
theorem d_comp2_7 : Own.DB jdk_52_method_21_code 7 (.if_icmp .ge 37) 3 (37) 10 44 := ⟨by decide +kernel, rfl, by decide, rfl⟩
theorem d_comp2_10 : Own.D1 jdk_52_method_21_code 10 (.aload_n 0) 1 11 := ⟨by decide +kernel, rfl⟩
theorem d_comp2_11 : Own.D1 jdk_52_method_21_code 11 (.iload_n 1) 1 12 := ⟨by decide +kernel, rfl⟩
theorem d_comp2_12 : Own.D1 jdk_52_method_21_code 12 .caload 1 13 := ⟨by decide +kernel, rfl⟩
theorem d_comp2_13 : Own.D1 jdk_52_method_21_code 13 (.istore 6) 2 15 := ⟨by decide +kernel, rfl⟩
theorem d_comp2_15 : Own.D1 jdk_52_method_21_code 15 (.iload 6) 2 17 := ⟨by decide +kernel, rfl⟩
theorem d_comp2_17 : Own.D1 jdk_52_method_21_code 17 (.sipush 255) 3 20 := ⟨by decide +kernel, rfl⟩
theorem d_comp2_20 : Own.DB jdk_52_method_21_code 20 (.if_icmp .le 6) 3 (6) 23 26 := ⟨by decide +kernel, rfl, by decide, rfl⟩
theorem d_comp2_23 : Own.D1 jdk_52_method_21_code 23 (.iload 5) 2 25 := ⟨by decide +kernel, rfl⟩
theorem d_comp2_25 : Own.D1 jdk_52_method_21_code 25 .ireturn 1 26 := ⟨by decide +kernel, rfl⟩
theorem d_comp2_26 : Own.D1 jdk_52_method_21_code 26 (.aload_n 2) 1 27 := ⟨by decide +kernel, rfl⟩
theorem d_comp2_27 : Own.D1 jdk_52_method_21_code 27 (.iload_n 3) 1 28 := ⟨by decide +kernel, rfl⟩
theorem d_comp2_28 : Own.D1 jdk_52_method_21_code 28 (.iload 6) 2 30 := ⟨by decide +kernel, rfl⟩
theorem d_comp2_30 : Own.D1 jdk_52_method_21_code 30 .i2b 1 31 := ⟨by decide +kernel, rfl⟩
theorem d_comp2_31 : Own.D1 jdk_52_method_21_code 31 .bastore 1 32 := ⟨by decide +kernel, rfl⟩
theorem d_comp2_32 : Own.D1 jdk_52_method_21_code 32 (.iinc 1 1) 3 35 := ⟨by decide +kernel, rfl⟩
theorem d_comp2_35 : Own.D1 jdk_52_method_21_code 35 (.iinc 3 1) 3 38 := ⟨by decide +kernel, rfl⟩
theorem d_comp2_38 : Own.D1 jdk_52_method_21_code 38 (.iinc 5 1) 3 41 := ⟨by decide +kernel, rfl⟩
theorem d_comp2_41 : Own.DB jdk_52_method_21_code 41 (.goto (-38)) 3 (-38) 44 3 := ⟨by decide +kernel, rfl, by decide, rfl⟩
theorem d_comp2_44 : Own.D1 jdk_52_method_21_code 44 (.iload 4) 2 46 := ⟨by decide +kernel, rfl⟩
theorem d_comp2_46 : Own.D1 jdk_52_method_21_code 46 .ireturn 1 47 := ⟨by decide +kernel, rfl⟩
theorem pn_0 : plainName "java/lang/StringUTF16" = true := by first | (simp [plainName, overriddenIn]; done) | decide +kernel
theorem np_comp2 : Own.npar "([CI[BII)I" = some 5 := by decide +kernel
set_option maxRecDepth 65536 in
set_option maxHeartbeats 40000000 in
theorem c_comp2 {G : Own.Wd} {a0 : Array Value} (e : Ev G a0) {a b : Addr} {cs : List Int32} {vs : List Value} {n : Nat} {h : Heap} (hA : Ary G.Z h a .char (cs.map Value.int)) (hC : ∀ c ∈ cs, IsC c) (hB : Ary G.Z h b .byte vs) (hn : n ≤ cs.length) (hv : n ≤ vs.length) : Met G I_comp2 #[(.ref a), (.int (n32 0)), (.ref b), (.int (n32 0)), (.int (n32 n))] h [b] (Rt (fun x h' S' => S' = [] ∧ ∃ r, r ≤ n ∧ x = .int (n32 r) ∧ (∀ c ∈ cs.take r, IsL c) ∧ (r < n → ∃ c, cs[r]? = some c ∧ (255 : Int32) < c) ∧ Keep h h' [b] ∧ Ary G.Z h' b .byte ((cs.take r).map lat ++ vs.drop r))) := by
  refine Met.intro (ls := #[.val (.ref a), .val (.int (n32 0)), .val (.ref b), .val (.int (n32 0)), .val (.int (n32 n)), .unset, .unset]) (plainFor_of_name pn_0) (fun m => by first | (simp [entryFrame, mkF, argsToLocals, Value.category, I_comp2]; done) | (simp [entryFrame, mkF, argsToLocals, Value.category]; rfl) | rfl) ?_
  intro K
  have hab : a ≠ b := hA.ne hB (by decide)
  have hcs : cs.length < 2147483648 := by obtain ⟨c, -, e1, e2, -⟩ := hA; simpa using e2
  have loop : ∀ (d i : Nat) (o6 : Slot) (h1 : Heap), One o6 → i + d = n → (∀ c ∈ cs.take i, IsL c) → Keep h h1 [b] → Ary G.Z h1 b .byte ((cs.take i).map lat ++ vs.drop i) → WP G I_comp2 (Rt (fun x h' S' => S' = [] ∧ ∃ r, r ≤ n ∧ x = .int (n32 r) ∧ (∀ c ∈ cs.take r, IsL c) ∧ (r < n → ∃ c, cs[r]? = some c ∧ (255 : Int32) < c) ∧ Keep h h' [b] ∧ Ary G.Z h' b .byte ((cs.take r).map lat ++ vs.drop r))) K [b] h1 0 0 3 #[.val (.ref a), .val (.int (n32 i)), .val (.ref b), .val (.int (n32 i)), .val (.int (n32 n)), .val (.int (n32 i)), o6] [] := by
    intro d
    induction d with
    | zero =>
      intro i o6 h1 ho hi hL hK hB1
      obtain rfl : i = n := by omega
      refine Ru.iload d_comp2_3 rfl ?_
      refine Ru.iload d_comp2_5 rfl ?_
      refine Ru.icmpY d_comp2_7 (show ¬ (n32 i) < (n32 i) from (by simp)) ?_
      refine Ru.iload d_comp2_44 rfl ?_
      exact Ru.ireturn d_comp2_46 rfl [] (fun _ q => nomatch q) (Nat.le_of_ble_eq_true rfl) (Nat.le_of_ble_eq_true rfl) ⟨_, rfl, rfl, i, Nat.le_refl _, rfl, hL, fun q => absurd q (Nat.lt_irrefl _), hK, hB1⟩
    | succ d ih =>
      intro i o6 h1 ho hi hL hK hB1
      have hin : i < n := by omega
      have hic : i < cs.length := by omega
      obtain ⟨c, hc⟩ : ∃ c, cs[i]? = some c := ⟨_, List.getElem?_eq_getElem hic⟩
      have hA1 := hA.keep hK (ninS hab nin0)
      refine Ru.iload d_comp2_3 rfl ?_
      refine Ru.iload d_comp2_5 rfl ?_
      refine Ru.icmpN d_comp2_7 (show (n32 i) < (n32 n) from ((n32_lt (by omega) (by omega)).mpr hin)) ?_
      refine Ru.aloadN d_comp2_10 rfl rfl ?_
      refine Ru.iloadN d_comp2_11 rfl ?_
      refine Ru.caload (v := (.int c)) d_comp2_12 hA1 (n32_nn (by omega)) (by rw [n32_cl (by omega)]; simp [hc]) ?_
      refine Ru.istoreG d_comp2_13 (ls' := #[.val (.ref a), .val (.int (n32 i)), .val (.ref b), .val (.int (n32 i)), .val (.int (n32 n)), .val (.int (n32 i)), .val (.int c)]) rfl ho rfl ?_
      refine Ru.iload d_comp2_15 rfl ?_
      refine Ru.sipush (x := 255) d_comp2_17 rfl ?_
      refine Ru.icmp d_comp2_20 (fun (c1 : ¬ (255 : Int32) < c) => ?_) (fun (c1 : (255 : Int32) < c) => ?_)
      · refine Ru.aloadN d_comp2_26 rfl rfl ?_
        refine Ru.iloadN d_comp2_27 rfl ?_
        refine Ru.iload d_comp2_28 rfl ?_
        refine Ru.i2b d_comp2_30 ?_
        refine Ru.bastore d_comp2_31 (by simp) hB1 (n32_nn (by omega)) (by rw [n32_cl (by omega)]; simp; omega) ?_
        intro h2 K2 hB2
        rw [n32_cl (by omega), i8i8, show (Value.int c.toInt8.toInt32) = lat c from rfl, set_step lat hc (by omega)] at hB2
        refine Ru.iinc (y := (1 : Int32)) d_comp2_32 rfl rfl (ls' := #[.val (.ref a), .val (.int ((n32 i) + (1 : Int32))), .val (.ref b), .val (.int (n32 i)), .val (.int (n32 n)), .val (.int (n32 i)), .val (.int c)]) rfl ?_
        refine Ru.iinc (y := (1 : Int32)) d_comp2_35 rfl rfl (ls' := #[.val (.ref a), .val (.int ((n32 i) + (1 : Int32))), .val (.ref b), .val (.int ((n32 i) + (1 : Int32))), .val (.int (n32 n)), .val (.int (n32 i)), .val (.int c)]) rfl ?_
        refine Ru.iinc (y := (1 : Int32)) d_comp2_38 rfl rfl (ls' := #[.val (.ref a), .val (.int ((n32 i) + (1 : Int32))), .val (.ref b), .val (.int ((n32 i) + (1 : Int32))), .val (.int (n32 n)), .val (.int ((n32 i) + (1 : Int32))), .val (.int c)]) rfl ?_
        refine Ru.goto d_comp2_41 ?_
        rw [n32_succ]
        refine ih (i + 1) _ h2 (One.val rfl) (by omega) ?_ (hK.trans K2 (by simp)) hB2
        rw [List.take_succ_eq_append_getElem hic, (List.getElem?_eq_some_iff.mp hc).2]
        intro z hz; rcases List.mem_append.mp hz with hz | hz
        · exact hL z hz
        · rw [List.mem_singleton.mp hz]; exact ⟨(hC c (List.mem_of_getElem? hc)).1, c1⟩
      · refine Ru.iload d_comp2_23 rfl ?_
        exact Ru.ireturn d_comp2_25 rfl [] (fun _ q => nomatch q) (Nat.le_of_ble_eq_true rfl) (Nat.le_of_ble_eq_true rfl) ⟨_, rfl, rfl, i, by omega, rfl, hL, fun _ => ⟨c, hc, c1⟩, hK, hB1⟩
  refine Ru.iconst (x := 0) d_comp2_0 rfl ?_
  refine WP.topI (show (0 : Int32) = n32 0 from rfl) ?_
  refine Ru.istore d_comp2_1 (ls' := #[.val (.ref a), .val (.int (n32 0)), .val (.ref b), .val (.int (n32 0)), .val (.int (n32 n)), .val (.int (n32 0)), .unset]) rfl ?_
  exact loop n 0 _ h One.u (by omega) (by simp) (Keep.refl _ _) (by simpa using hB)
abbrev I_cfal : Own.Inf := (⟨"java/lang/StringUTF16", "coderFromArrayLen", "([BI)B"⟩, jdk_52_method_15_code, 2, (Option.some Jvm.ClassFile.FieldType.byte), { frames := 0, cells := 0, slots := 0, locals := 0 }, [], [])
theorem d_cfal_0 : Own.D1 jdk_52_method_15_code 0 (.iload_n 1) 1 1 := ⟨by decide +kernel, rfl⟩
theorem d_cfal_1 : Own.D1 jdk_52_method_15_code 1 (.aload_n 0) 1 2 := ⟨by decide +kernel, rfl⟩
theorem d_cfal_2 : Own.D1 jdk_52_method_15_code 2 .arraylength 1 3 := ⟨by decide +kernel, rfl⟩
theorem d_cfal_3 : Own.D1 jdk_52_method_15_code 3 .isub 1 4 := ⟨by decide +kernel, rfl⟩
theorem d_cfal_4 : Own.D1 jdk_52_method_15_code 4 (.bipush 31) 2 6 := ⟨by decide +kernel, rfl⟩
theorem d_cfal_6 : Own.D1 jdk_52_method_15_code 6 .iushr 1 7 := ⟨by decide +kernel, rfl⟩
theorem d_cfal_7 : Own.D1 jdk_52_method_15_code 7 .i2b 1 8 := ⟨by decide +kernel, rfl⟩
theorem d_cfal_8 : Own.D1 jdk_52_method_15_code 8 .ireturn 1 9 := ⟨by decide +kernel, rfl⟩
theorem np_cfal : Own.npar "([BI)B" = some 2 := by decide +kernel
set_option maxRecDepth 65536 in
set_option maxHeartbeats 40000000 in
theorem c_cfal {G : Own.Wd} {a0 : Array Value} (e : Ev G a0) {t : Addr} {vs : List Value} {n : Nat} {h : Heap} (hA : Ary G.Z h t .byte vs) (hq : n ≤ vs.length) (hl : vs.length < 2147483648) : Met G I_cfal #[(.ref t), (.int (n32 n))] h [] (Rt (fun x h' S' => S' = [] ∧ h' = h ∧ x = .int (if vs.length = n then (0 : Int32) else (1 : Int32)))) := by
  refine Met.intro (ls := #[.val (.ref t), .val (.int (n32 n))]) (plainFor_of_name pn_0) (fun m => by first | (simp [entryFrame, mkF, argsToLocals, Value.category, I_cfal]; done) | (simp [entryFrame, mkF, argsToLocals, Value.category]; rfl) | rfl) ?_
  intro K
  refine Ru.iloadN d_cfal_0 rfl ?_
  refine Ru.aloadN d_cfal_1 rfl rfl ?_
  refine Ru.arraylength (n := (n32 vs.length)) d_cfal_2 hA rfl ?_
  refine Ru.isub d_cfal_3 ?_
  refine Ru.bipush (x := 31) d_cfal_4 rfl ?_
  refine Ru.iushr d_cfal_6 ?_
  refine Ru.i2b d_cfal_7 ?_
  exact Ru.ireturnN (t := .byte) d_cfal_8 rfl (by simp) (cfal_nar hq hl) [] (fun _ q => nomatch q) (Nat.le_of_ble_eq_true rfl) (Nat.le_of_ble_eq_true rfl) ⟨_, rfl, rfl, rfl, rfl⟩
abbrev I_comp1 : Own.Inf := (⟨"java/lang/StringUTF16", "compress", "([CII)[B"⟩, jdk_52_method_16_code, 6, (Option.some (Jvm.ClassFile.FieldType.array Jvm.ClassFile.FieldType.byte)), { frames := 1, cells := 1, slots := 4, locals := 18 }, [], [])
theorem d_comp1_0 : Own.D1 jdk_52_method_16_code 0 (.iload_n 2) 1 1 := ⟨by decide +kernel, rfl⟩
theorem d_comp1_1 : Own.D1 jdk_52_method_16_code 1 (.newarray .byte) 2 3 := ⟨by decide +kernel, rfl⟩
theorem d_comp1_3 : Own.D1 jdk_52_method_16_code 3 (.astore_n 3) 1 4 := ⟨by decide +kernel, rfl⟩
theorem d_comp1_4 : Own.D1 jdk_52_method_16_code 4 (.aload_n 0) 1 5 := ⟨by decide +kernel, rfl⟩
theorem d_comp1_5 : Own.D1 jdk_52_method_16_code 5 (.iload_n 1) 1 6 := ⟨by decide +kernel, rfl⟩
theorem d_comp1_6 : Own.D1 jdk_52_method_16_code 6 (.aload_n 3) 1 7 := ⟨by decide +kernel, rfl⟩
theorem d_comp1_7 : Own.D1 jdk_52_method_16_code 7 (.iconst 0) 1 8 := ⟨by decide +kernel, rfl⟩
theorem d_comp1_8 : Own.D1 jdk_52_method_16_code 8 (.iload_n 2) 1 9 := ⟨by decide +kernel, rfl⟩
theorem d_comp1_9 : Own.D1 jdk_52_method_16_code 9 (.invokestatic 115) 3 12 := ⟨by decide +kernel, rfl⟩
theorem d_comp1_12 : Own.D1 jdk_52_method_16_code 12 (.istore 4) 2 14 := ⟨by decide +kernel, rfl⟩
theorem d_comp1_14 : Own.D1 jdk_52_method_16_code 14 (.iload 4) 2 16 := ⟨by decide +kernel, rfl⟩
theorem d_comp1_16 : Own.D1 jdk_52_method_16_code 16 (.iload_n 2) 1 17 := ⟨by decide +kernel, rfl⟩
theorem d_comp1_17 : Own.DB jdk_52_method_16_code 17 (.if_icmp .eq 40) 3 (40) 20 57 := ⟨by decide +kernel, rfl, by decide, rfl⟩
theorem d_comp1_20 : Own.D1 jdk_52_method_16_code 20 (.aload_n 0) 1 21 := ⟨by decide +kernel, rfl⟩
theorem d_comp1_21 : Own.D1 jdk_52_method_16_code 21 (.iload_n 1) 1 22 := ⟨by decide +kernel, rfl⟩
theorem d_comp1_22 : Own.D1 jdk_52_method_16_code 22 (.iload_n 2) 1 23 := ⟨by decide +kernel, rfl⟩
theorem d_comp1_23 : Own.D1 jdk_52_method_16_code 23 (.invokestatic 119) 3 26 := ⟨by decide +kernel, rfl⟩
theorem d_comp1_26 : Own.D1 jdk_52_method_16_code 26 (.astore 5) 2 28 := ⟨by decide +kernel, rfl⟩
theorem d_comp1_28 : Own.D1 jdk_52_method_16_code 28 (.aload 5) 2 30 := ⟨by decide +kernel, rfl⟩
theorem d_comp1_30 : Own.D1 jdk_52_method_16_code 30 (.iload 4) 2 32 := ⟨by decide +kernel, rfl⟩
theorem d_comp1_32 : Own.D1 jdk_52_method_16_code 32 (.invokestatic 71) 3 35 := ⟨by decide +kernel, rfl⟩
theorem d_comp1_35 : Own.D1 jdk_52_method_16_code 35 (.sipush 255) 3 38 := ⟨by decide +kernel, rfl⟩
theorem d_comp1_38 : Own.DB jdk_52_method_16_code 38 (.if_icmp .gt 16) 3 (16) 41 54 := ⟨by decide +kernel, rfl, by decide, rfl⟩
theorem d_comp1_41 : Own.D1 jdk_52_method_16_code 41 (.aload 5) 2 43 := ⟨by decide +kernel, rfl⟩
theorem d_comp1_43 : Own.D1 jdk_52_method_16_code 43 (.iconst 0) 1 44 := ⟨by decide +kernel, rfl⟩
theorem d_comp1_44 : Own.D1 jdk_52_method_16_code 44 (.aload_n 3) 1 45 := ⟨by decide +kernel, rfl⟩
theorem d_comp1_45 : Own.D1 jdk_52_method_16_code 45 (.iconst 0) 1 46 := ⟨by decide +kernel, rfl⟩
theorem d_comp1_46 : Own.D1 jdk_52_method_16_code 46 (.iload_n 2) 1 47 := ⟨by decide +kernel, rfl⟩
theorem d_comp1_47 : Own.D1 jdk_52_method_16_code 47 (.invokestatic 123) 3 50 := ⟨by decide +kernel, rfl⟩
theorem d_comp1_50 : Own.D1 jdk_52_method_16_code 50 (.iload_n 2) 1 51 := ⟨by decide +kernel, rfl⟩
theorem d_comp1_51 : Own.DB jdk_52_method_16_code 51 (.if_icmp .eq 6) 3 (6) 54 57 := ⟨by decide +kernel, rfl, by decide, rfl⟩
theorem d_comp1_54 : Own.D1 jdk_52_method_16_code 54 (.aload 5) 2 56 := ⟨by decide +kernel, rfl⟩
theorem d_comp1_56 : Own.D1 jdk_52_method_16_code 56 .areturn 1 57 := ⟨by decide +kernel, rfl⟩
theorem d_comp1_57 : Own.D1 jdk_52_method_16_code 57 (.aload_n 3) 1 58 := ⟨by decide +kernel, rfl⟩
theorem d_comp1_58 : Own.D1 jdk_52_method_16_code 58 .areturn 1 59 := ⟨by decide +kernel, rfl⟩
theorem np_comp1 : Own.npar "([CII)[B" = some 3 := by decide +kernel
set_option maxRecDepth 65536 in
set_option maxHeartbeats 40000000 in
theorem c_comp1 {G : Own.Wd} {a0 : Array Value} (e : Ev G a0) {a : Addr} {cs : List Int32} {n : Nat} {h : Heap} (hA : Ary G.Z h a .char (cs.map Value.int)) (hC : ∀ c ∈ cs, IsC c) (hn : n ≤ cs.length) (hcap : n ≤ 4) (hL : ∀ c ∈ cs.take n, IsL c) : Met G I_comp1 #[(.ref a), (.int (n32 0)), (.int (n32 n))] h [] (Rt (fun x h' S' => ∃ t, x = .ref t ∧ h.size ≤ t ∧ S' = [t] ∧ Keep h h' [] ∧ Ary G.Z h' t .byte ((cs.take n).map lat))) := by
  refine Met.intro (ls := #[.val (.ref a), .val (.int (n32 0)), .val (.int (n32 n)), .unset, .unset, .unset]) (plainFor_of_name pn_0) (fun m => by first | (simp [entryFrame, mkF, argsToLocals, Value.category, I_comp1]; done) | (simp [entryFrame, mkF, argsToLocals, Value.category]; rfl) | rfl) ?_
  intro K
  have hcs : cs.length < 2147483648 := by obtain ⟨c, -, e1, e2, -⟩ := hA; simpa using e2
  refine Ru.iloadN d_comp1_0 rfl ?_
  refine Ru.newarray (cap := 4) d_comp1_1 (ty := .byte) rfl (e.w 19 rfl) rfl (n32_nn (by omega)) (by rw [n32_cl (by omega)]; exact hcap) (Nat.le_of_ble_eq_true rfl) (Nat.le_of_ble_eq_true rfl) (Nat.le_of_ble_eq_true rfl) ?_
  intro h1 t gt E1 T1
  rw [n32_cl (by omega)] at T1
  have hA1 := hA.ext E1
  refine Ru.astoreN d_comp1_3 rfl (ls' := #[.val (.ref a), .val (.int (n32 0)), .val (.int (n32 n)), .val (.ref t), .unset, .unset]) rfl ?_
  refine Ru.aloadN d_comp1_4 rfl rfl ?_
  refine Ru.iloadN d_comp1_5 rfl ?_
  refine Ru.aloadN d_comp1_6 rfl rfl ?_
  refine Ru.iconst (x := 0) d_comp1_7 rfl ?_
  refine WP.topI (show (0 : Int32) = (n32 0) from rfl) ?_
  refine Ru.iloadN d_comp1_8 rfl ?_
  refine Ru.callS0 (J := I_comp2) (c_comp2 e (n := n) hA1 hC T1 hn (by simp)) d_comp1_9 (e.w 289 rfl) (e.w 290 rfl) (e.w 287 rfl) (e.w 291 rfl) (by decide) np_comp2 rfl (argsL := [(.ref a), (.int (n32 0)), (.ref t), (.int (n32 0)), (.int (n32 n))]) (rest := []) rfl rfl (by simp) (Nat.le_of_ble_eq_true rfl) (Nat.le_of_ble_eq_true rfl) (Nat.le_of_ble_eq_true rfl) (Nat.le_of_ble_eq_true rfl) (WP.rt ?_)
  rintro _ h2 S2 ⟨rfl, r, hr, rfl, hL2, hr2, K2, T2⟩
  obtain rfl : n = r := by rcases Nat.lt_or_ge r n with q | q; · obtain ⟨c, q1, q2⟩ := hr2 q; exact absurd q2 (hL c (List.mem_of_getElem? (i := r) (by rw [List.getElem?_take, if_pos q]; exact q1))).2
                           · omega
  refine Ru.istore d_comp1_12 (ls' := #[.val (.ref a), .val (.int (n32 0)), .val (.int (n32 n)), .val (.ref t), .val (.int (n32 n)), .unset]) rfl ?_
  refine Ru.iload d_comp1_14 rfl ?_
  refine Ru.iloadN d_comp1_16 rfl ?_
  refine Ru.icmpY d_comp1_17 (show (n32 n) = (n32 n) from rfl) ?_
  refine Ru.aloadN d_comp1_57 rfl rfl ?_
  have T3 : Ary G.Z h2 t .byte ((cs.take n).map lat) := by simpa using T2
  exact Ru.areturn (t := (.array .byte)) d_comp1_58 rfl rfl rfl rfl [t] (by simp) (Nat.le_of_ble_eq_true rfl) (Nat.le_of_ble_eq_true rfl) ⟨_, rfl, t, rfl, by omega, rfl, ((keepE E1).trans K2 (by simp; omega)), T3⟩
abbrev I_si4 : Own.Inf := (⟨"java/lang/String", "<init>", "([CIILjava/lang/Void;)V"⟩, jdk_42_method_149_code, 6, (Option.none : Option Jvm.ClassFile.FieldType), { frames := 2, cells := 1, slots := 4, locals := 35 }, [], [])
theorem d_si4_0 : Own.D1 jdk_42_method_149_code 0 (.aload_n 0) 1 1 := ⟨by decide +kernel, rfl⟩
theorem d_si4_1 : Own.D1 jdk_42_method_149_code 1 (.invokespecial 1) 3 4 := ⟨by decide +kernel, rfl⟩
theorem d_si4_4 : Own.D1 jdk_42_method_149_code 4 (.iload_n 3) 1 5 := ⟨by decide +kernel, rfl⟩
theorem d_si4_5 : Own.DB jdk_42_method_149_code 5 (.ifCond .ne 22) 3 (22) 8 27 := ⟨by decide +kernel, rfl, by decide, rfl⟩
theorem d_si4_8 : Own.D1 jdk_42_method_149_code 8 (.aload_n 0) 1 9 := ⟨by decide +kernel, rfl⟩
theorem d_si4_9 : Own.D1 jdk_42_method_149_code 9 (.ldc 7) 2 11 := ⟨by decide +kernel, rfl⟩
theorem d_si4_11 : Own.D1 jdk_42_method_149_code 11 (.getfield 9) 3 14 := ⟨by decide +kernel, rfl⟩
theorem d_si4_14 : Own.D1 jdk_42_method_149_code 14 (.putfield 9) 3 17 := ⟨by decide +kernel, rfl⟩
theorem d_si4_17 : Own.D1 jdk_42_method_149_code 17 (.aload_n 0) 1 18 := ⟨by decide +kernel, rfl⟩
theorem d_si4_18 : Own.D1 jdk_42_method_149_code 18 (.ldc 7) 2 20 := ⟨by decide +kernel, rfl⟩
theorem d_si4_20 : Own.D1 jdk_42_method_149_code 20 (.getfield 15) 3 23 := ⟨by decide +kernel, rfl⟩
theorem d_si4_23 : Own.D1 jdk_42_method_149_code 23 (.putfield 15) 3 26 := ⟨by decide +kernel, rfl⟩
theorem d_si4_26 : Own.D1 jdk_42_method_149_code 26 .return_ 1 27 := ⟨by decide +kernel, rfl⟩
theorem d_si4_27 : Own.D1 jdk_42_method_149_code 27 (.getstatic 38) 3 30 := ⟨by decide +kernel, rfl⟩
theorem d_si4_30 : Own.DB jdk_42_method_149_code 30 (.ifCond .eq 28) 3 (28) 33 58 := ⟨by decide +kernel, rfl, by decide, rfl⟩
theorem d_si4_33 : Own.D1 jdk_42_method_149_code 33 (.aload_n 1) 1 34 := ⟨by decide +kernel, rfl⟩
theorem d_si4_34 : Own.D1 jdk_42_method_149_code 34 (.iload_n 2) 1 35 := ⟨by decide +kernel, rfl⟩
theorem d_si4_35 : Own.D1 jdk_42_method_149_code 35 (.iload_n 3) 1 36 := ⟨by decide +kernel, rfl⟩
theorem d_si4_36 : Own.D1 jdk_42_method_149_code 36 (.invokestatic 177) 3 39 := ⟨by decide +kernel, rfl⟩
theorem d_si4_39 : Own.D1 jdk_42_method_149_code 39 (.astore 5) 2 41 := ⟨by decide +kernel, rfl⟩
theorem d_si4_41 : Own.D1 jdk_42_method_149_code 41 (.aload_n 0) 1 42 := ⟨by decide +kernel, rfl⟩
theorem d_si4_42 : Own.D1 jdk_42_method_149_code 42 (.aload 5) 2 44 := ⟨by decide +kernel, rfl⟩
theorem d_si4_44 : Own.D1 jdk_42_method_149_code 44 (.iload_n 3) 1 45 := ⟨by decide +kernel, rfl⟩
theorem d_si4_45 : Own.D1 jdk_42_method_149_code 45 (.invokestatic 47) 3 48 := ⟨by decide +kernel, rfl⟩
theorem d_si4_48 : Own.D1 jdk_42_method_149_code 48 (.putfield 15) 3 51 := ⟨by decide +kernel, rfl⟩
theorem d_si4_51 : Own.D1 jdk_42_method_149_code 51 (.aload_n 0) 1 52 := ⟨by decide +kernel, rfl⟩
theorem d_si4_52 : Own.D1 jdk_42_method_149_code 52 (.aload 5) 2 54 := ⟨by decide +kernel, rfl⟩
theorem d_si4_54 : Own.D1 jdk_42_method_149_code 54 (.putfield 9) 3 57 := ⟨by decide +kernel, rfl⟩
theorem d_si4_57 : Own.D1 jdk_42_method_149_code 57 .return_ 1 58 := ⟨by decide +kernel, rfl⟩
theorem d_si4_58 : Own.D1 jdk_42_method_149_code 58 (.aload_n 0) 1 59 := ⟨by decide +kernel, rfl⟩
theorem d_si4_59 : Own.D1 jdk_42_method_149_code 59 (.iconst 1) 1 60 := ⟨by decide +kernel, rfl⟩
theorem d_si4_60 : Own.D1 jdk_42_method_149_code 60 (.putfield 15) 3 63 := ⟨by decide +kernel, rfl⟩
theorem d_si4_63 : Own.D1 jdk_42_method_149_code 63 (.aload_n 0) 1 64 := ⟨by decide +kernel, rfl⟩
theorem d_si4_64 : Own.D1 jdk_42_method_149_code 64 (.aload_n 1) 1 65 := ⟨by decide +kernel, rfl⟩
theorem d_si4_65 : Own.D1 jdk_42_method_149_code 65 (.iload_n 2) 1 66 := ⟨by decide +kernel, rfl⟩
theorem d_si4_66 : Own.D1 jdk_42_method_149_code 66 (.iload_n 3) 1 67 := ⟨by decide +kernel, rfl⟩
theorem d_si4_67 : Own.D1 jdk_42_method_149_code 67 (.invokestatic 180) 3 70 := ⟨by decide +kernel, rfl⟩
theorem d_si4_70 : Own.D1 jdk_42_method_149_code 70 (.putfield 9) 3 73 := ⟨by decide +kernel, rfl⟩
theorem d_si4_73 : Own.D1 jdk_42_method_149_code 73 .return_ 1 74 := ⟨by decide +kernel, rfl⟩
theorem pn_1 : plainName "java/lang/String" = true := by first | (simp [plainName, overriddenIn]; done) | decide +kernel
theorem np_si4 : Own.npar "([CIILjava/lang/Void;)V" = some 4 := by decide +kernel
set_option maxRecDepth 65536 in
set_option maxHeartbeats 40000000 in
theorem c_si4 {G : Own.Wd} {a0 : Array Value} (e : Ev G a0) {a b : Addr} {cs : List Int32} {n : Nat} {v0 : Value} {c0 : Int32} {h : Heap} (E0 : Exa G.Z h a "java/lang/String") (Fv : Fld G.Z h a "java/lang/String" "value" "[B" v0) (Fc : Fld G.Z h a "java/lang/String" "coder" "B" (.int c0)) (hA : Ary G.Z h b .char (cs.map Value.int)) (hC : ∀ c ∈ cs, IsC c) (hn : n ≤ cs.length) (h0 : 0 < n) (hcap : n ≤ 4) (hL : ∀ c ∈ cs.take n, IsL c) : Met G I_si4 #[(.ref a), (.ref b), (.int (n32 0)), (.int (n32 n)), .null] h [a] (Rv (fun h' S' => S' = [] ∧ ∃ t, h.size ≤ t ∧ Keep h h' [a] ∧ StrL G.Z h' a t (cs.take n))) := by
  refine Met.intro (ls := #[.val (.ref a), .val (.ref b), .val (.int (n32 0)), .val (.int (n32 n)), .val .null, .unset]) (plainFor_of_name pn_1) (fun m => by first | (simp [entryFrame, mkF, argsToLocals, Value.category, I_si4]; done) | (simp [entryFrame, mkF, argsToLocals, Value.category]; rfl) | rfl) ?_
  intro K
  have hcs : cs.length < 2147483648 := by obtain ⟨c, -, e1, e2, -⟩ := hA; simpa using e2
  obtain ⟨cz, hcz, hz⟩ := e.cz
  have hne : Jvm.RoadKit.slotOf G.Z "java/lang/String" "coder" "B" ≠ Jvm.RoadKit.slotOf G.Z "java/lang/String" "value" "[B" := slot_ne (Or.inr (e.w 21 rfl)) (Or.inr (e.w 20 rfl)) (by decide) (t := .byte) (by decide) (t' := .array .byte) (by decide)
  refine Ru.aloadN d_si4_0 rfl rfl ?_
  refine Ru.initO d_si4_1 (e.w 15 rfl) (e.w 16 rfl) (e.w 17 rfl) rfl (Nat.le_of_ble_eq_true rfl) (Nat.le_of_ble_eq_true rfl) ?_
  refine Ru.iloadN d_si4_4 rfl ?_
  refine Ru.ifY d_si4_5 (show ¬ (n32 n) = (0 : Int32) from (fun q => by have := (n32_eq (n := n) (m := 0) (by omega) (by omega)).mp q; omega)) ?_
  refine Ru.getstatic d_si4_27 (e.w 73 rfl) hcz ?_
  refine Ru.ifN d_si4_30 (show ¬ cz = (0 : Int32) from hz) ?_
  refine Ru.aloadN d_si4_33 rfl rfl ?_
  refine Ru.iloadN d_si4_34 rfl ?_
  refine Ru.iloadN d_si4_35 rfl ?_
  refine Ru.callS0 (J := I_comp1) (c_comp1 e (n := n) hA hC hn hcap hL) d_si4_36 (e.w 285 rfl) (e.w 286 rfl) (e.w 287 rfl) (e.w 288 rfl) (by decide) np_comp1 rfl (argsL := [(.ref b), (.int (n32 0)), (.int (n32 n))]) (rest := []) rfl rfl (fun _ q => nomatch q) (Nat.le_of_ble_eq_true rfl) (Nat.le_of_ble_eq_true rfl) (Nat.le_of_ble_eq_true rfl) (Nat.le_of_ble_eq_true rfl) (WP.rt ?_)
  rintro _ h1 S1 ⟨t, rfl, gt, rfl, K1, T1⟩
  have at_ := E0.lt
  have F1 := Fv.keep K1 nin0; have F2 := Fc.keep K1 nin0; have E1 := E0.keep K1
  refine Ru.astore d_si4_39 rfl (ls' := #[.val (.ref a), .val (.ref b), .val (.int (n32 0)), .val (.int (n32 n)), .val .null, .val (.ref t)]) rfl ?_
  refine Ru.aloadN d_si4_41 rfl rfl ?_
  refine Ru.aload d_si4_42 rfl rfl ?_
  refine Ru.iloadN d_si4_44 rfl ?_
  refine Ru.callS0 (J := I_cfal) (c_cfal e (n := n) T1 (by simp; omega) (by simp; omega)) d_si4_45 (e.w 292 rfl) (e.w 293 rfl) (e.w 287 rfl) (e.w 294 rfl) (by decide) np_cfal rfl (argsL := [(.ref t), (.int (n32 n))]) (rest := [(.ref a)]) rfl rfl (fun _ q => nomatch q) (Nat.le_of_ble_eq_true rfl) (Nat.le_of_ble_eq_true rfl) (Nat.le_of_ble_eq_true rfl) (Nat.le_of_ble_eq_true rfl) (WP.rt ?_)
  rintro _ _ S2 ⟨rfl, rfl, rfl⟩
  refine WP.topI (show (if ((cs.take n).map lat).length = n then (0 : Int32) else (1 : Int32)) = (0 : Int32) from (if_pos (by simp; omega))) ?_
  refine Ru.putfield d_si4_48 (e.w 25 rfl) Via.refl (by simp) F2 E1 (Or.inr ⟨(e.w 21 rfl), rfl, rfl⟩) (e.w 5 rfl) (ty := .byte) (by decide) rfl rfl ?_
  intro h2 W2
  have K2 := Keep.of_wr W2; have hta : t ≠ a := Nat.ne_of_gt (Nat.lt_of_lt_of_le at_ gt)
  have G2 := F2.same W2; have G1 := F1.other W2 (Or.inr hne.symm); have E2 := E1.wr W2; have T2 := T1.keep K2 (ninS hta nin0)
  refine Ru.aloadN d_si4_51 rfl rfl ?_
  refine Ru.aload d_si4_52 rfl rfl ?_
  refine Ru.putfield d_si4_54 (e.w 24 rfl) Via.refl (by simp) G1 E2 (Or.inr ⟨(e.w 20 rfl), rfl, rfl⟩) (e.w 5 rfl) (ty := (.array .byte)) (by decide) rfl rfl ?_
  intro h3 W3
  have K3 := Keep.of_wr W3
  exact Ru.ret d_si4_57 rfl [] (fun _ q => nomatch q) (Nat.le_of_ble_eq_true rfl) (Nat.le_of_ble_eq_true rfl) ⟨rfl, rfl, t, gt, (((k0 K1).trans K2 (by simp)).trans K3 (by simp)), E2.wr W3, G1.same W3, G2.other W3 (Or.inr hne), T2.keep K3 (ninS hta nin0), hL⟩
abbrev I_si : Own.Inf := (⟨"java/lang/String", "<init>", "([C)V"⟩, jdk_42_method_3_code, 2, (Option.none : Option Jvm.ClassFile.FieldType), { frames := 3, cells := 1, slots := 4, locals := 52 }, [], [])
theorem d_si_0 : Own.D1 jdk_42_method_3_code 0 (.aload_n 0) 1 1 := ⟨by decide +kernel, rfl⟩
theorem d_si_1 : Own.D1 jdk_42_method_3_code 1 (.aload_n 1) 1 2 := ⟨by decide +kernel, rfl⟩
theorem d_si_2 : Own.D1 jdk_42_method_3_code 2 (.iconst 0) 1 3 := ⟨by decide +kernel, rfl⟩
theorem d_si_3 : Own.D1 jdk_42_method_3_code 3 (.aload_n 1) 1 4 := ⟨by decide +kernel, rfl⟩
theorem d_si_4 : Own.D1 jdk_42_method_3_code 4 .arraylength 1 5 := ⟨by decide +kernel, rfl⟩
theorem d_si_5 : Own.D1 jdk_42_method_3_code 5 .aconst_null 1 6 := ⟨by decide +kernel, rfl⟩
theorem d_si_6 : Own.D1 jdk_42_method_3_code 6 (.invokespecial 27) 3 9 := ⟨by decide +kernel, rfl⟩
theorem d_si_9 : Own.D1 jdk_42_method_3_code 9 .return_ 1 10 := ⟨by decide +kernel, rfl⟩
theorem np_si : Own.npar "([C)V" = some 1 := by decide +kernel
set_option maxRecDepth 65536 in
set_option maxHeartbeats 40000000 in
theorem c_si {G : Own.Wd} {a0 : Array Value} (e : Ev G a0) {a b : Addr} {cs : List Int32} {v0 : Value} {c0 : Int32} {h : Heap} (E0 : Exa G.Z h a "java/lang/String") (Fv : Fld G.Z h a "java/lang/String" "value" "[B" v0) (Fc : Fld G.Z h a "java/lang/String" "coder" "B" (.int c0)) (hA : Ary G.Z h b .char (cs.map Value.int)) (h0 : 0 < cs.length) (hcap : cs.length ≤ 4) (hL : ∀ c ∈ cs, IsL c) : Met G I_si #[(.ref a), (.ref b)] h [a] (Rv (fun h' S' => S' = [] ∧ ∃ t, h.size ≤ t ∧ Keep h h' [a] ∧ StrL G.Z h' a t cs)) := by
  refine Met.intro (ls := #[.val (.ref a), .val (.ref b)]) (plainFor_of_name pn_1) (fun m => by first | (simp [entryFrame, mkF, argsToLocals, Value.category, I_si]; done) | (simp [entryFrame, mkF, argsToLocals, Value.category]; rfl) | rfl) ?_
  intro K
  have hC : ∀ c ∈ cs, IsC c := fun c q => (hL c q).c
  refine Ru.aloadN d_si_0 rfl rfl ?_
  refine Ru.aloadN d_si_1 rfl rfl ?_
  refine Ru.iconst (x := 0) d_si_2 rfl ?_
  refine WP.topI (show (0 : Int32) = (n32 0) from rfl) ?_
  refine Ru.aloadN d_si_3 rfl rfl ?_
  refine Ru.arraylength (n := (n32 cs.length)) d_si_4 hA (by simp [n32]) ?_
  refine Ru.aconstNull d_si_5 ?_
  refine Ru.callI0 (J := I_si4) (c_si4 e (n := cs.length) E0 Fv Fc hA hC (Nat.le_refl _) h0 hcap (by simpa using hL)) d_si_6 rfl rfl (e.w 11 rfl) (e.w 12 rfl) (e.w 6 rfl) (e.w 14 rfl) (by decide) np_si4 rfl (a := a) (argsL := [(.ref b), (.int (n32 0)), (.int (n32 cs.length)), .null]) (rest := []) rfl rfl (by simp) (Nat.le_of_ble_eq_true rfl) (Nat.le_of_ble_eq_true rfl) (Nat.le_of_ble_eq_true rfl) (Nat.le_of_ble_eq_true rfl) (WP.rv ?_)
  rintro h1 S1 ⟨rfl, t, gt, K1, T1⟩
  exact Ru.ret d_si_9 rfl [] (fun _ q => nomatch q) (Nat.le_of_ble_eq_true rfl) (Nat.le_of_ble_eq_true rfl) ⟨rfl, rfl, t, gt, K1, by simpa using T1⟩
abbrev I_si4e : Own.Inf := (I_si4.1, I_si4.2.1, I_si4.2.2.1, I_si4.2.2.2.1, { frames := 1, cells := 4, slots := 8, locals := 12 }, [], [])
set_option maxRecDepth 65536 in
set_option maxHeartbeats 40000000 in
theorem c_si4e {G : Own.Wd} {a0 : Array Value} (e : Ev G a0) {a b : Addr} {v0 : Value} {c0 : Int32} {h : Heap} (E0 : Exa G.Z h a "java/lang/String") (Fv : Fld G.Z h a "java/lang/String" "value" "[B" v0) (Fc : Fld G.Z h a "java/lang/String" "coder" "B" (.int c0)) : Met G I_si4e #[(.ref a), (.ref b), (.int (n32 0)), (.int (n32 0)), .null] h [a] (Rv (fun h' S' => S' = [] ∧ ∃ t, Keep h h' [a] ∧ StrL G.Z h' a t [])) := by
  refine Met.intro (ls := #[.val (.ref a), .val (.ref b), .val (.int (n32 0)), .val (.int (n32 0)), .val .null, .unset]) (plainFor_of_name pn_1) (fun m => by first | (simp [entryFrame, mkF, argsToLocals, Value.category, I_si4e]; done) | (simp [entryFrame, mkF, argsToLocals, Value.category]; rfl) | rfl) ?_
  intro K
  have hne : Jvm.RoadKit.slotOf G.Z "java/lang/String" "coder" "B" ≠ Jvm.RoadKit.slotOf G.Z "java/lang/String" "value" "[B" := slot_ne (Or.inr (e.w 21 rfl)) (Or.inr (e.w 20 rfl)) (by decide) (t := .byte) (by decide) (t' := .array .byte) (by decide)
  refine Ru.aloadN d_si4_0 rfl rfl ?_
  refine Ru.initO d_si4_1 (e.w 15 rfl) (e.w 16 rfl) (e.w 17 rfl) rfl (Nat.le_of_ble_eq_true rfl) (Nat.le_of_ble_eq_true rfl) ?_
  refine Ru.iloadN d_si4_4 rfl ?_
  refine Ru.ifN d_si4_5 (show (n32 0) = (0 : Int32) from rfl) ?_
  refine Ru.aloadN d_si4_8 rfl rfl ?_
  refine Ru.ldcStr (n := 0) (vs := []) e.nar d_si4_9 (e.el _ (by decide)) (e.w 18 rfl) e.sa (by decide) (by decide) (by decide) (by decide) (Nat.le_of_ble_eq_true rfl) (Nat.le_of_ble_eq_true rfl) ?_
  intro h1 l1 b1 E1 X1 C1 V1 T1 N1
  have A1 := E0.ext E1; have G1 := Fld.ext E1 Fv; have G2 := Fld.ext E1 Fc; have n1 := N1 a (by simp)
  refine Ru.getfield d_si4_11 (e.w 24 rfl) Via.refl V1 ?_
  refine Ru.putfield d_si4_14 (e.w 24 rfl) Via.refl (by simp) G1 A1 (Or.inr ⟨(e.w 20 rfl), rfl, rfl⟩) (e.w 5 rfl) (ty := (.array .byte)) (by decide) rfl rfl ?_
  intro h2 W2
  have K2 := Keep.of_wr W2; have A2 := A1.wr W2; have H1 := G1.same W2; have H2 := G2.other W2 (Or.inr hne); have T2 := T1.keep K2 (ninS n1.2.symm nin0)
  refine Ru.aloadN d_si4_17 rfl rfl ?_
  refine Ru.ldcStr (n := 0) (vs := []) e.nar d_si4_18 (e.el _ (by decide)) (e.w 18 rfl) e.sa (by decide) (by decide) (by decide) (by decide) (Nat.le_of_ble_eq_true rfl) (Nat.le_of_ble_eq_true rfl) ?_
  intro h3 l2 b2 E3 X3 C3 V3 T3 N3
  have A3 := A2.ext E3; have J1 := Fld.ext E3 H1; have J2 := Fld.ext E3 H2; have T4 := T2.ext E3
  refine Ru.getfield d_si4_20 (e.w 25 rfl) Via.refl C3 ?_
  refine Ru.putfield d_si4_23 (e.w 25 rfl) Via.refl (by simp) J2 A3 (Or.inr ⟨(e.w 21 rfl), rfl, rfl⟩) (e.w 5 rfl) (ty := .byte) (by decide) rfl rfl ?_
  intro h4 W4
  have K4 := Keep.of_wr W4
  exact Ru.ret d_si4_26 rfl [] (fun _ q => nomatch q) (Nat.le_of_ble_eq_true rfl) (Nat.le_of_ble_eq_true rfl) ⟨rfl, rfl, b1, ((((k0 (keepE E1)).trans K2 (by simp)).trans (keepE E3) (by simp)).trans K4 (by simp)), A3.wr W4, J1.other W4 (Or.inr hne.symm), J2.same W4, T4.keep K4 (ninS n1.2.symm nin0), by simp⟩
theorem np_si4e : Own.npar "([CIILjava/lang/Void;)V" = some 4 := np_si4
abbrev I_sie : Own.Inf := (I_si.1, I_si.2.1, I_si.2.2.1, I_si.2.2.2.1, { frames := 2, cells := 4, slots := 8, locals := 29 }, [], [])
theorem np_sie : Own.npar "([C)V" = some 1 := np_si
set_option maxRecDepth 65536 in
set_option maxHeartbeats 40000000 in
theorem c_sie {G : Own.Wd} {a0 : Array Value} (e : Ev G a0) {a b : Addr} {v0 : Value} {c0 : Int32} {h : Heap} (E0 : Exa G.Z h a "java/lang/String") (Fv : Fld G.Z h a "java/lang/String" "value" "[B" v0) (Fc : Fld G.Z h a "java/lang/String" "coder" "B" (.int c0)) (hA : Ary G.Z h b .char []) : Met G I_sie #[(.ref a), (.ref b)] h [a] (Rv (fun h' S' => S' = [] ∧ ∃ t, Keep h h' [a] ∧ StrL G.Z h' a t [])) := by
  refine Met.intro (ls := #[.val (.ref a), .val (.ref b)]) (plainFor_of_name pn_1) (fun m => by first | (simp [entryFrame, mkF, argsToLocals, Value.category, I_sie]; done) | (simp [entryFrame, mkF, argsToLocals, Value.category]; rfl) | rfl) ?_
  intro K
  refine Ru.aloadN d_si_0 rfl rfl ?_
  refine Ru.aloadN d_si_1 rfl rfl ?_
  refine Ru.iconst (x := 0) d_si_2 rfl ?_
  refine WP.topI (show (0 : Int32) = (n32 0) from rfl) ?_
  refine Ru.aloadN d_si_3 rfl rfl ?_
  refine Ru.arraylength (n := (n32 0)) d_si_4 hA rfl ?_
  refine Ru.aconstNull d_si_5 ?_
  refine Ru.callI0 (J := I_si4e) (c_si4e e E0 Fv Fc) d_si_6 rfl rfl (e.w 11 rfl) (e.w 12 rfl) (e.w 6 rfl) (e.w 14 rfl) (by decide) np_si4e rfl (a := a) (argsL := [(.ref b), (.int (n32 0)), (.int (n32 0)), .null]) (rest := []) rfl rfl (by simp) (Nat.le_of_ble_eq_true rfl) (Nat.le_of_ble_eq_true rfl) (Nat.le_of_ble_eq_true rfl) (Nat.le_of_ble_eq_true rfl) (WP.rv ?_)
  rintro h1 S1 ⟨rfl, t, K1, T1⟩
  exact Ru.ret d_si_9 rfl [] (fun _ q => nomatch q) (Nat.le_of_ble_eq_true rfl) (Nat.le_of_ble_eq_true rfl) ⟨rfl, rfl, t, K1, T1⟩
abbrev I_canenc : Own.Inf := (⟨"java/lang/StringLatin1", "canEncode", "(C)Z"⟩, jdk_43_method_3_code, 1, (Option.some Jvm.ClassFile.FieldType.boolean), { frames := 0, cells := 0, slots := 0, locals := 0 }, [], [])
theorem d_canenc_0 : Own.D1 jdk_43_method_3_code 0 (.iload_n 0) 1 1 := ⟨by decide +kernel, rfl⟩
theorem d_canenc_1 : Own.D1 jdk_43_method_3_code 1 (.sipush 255) 3 4 := ⟨by decide +kernel, rfl⟩
theorem d_canenc_4 : Own.DB jdk_43_method_3_code 4 (.if_icmp .gt 7) 3 (7) 7 11 := ⟨by decide +kernel, rfl, by decide, rfl⟩
theorem d_canenc_7 : Own.D1 jdk_43_method_3_code 7 (.iconst 1) 1 8 := ⟨by decide +kernel, rfl⟩
theorem d_canenc_8 : Own.DB jdk_43_method_3_code 8 (.goto 4) 3 (4) 11 12 := ⟨by decide +kernel, rfl, by decide, rfl⟩
theorem d_canenc_11 : Own.D1 jdk_43_method_3_code 11 (.iconst 0) 1 12 := ⟨by decide +kernel, rfl⟩
theorem d_canenc_12 : Own.D1 jdk_43_method_3_code 12 .ireturn 1 13 := ⟨by decide +kernel, rfl⟩
theorem pn_2 : plainName "java/lang/StringLatin1" = true := by first | (simp [plainName, overriddenIn]; done) | decide +kernel
theorem np_canenc : Own.npar "(C)Z" = some 1 := by decide +kernel
set_option maxRecDepth 65536 in
set_option maxHeartbeats 40000000 in
theorem c_canenc {G : Own.Wd} {a0 : Array Value} (e : Ev G a0) {c : Int32} {h : Heap} (hL : IsL c) : Met G I_canenc #[(.int c)] h [] (Rt (fun x h' S' => S' = [] ∧ h' = h ∧ x = .int 1)) := by
  refine Met.intro (ls := #[.val (.int c)]) (plainFor_of_name pn_2) (fun m => by first | (simp [entryFrame, mkF, argsToLocals, Value.category, I_canenc]; done) | (simp [entryFrame, mkF, argsToLocals, Value.category]; rfl) | rfl) ?_
  intro K
  refine Ru.iloadN d_canenc_0 rfl ?_
  refine Ru.sipush (x := 255) d_canenc_1 rfl ?_
  refine Ru.icmpN d_canenc_4 (show ¬ (255 : Int32) < c from hL.2) ?_
  refine Ru.iconst (x := 1) d_canenc_7 rfl ?_
  refine Ru.goto d_canenc_8 ?_
  exact Ru.ireturnN (t := .boolean) (x' := (1 : Int32)) d_canenc_12 rfl (by simp) rfl [] (fun _ q => nomatch q) (Nat.le_of_ble_eq_true rfl) (Nat.le_of_ble_eq_true rfl) ⟨_, rfl, rfl, rfl, rfl⟩
abbrev I_tob1 : Own.Inf := (⟨"java/lang/StringLatin1", "toBytes", "(C)[B"⟩, jdk_43_method_46_code, 1, (Option.some (Jvm.ClassFile.FieldType.array Jvm.ClassFile.FieldType.byte)), { frames := 0, cells := 1, slots := 1, locals := 0 }, [], [])
theorem d_tob1_0 : Own.D1 jdk_43_method_46_code 0 (.iconst 1) 1 1 := ⟨by decide +kernel, rfl⟩
theorem d_tob1_1 : Own.D1 jdk_43_method_46_code 1 (.newarray .byte) 2 3 := ⟨by decide +kernel, rfl⟩
theorem d_tob1_3 : Own.D1 jdk_43_method_46_code 3 .dup 1 4 := ⟨by decide +kernel, rfl⟩
theorem d_tob1_4 : Own.D1 jdk_43_method_46_code 4 (.iconst 0) 1 5 := ⟨by decide +kernel, rfl⟩
theorem d_tob1_5 : Own.D1 jdk_43_method_46_code 5 (.iload_n 0) 1 6 := ⟨by decide +kernel, rfl⟩
theorem d_tob1_6 : Own.D1 jdk_43_method_46_code 6 .i2b 1 7 := ⟨by decide +kernel, rfl⟩
theorem d_tob1_7 : Own.D1 jdk_43_method_46_code 7 .bastore 1 8 := ⟨by decide +kernel, rfl⟩
theorem d_tob1_8 : Own.D1 jdk_43_method_46_code 8 .areturn 1 9 := ⟨by decide +kernel, rfl⟩
theorem np_tob1 : Own.npar "(C)[B" = some 1 := by decide +kernel
set_option maxRecDepth 65536 in
set_option maxHeartbeats 40000000 in
theorem c_tob1 {G : Own.Wd} {a0 : Array Value} (e : Ev G a0) {c : Int32} {h : Heap}  : Met G I_tob1 #[(.int c)] h [] (Rt (fun x h' S' => ∃ t, x = .ref t ∧ h.size ≤ t ∧ S' = [t] ∧ Keep h h' [] ∧ Ary G.Z h' t .byte ([c].map lat))) := by
  refine Met.intro (ls := #[.val (.int c)]) (plainFor_of_name pn_2) (fun m => by first | (simp [entryFrame, mkF, argsToLocals, Value.category, I_tob1]; done) | (simp [entryFrame, mkF, argsToLocals, Value.category]; rfl) | rfl) ?_
  intro K
  refine Ru.iconst (x := 1) d_tob1_0 rfl ?_
  refine Ru.newarray (cap := 1) d_tob1_1 (ty := .byte) rfl (e.w 19 rfl) rfl (by decide) (Nat.le_of_ble_eq_true rfl) (Nat.le_of_ble_eq_true rfl) (Nat.le_of_ble_eq_true rfl) (Nat.le_of_ble_eq_true rfl) ?_
  intro h1 t gt E1 T1
  refine Ru.dup d_tob1_3 rfl ?_
  refine Ru.iconst (x := 0) d_tob1_4 rfl ?_
  refine Ru.iloadN d_tob1_5 rfl ?_
  refine Ru.i2b d_tob1_6 ?_
  refine Ru.bastore d_tob1_7 (by simp) T1 (by decide) (Nat.le_of_ble_eq_true rfl) ?_
  intro h2 K2 T2
  have T3 : Ary G.Z h2 t .byte ([c].map lat) := by rw [i8i8] at T2; exact T2
  exact Ru.areturn (t := (.array .byte)) d_tob1_8 rfl rfl rfl rfl [t] (by simp) (Nat.le_of_ble_eq_true rfl) (Nat.le_of_ble_eq_true rfl) ⟨_, rfl, t, rfl, by omega, rfl, ((keepE E1).trans K2 (by simp; omega)), T3⟩
abbrev I_sib : Own.Inf := (⟨"java/lang/String", "<init>", "([BB)V"⟩, jdk_42_method_151_code, 3, (Option.none : Option Jvm.ClassFile.FieldType), { frames := 1, cells := 0, slots := 0, locals := 12 }, [], [])
theorem d_sib_0 : Own.D1 jdk_42_method_151_code 0 (.aload_n 0) 1 1 := ⟨by decide +kernel, rfl⟩
theorem d_sib_1 : Own.D1 jdk_42_method_151_code 1 (.invokespecial 1) 3 4 := ⟨by decide +kernel, rfl⟩
theorem d_sib_4 : Own.D1 jdk_42_method_151_code 4 (.aload_n 0) 1 5 := ⟨by decide +kernel, rfl⟩
theorem d_sib_5 : Own.D1 jdk_42_method_151_code 5 (.aload_n 1) 1 6 := ⟨by decide +kernel, rfl⟩
theorem d_sib_6 : Own.D1 jdk_42_method_151_code 6 (.putfield 9) 3 9 := ⟨by decide +kernel, rfl⟩
theorem d_sib_9 : Own.D1 jdk_42_method_151_code 9 (.aload_n 0) 1 10 := ⟨by decide +kernel, rfl⟩
theorem d_sib_10 : Own.D1 jdk_42_method_151_code 10 (.iload_n 2) 1 11 := ⟨by decide +kernel, rfl⟩
theorem d_sib_11 : Own.D1 jdk_42_method_151_code 11 (.putfield 15) 3 14 := ⟨by decide +kernel, rfl⟩
theorem d_sib_14 : Own.D1 jdk_42_method_151_code 14 .return_ 1 15 := ⟨by decide +kernel, rfl⟩
theorem np_sib : Own.npar "([BB)V" = some 2 := by decide +kernel
set_option maxRecDepth 65536 in
set_option maxHeartbeats 40000000 in
theorem c_sib {G : Own.Wd} {a0 : Array Value} (e : Ev G a0) {a t : Addr} {k : Int32} {v0 : Value} {c0 : Int32} {h : Heap} (hk : narrow .byte (.int k) = .int k ∧ fits .byte (.int k) = true) (E0 : Exa G.Z h a "java/lang/String") (Fv : Fld G.Z h a "java/lang/String" "value" "[B" v0) (Fc : Fld G.Z h a "java/lang/String" "coder" "B" (.int c0)) : Met G I_sib #[(.ref a), (.ref t), (.int k)] h [a] (Rv (fun h' S' => S' = [] ∧ Keep h h' [a] ∧ Exa G.Z h' a "java/lang/String" ∧ Fld G.Z h' a "java/lang/String" "value" "[B" (.ref t) ∧ Fld G.Z h' a "java/lang/String" "coder" "B" (.int k))) := by
  refine Met.intro (ls := #[.val (.ref a), .val (.ref t), .val (.int k)]) (plainFor_of_name pn_1) (fun m => by first | (simp [entryFrame, mkF, argsToLocals, Value.category, I_sib]; done) | (simp [entryFrame, mkF, argsToLocals, Value.category]; rfl) | rfl) ?_
  intro K
  have hne : Jvm.RoadKit.slotOf G.Z "java/lang/String" "coder" "B" ≠ Jvm.RoadKit.slotOf G.Z "java/lang/String" "value" "[B" := slot_ne (Or.inr (e.w 21 rfl)) (Or.inr (e.w 20 rfl)) (by decide) (t := .byte) (by decide) (t' := .array .byte) (by decide)
  refine Ru.aloadN d_sib_0 rfl rfl ?_
  refine Ru.initO d_sib_1 (e.w 15 rfl) (e.w 16 rfl) (e.w 17 rfl) rfl (Nat.le_of_ble_eq_true rfl) (Nat.le_of_ble_eq_true rfl) ?_
  refine Ru.aloadN d_sib_4 rfl rfl ?_
  refine Ru.aloadN d_sib_5 rfl rfl ?_
  refine Ru.putfield d_sib_6 (e.w 24 rfl) Via.refl (by simp) Fv E0 (Or.inr ⟨(e.w 20 rfl), rfl, rfl⟩) (e.w 5 rfl) (ty := (.array .byte)) (by decide) rfl rfl ?_
  intro h1 W1
  have E1 := E0.wr W1; have G1 := Fv.same W1; have G2 := Fc.other W1 (Or.inr hne)
  refine Ru.aloadN d_sib_9 rfl rfl ?_
  refine Ru.iloadN d_sib_10 rfl ?_
  refine Ru.putfield d_sib_11 (e.w 25 rfl) Via.refl (by simp) G2 E1 (Or.inr ⟨(e.w 21 rfl), rfl, rfl⟩) (e.w 5 rfl) (ty := .byte) (by decide) hk.1 hk.2 ?_
  intro h2 W2
  exact Ru.ret d_sib_14 rfl [] (fun _ q => nomatch q) (Nat.le_of_ble_eq_true rfl) (Nat.le_of_ble_eq_true rfl) ⟨rfl, rfl, ((Keep.of_wr W1).trans (Keep.of_wr W2) (by simp)), E1.wr W2, G1.other W2 (Or.inr hne.symm), G2.same W2⟩
abbrev I_vof : Own.Inf := (⟨"java/lang/String", "valueOf", "(C)Ljava/lang/String;"⟩, jdk_42_method_139_code, 1, (Option.some (Jvm.ClassFile.FieldType.object "java/lang/String")), { frames := 2, cells := 2, slots := 5, locals := 30 }, [], [])
theorem d_vof_0 : Own.D1 jdk_42_method_139_code 0 (.getstatic 38) 3 3 := ⟨by decide +kernel, rfl⟩
theorem d_vof_3 : Own.DB jdk_42_method_139_code 3 (.ifCond .eq 23) 3 (23) 6 26 := ⟨by decide +kernel, rfl, by decide, rfl⟩
theorem d_vof_6 : Own.D1 jdk_42_method_139_code 6 (.iload_n 0) 1 7 := ⟨by decide +kernel, rfl⟩
theorem d_vof_7 : Own.D1 jdk_42_method_139_code 7 (.invokestatic 1015) 3 10 := ⟨by decide +kernel, rfl⟩
theorem d_vof_10 : Own.DB jdk_42_method_139_code 10 (.ifCond .eq 16) 3 (16) 13 26 := ⟨by decide +kernel, rfl, by decide, rfl⟩
theorem d_vof_13 : Own.D1 jdk_42_method_139_code 13 (.new 10) 3 16 := ⟨by decide +kernel, rfl⟩
theorem d_vof_16 : Own.D1 jdk_42_method_139_code 16 .dup 1 17 := ⟨by decide +kernel, rfl⟩
theorem d_vof_17 : Own.D1 jdk_42_method_139_code 17 (.iload_n 0) 1 18 := ⟨by decide +kernel, rfl⟩
theorem d_vof_18 : Own.D1 jdk_42_method_139_code 18 (.invokestatic 1018) 3 21 := ⟨by decide +kernel, rfl⟩
theorem d_vof_21 : Own.D1 jdk_42_method_139_code 21 (.iconst 0) 1 22 := ⟨by decide +kernel, rfl⟩
theorem d_vof_22 : Own.D1 jdk_42_method_139_code 22 (.invokespecial 209) 3 25 := ⟨by decide +kernel, rfl⟩
theorem d_vof_25 : Own.D1 jdk_42_method_139_code 25 .areturn 1 26 := ⟨by decide +kernel, rfl⟩
theorem d_vof_26 : Own.D1 jdk_42_method_139_code 26 (.new 10) 3 29 := ⟨by decide +kernel, rfl⟩
theorem d_vof_29 : Own.D1 jdk_42_method_139_code 29 .dup 1 30 := ⟨by decide +kernel, rfl⟩
theorem d_vof_30 : Own.D1 jdk_42_method_139_code 30 (.iload_n 0) 1 31 := ⟨by decide +kernel, rfl⟩
theorem d_vof_31 : Own.D1 jdk_42_method_139_code 31 (.invokestatic 1021) 3 34 := ⟨by decide +kernel, rfl⟩
theorem d_vof_34 : Own.D1 jdk_42_method_139_code 34 (.iconst 1) 1 35 := ⟨by decide +kernel, rfl⟩
theorem d_vof_35 : Own.D1 jdk_42_method_139_code 35 (.invokespecial 209) 3 38 := ⟨by decide +kernel, rfl⟩
theorem d_vof_38 : Own.D1 jdk_42_method_139_code 38 .areturn 1 39 := ⟨by decide +kernel, rfl⟩
theorem np_vof : Own.npar "(C)Ljava/lang/String;" = some 1 := by decide +kernel
set_option maxRecDepth 65536 in
set_option maxHeartbeats 40000000 in
theorem c_vof {G : Own.Wd} {a0 : Array Value} (e : Ev G a0) {c : Int32} {h : Heap} (hL : IsL c) : Met G I_vof #[(.int c)] h [] (Rt (fun x h' S' => ∃ a t, x = .ref a ∧ h.size ≤ a ∧ S' = [] ∧ Keep h h' [] ∧ StrL G.Z h' a t [c])) := by
  refine Met.intro (ls := #[.val (.int c)]) (plainFor_of_name pn_1) (fun m => by first | (simp [entryFrame, mkF, argsToLocals, Value.category, I_vof]; done) | (simp [entryFrame, mkF, argsToLocals, Value.category]; rfl) | rfl) ?_
  intro K
  obtain ⟨cz, hcz, hz⟩ := e.cz
  refine Ru.getstatic d_vof_0 (e.w 73 rfl) hcz ?_
  refine Ru.ifN d_vof_3 (show ¬ cz = (0 : Int32) from hz) ?_
  refine Ru.iloadN d_vof_6 rfl ?_
  refine Ru.callS0 (J := I_canenc) (c_canenc e hL) d_vof_7 (e.w 275 rfl) (e.w 276 rfl) (e.w 255 rfl) (e.w 277 rfl) (by decide) np_canenc rfl (argsL := [(.int c)]) (rest := []) rfl rfl (fun _ q => nomatch q) (Nat.le_of_ble_eq_true rfl) (Nat.le_of_ble_eq_true rfl) (Nat.le_of_ble_eq_true rfl) (Nat.le_of_ble_eq_true rfl) (WP.rt ?_)
  rintro _ _ S0 ⟨rfl, rfl, rfl⟩
  refine Ru.ifN d_vof_10 (show ¬ (1 : Int32) = (0 : Int32) from (by decide)) ?_
  refine Ru.new d_vof_13 (e.w 278 rfl) (e.w 5 rfl) (e.w 6 rfl) (Nat.le_of_ble_eq_true rfl) (Nat.le_of_ble_eq_true rfl) ?_
  intro h1 a ga E1 X1 D1
  refine Ru.dup d_vof_16 rfl ?_
  refine Ru.iloadN d_vof_17 rfl ?_
  refine Ru.callS0 (J := I_tob1) (c_tob1 e (c := c)) d_vof_18 (e.w 279 rfl) (e.w 280 rfl) (e.w 255 rfl) (e.w 281 rfl) (by decide) np_tob1 rfl (argsL := [(.int c)]) (rest := [(.ref a), (.ref a)]) rfl rfl (fun _ q => nomatch q) (Nat.le_of_ble_eq_true rfl) (Nat.le_of_ble_eq_true rfl) (Nat.le_of_ble_eq_true rfl) (Nat.le_of_ble_eq_true rfl) (WP.rt ?_)
  rintro _ h2 S2 ⟨t, rfl, gt, rfl, K2, T2⟩
  refine Ru.iconst (x := 0) d_vof_21 rfl ?_
  refine Ru.callI0 (J := I_sib) (c_sib e ⟨rfl, rfl⟩ (X1.keep K2) (Fld.keep (D1 (Or.inr (e.w 20 rfl)) (ty := .array .byte) (by decide)) K2 nin0) (Fld.keep (D1 (Or.inr (e.w 21 rfl)) (ty := .byte) (by decide)) K2 nin0)) d_vof_22 rfl rfl (e.w 282 rfl) (e.w 283 rfl) (e.w 6 rfl) (e.w 284 rfl) (by decide) np_sib rfl (a := a) (argsL := [(.ref t), (.int (0 : Int32))]) (rest := [(.ref a)]) rfl rfl (by simp) (Nat.le_of_ble_eq_true rfl) (Nat.le_of_ble_eq_true rfl) (Nat.le_of_ble_eq_true rfl) (Nat.le_of_ble_eq_true rfl) (WP.rv ?_)
  rintro h3 S3 ⟨rfl, K3, X3, F3, C3⟩
  have := xlt X1
  exact Ru.areturn (t := (.object "java/lang/String")) d_vof_25 rfl rfl rfl rfl [] (fun _ q => nomatch q) (Nat.le_of_ble_eq_true rfl) (Nat.le_of_ble_eq_true rfl) ⟨_, rfl, a, t, rfl, by omega, rfl, (((keepE E1).trans K2 (by simp)).trans K3 (by simp; omega)), X3, F3, C3, T2.keep K3 (ninS (nne (by omega)) nin0), by simpa using hL⟩
abbrev I_scod : Own.Inf := (⟨"java/lang/String", "coder", "()B"⟩, jdk_42_method_152_code, 1, (Option.some Jvm.ClassFile.FieldType.byte), { frames := 0, cells := 0, slots := 0, locals := 0 }, [], [])
theorem d_scod_0 : Own.D1 jdk_42_method_152_code 0 (.getstatic 38) 3 3 := ⟨by decide +kernel, rfl⟩
theorem d_scod_3 : Own.DB jdk_42_method_152_code 3 (.ifCond .eq 10) 3 (10) 6 13 := ⟨by decide +kernel, rfl, by decide, rfl⟩
theorem d_scod_6 : Own.D1 jdk_42_method_152_code 6 (.aload_n 0) 1 7 := ⟨by decide +kernel, rfl⟩
theorem d_scod_7 : Own.D1 jdk_42_method_152_code 7 (.getfield 15) 3 10 := ⟨by decide +kernel, rfl⟩
theorem d_scod_10 : Own.DB jdk_42_method_152_code 10 (.goto 4) 3 (4) 13 14 := ⟨by decide +kernel, rfl, by decide, rfl⟩
theorem d_scod_13 : Own.D1 jdk_42_method_152_code 13 (.iconst 1) 1 14 := ⟨by decide +kernel, rfl⟩
theorem d_scod_14 : Own.D1 jdk_42_method_152_code 14 .ireturn 1 15 := ⟨by decide +kernel, rfl⟩
theorem np_scod : Own.npar "()B" = some 0 := by decide +kernel
set_option maxRecDepth 65536 in
set_option maxHeartbeats 40000000 in
theorem c_scod {G : Own.Wd} {a0 : Array Value} (e : Ev G a0) {a t : Addr} {cs : List Int32} {h : Heap} (T : StrL G.Z h a t cs) : Met G I_scod #[(.ref a)] h [] (Rt (fun x h' S' => S' = [] ∧ h' = h ∧ x = .int 0)) := by
  refine Met.intro (ls := #[.val (.ref a)]) (plainFor_of_name pn_1) (fun m => by first | (simp [entryFrame, mkF, argsToLocals, Value.category, I_scod]; done) | (simp [entryFrame, mkF, argsToLocals, Value.category]; rfl) | rfl) ?_
  intro K
  obtain ⟨cz, hcz, hz⟩ := e.cz
  refine Ru.getstatic d_scod_0 (e.w 73 rfl) hcz ?_
  refine Ru.ifN d_scod_3 (show ¬ cz = (0 : Int32) from hz) ?_
  refine Ru.aloadN d_scod_6 rfl rfl ?_
  refine Ru.getfield d_scod_7 (e.w 25 rfl) Via.refl T.2.2.1 ?_
  refine Ru.goto d_scod_10 ?_
  exact Ru.ireturnN (t := .byte) (x' := (0 : Int32)) d_scod_14 rfl (by simp) rfl [] (fun _ q => nomatch q) (Nat.le_of_ble_eq_true rfl) (Nat.le_of_ble_eq_true rfl) ⟨_, rfl, rfl, rfl, rfl⟩
abbrev I_islt : Own.Inf := (⟨"java/lang/String", "isLatin1", "()Z"⟩, jdk_42_method_154_code, 1, (Option.some Jvm.ClassFile.FieldType.boolean), { frames := 0, cells := 0, slots := 0, locals := 0 }, [], [])
theorem d_islt_0 : Own.D1 jdk_42_method_154_code 0 (.getstatic 38) 3 3 := ⟨by decide +kernel, rfl⟩
theorem d_islt_3 : Own.DB jdk_42_method_154_code 3 (.ifCond .eq 14) 3 (14) 6 17 := ⟨by decide +kernel, rfl, by decide, rfl⟩
theorem d_islt_6 : Own.D1 jdk_42_method_154_code 6 (.aload_n 0) 1 7 := ⟨by decide +kernel, rfl⟩
theorem d_islt_7 : Own.D1 jdk_42_method_154_code 7 (.getfield 15) 3 10 := ⟨by decide +kernel, rfl⟩
theorem d_islt_10 : Own.DB jdk_42_method_154_code 10 (.ifCond .ne 7) 3 (7) 13 17 := ⟨by decide +kernel, rfl, by decide, rfl⟩
theorem d_islt_13 : Own.D1 jdk_42_method_154_code 13 (.iconst 1) 1 14 := ⟨by decide +kernel, rfl⟩
theorem d_islt_14 : Own.DB jdk_42_method_154_code 14 (.goto 4) 3 (4) 17 18 := ⟨by decide +kernel, rfl, by decide, rfl⟩
theorem d_islt_17 : Own.D1 jdk_42_method_154_code 17 (.iconst 0) 1 18 := ⟨by decide +kernel, rfl⟩
theorem d_islt_18 : Own.D1 jdk_42_method_154_code 18 .ireturn 1 19 := ⟨by decide +kernel, rfl⟩
theorem np_islt : Own.npar "()Z" = some 0 := by decide +kernel
set_option maxRecDepth 65536 in
set_option maxHeartbeats 40000000 in
theorem c_islt {G : Own.Wd} {a0 : Array Value} (e : Ev G a0) {a t : Addr} {cs : List Int32} {h : Heap} (T : StrL G.Z h a t cs) : Met G I_islt #[(.ref a)] h [] (Rt (fun x h' S' => S' = [] ∧ h' = h ∧ x = .int 1)) := by
  refine Met.intro (ls := #[.val (.ref a)]) (plainFor_of_name pn_1) (fun m => by first | (simp [entryFrame, mkF, argsToLocals, Value.category, I_islt]; done) | (simp [entryFrame, mkF, argsToLocals, Value.category]; rfl) | rfl) ?_
  intro K
  obtain ⟨cz, hcz, hz⟩ := e.cz
  refine Ru.getstatic d_islt_0 (e.w 73 rfl) hcz ?_
  refine Ru.ifN d_islt_3 (show ¬ cz = (0 : Int32) from hz) ?_
  refine Ru.aloadN d_islt_6 rfl rfl ?_
  refine Ru.getfield d_islt_7 (e.w 25 rfl) Via.refl T.2.2.1 ?_
  refine Ru.ifN d_islt_10 (show (0 : Int32) = (0 : Int32) from rfl) ?_
  refine Ru.iconst (x := 1) d_islt_13 rfl ?_
  refine Ru.goto d_islt_14 ?_
  exact Ru.ireturnN (t := .boolean) (x' := (1 : Int32)) d_islt_18 rfl (by simp) rfl [] (fun _ q => nomatch q) (Nat.le_of_ble_eq_true rfl) (Nat.le_of_ble_eq_true rfl) ⟨_, rfl, rfl, rfl, rfl⟩
abbrev I_slen : Own.Inf := (⟨"java/lang/String", "length", "()I"⟩, jdk_42_method_54_code, 1, (Option.some Jvm.ClassFile.FieldType.int), { frames := 1, cells := 0, slots := 0, locals := 13 }, [], [])
theorem d_slen_0 : Own.D1 jdk_42_method_54_code 0 (.aload_n 0) 1 1 := ⟨by decide +kernel, rfl⟩
theorem d_slen_1 : Own.D1 jdk_42_method_54_code 1 (.getfield 9) 3 4 := ⟨by decide +kernel, rfl⟩
theorem d_slen_4 : Own.D1 jdk_42_method_54_code 4 .arraylength 1 5 := ⟨by decide +kernel, rfl⟩
theorem d_slen_5 : Own.D1 jdk_42_method_54_code 5 (.aload_n 0) 1 6 := ⟨by decide +kernel, rfl⟩
theorem d_slen_6 : Own.D1 jdk_42_method_54_code 6 (.invokevirtual 335) 3 9 := ⟨by decide +kernel, rfl⟩
theorem d_slen_9 : Own.D1 jdk_42_method_54_code 9 .ishr 1 10 := ⟨by decide +kernel, rfl⟩
theorem d_slen_10 : Own.D1 jdk_42_method_54_code 10 .ireturn 1 11 := ⟨by decide +kernel, rfl⟩
theorem np_slen : Own.npar "()I" = some 0 := by decide +kernel
set_option maxRecDepth 65536 in
set_option maxHeartbeats 40000000 in
theorem c_slen {G : Own.Wd} {a0 : Array Value} (e : Ev G a0) {a t : Addr} {cs : List Int32} {h : Heap} (T : StrL G.Z h a t cs) : Met G I_slen #[(.ref a)] h [] (Rt (fun x h' S' => S' = [] ∧ h' = h ∧ x = .int (n32 cs.length))) := by
  refine Met.intro (ls := #[.val (.ref a)]) (plainFor_of_name pn_1) (fun m => by first | (simp [entryFrame, mkF, argsToLocals, Value.category, I_slen]; done) | (simp [entryFrame, mkF, argsToLocals, Value.category]; rfl) | rfl) ?_
  intro K
  refine Ru.aloadN d_slen_0 rfl rfl ?_
  refine Ru.getfield d_slen_1 (e.w 24 rfl) Via.refl T.2.1 ?_
  refine Ru.arraylength (n := (n32 cs.length)) d_slen_4 T.2.2.2.1 (by simp [n32]) ?_
  refine Ru.aloadN d_slen_5 rfl rfl ?_
  refine Ru.callV0 (J := I_scod) (c_scod e T) d_slen_6 T.1 (e.w 68 rfl) (e.w 69 rfl) (nf_sel (e.w 71 rfl)) (e.w 71 rfl) (e.w 70 rfl) (e.w 6 rfl) (e.w 72 rfl) (by decide) np_scod rfl (a := a) (argsL := []) (rest := [(.int (n32 cs.length))]) rfl rfl (fun _ q => nomatch q) (Nat.le_of_ble_eq_true rfl) (Nat.le_of_ble_eq_true rfl) (Nat.le_of_ble_eq_true rfl) (Nat.le_of_ble_eq_true rfl) (WP.rt ?_)
  rintro _ _ S1 ⟨rfl, rfl, rfl⟩
  refine Ru.ishr d_slen_9 ?_
  refine WP.topI (show ((n32 cs.length) >>> ((0 : Int32) &&& 31)) = (n32 cs.length) from (shr0 _)) ?_
  exact Ru.ireturn d_slen_10 rfl [] (fun _ q => nomatch q) (Nat.le_of_ble_eq_true rfl) (Nat.le_of_ble_eq_true rfl) ⟨_, rfl, rfl, rfl, rfl⟩
abbrev I_pchk : Own.Inf := (⟨"jdk/internal/util/Preconditions", "checkIndex", "(IILjava/util/function/BiFunction;)I"⟩, jdk_41_method_11_code, 3, (Option.some Jvm.ClassFile.FieldType.int), { frames := 0, cells := 0, slots := 0, locals := 0 }, [], [])
theorem d_pchk_0 : Own.D1 jdk_41_method_11_code 0 (.iload_n 0) 1 1 := ⟨by decide +kernel, rfl⟩
theorem d_pchk_1 : Own.DB jdk_41_method_11_code 1 (.ifCond .lt 8) 3 (8) 4 9 := ⟨by decide +kernel, rfl, by decide, rfl⟩
theorem d_pchk_4 : Own.D1 jdk_41_method_11_code 4 (.iload_n 0) 1 5 := ⟨by decide +kernel, rfl⟩
theorem d_pchk_5 : Own.D1 jdk_41_method_11_code 5 (.iload_n 1) 1 6 := ⟨by decide +kernel, rfl⟩
theorem d_pchk_6 : Own.DB jdk_41_method_11_code 6 (.if_icmp .lt 10) 3 (10) 9 16 := ⟨by decide +kernel, rfl, by decide, rfl⟩
theorem d_pchk_9 : Own.D1 jdk_41_method_11_code 9 (.aload_n 2) 1 10 := ⟨by decide +kernel, rfl⟩
theorem d_pchk_10 : Own.D1 jdk_41_method_11_code 10 (.iload_n 0) 1 11 := ⟨by decide +kernel, rfl⟩
theorem d_pchk_11 : Own.D1 jdk_41_method_11_code 11 (.iload_n 1) 1 12 := ⟨by decide +kernel, rfl⟩
theorem d_pchk_12 : Own.D1 jdk_41_method_11_code 12 (.invokestatic 95) 3 15 := ⟨by decide +kernel, rfl⟩
theorem d_pchk_15 : Own.D1 jdk_41_method_11_code 15 .athrow 1 16 := ⟨by decide +kernel, rfl⟩
theorem d_pchk_16 : Own.D1 jdk_41_method_11_code 16 (.iload_n 0) 1 17 := ⟨by decide +kernel, rfl⟩
theorem d_pchk_17 : Own.D1 jdk_41_method_11_code 17 .ireturn 1 18 := ⟨by decide +kernel, rfl⟩
theorem pn_3 : plainName "jdk/internal/util/Preconditions" = true := by first | (simp [plainName, overriddenIn]; done) | decide +kernel
theorem np_pchk : Own.npar "(IILjava/util/function/BiFunction;)I" = some 3 := by decide +kernel
set_option maxRecDepth 65536 in
set_option maxHeartbeats 40000000 in
theorem c_pchk {G : Own.Wd} {a0 : Array Value} (e : Ev G a0) {i n : Nat} {v : Value} {h : Heap} (hv : v.isRef = true) (hi : i < n) (hn : n < 2147483648) : Met G I_pchk #[(.int (n32 i)), (.int (n32 n)), v] h [] (Rt (fun x h' S' => S' = [] ∧ h' = h ∧ x = .int (n32 i))) := by
  refine Met.intro (ls := #[.val (.int (n32 i)), .val (.int (n32 n)), .val v]) (plainFor_of_name pn_3) (fun m => by rcases Jvm.Free.XT.refc hv with rfl | ⟨_, rfl⟩ <;> first | (simp [entryFrame, mkF, argsToLocals, Value.category, I_pchk]; done) | (simp [entryFrame, mkF, argsToLocals, Value.category]; rfl) | rfl) ?_
  intro K
  refine Ru.iloadN d_pchk_0 rfl ?_
  refine Ru.ifN d_pchk_1 (show ¬ (n32 i) < (0 : Int32) from (n32_nn (by omega))) ?_
  refine Ru.iloadN d_pchk_4 rfl ?_
  refine Ru.iloadN d_pchk_5 rfl ?_
  refine Ru.icmpY d_pchk_6 (show (n32 i) < (n32 n) from ((n32_lt (by omega) (by omega)).mpr hi)) ?_
  refine Ru.iloadN d_pchk_16 rfl ?_
  exact Ru.ireturn d_pchk_17 rfl [] (fun _ q => nomatch q) (Nat.le_of_ble_eq_true rfl) (Nat.le_of_ble_eq_true rfl) ⟨_, rfl, rfl, rfl, rfl⟩
abbrev I_schk : Own.Inf := (⟨"java/lang/String", "checkIndex", "(II)V"⟩, jdk_42_method_155_code, 2, (Option.none : Option Jvm.ClassFile.FieldType), { frames := 1, cells := 0, slots := 0, locals := 14 }, [], [])
theorem d_schk_0 : Own.D1 jdk_42_method_155_code 0 (.iload_n 0) 1 1 := ⟨by decide +kernel, rfl⟩
theorem d_schk_1 : Own.D1 jdk_42_method_155_code 1 (.iload_n 1) 1 2 := ⟨by decide +kernel, rfl⟩
theorem d_schk_2 : Own.D1 jdk_42_method_155_code 2 (.getstatic 1053) 3 5 := ⟨by decide +kernel, rfl⟩
theorem d_schk_5 : Own.D1 jdk_42_method_155_code 5 (.invokestatic 1059) 3 8 := ⟨by decide +kernel, rfl⟩
theorem d_schk_8 : Own.D1 jdk_42_method_155_code 8 .pop 1 9 := ⟨by decide +kernel, rfl⟩
theorem d_schk_9 : Own.D1 jdk_42_method_155_code 9 .return_ 1 10 := ⟨by decide +kernel, rfl⟩
theorem np_schk : Own.npar "(II)V" = some 2 := by decide +kernel
set_option maxRecDepth 65536 in
set_option maxHeartbeats 40000000 in
theorem c_schk {G : Own.Wd} {a0 : Array Value} (e : Ev G a0) {i n : Nat} {h : Heap} (hi : i < n) (hn : n < 2147483648) : Met G I_schk #[(.int (n32 i)), (.int (n32 n))] h [] (Rv (fun h' S' => S' = [] ∧ h' = h)) := by
  refine Met.intro (ls := #[.val (.int (n32 i)), .val (.int (n32 n))]) (plainFor_of_name pn_1) (fun m => by first | (simp [entryFrame, mkF, argsToLocals, Value.category, I_schk]; done) | (simp [entryFrame, mkF, argsToLocals, Value.category]; rfl) | rfl) ?_
  intro K
  obtain ⟨v, hv, sv⟩ := e.fm
  refine Ru.iloadN d_schk_0 rfl ?_
  refine Ru.iloadN d_schk_1 rfl ?_
  refine Ru.getstatic d_schk_2 (e.w 260 rfl) sv ?_
  refine Ru.callS0 (J := I_pchk) (c_pchk e hv hi hn) d_schk_5 (e.w 262 rfl) (e.w 263 rfl) (e.w 261 rfl) (e.w 264 rfl) (by decide) np_pchk rfl (argsL := [(.int (n32 i)), (.int (n32 n)), v]) (rest := []) rfl rfl (fun _ q => nomatch q) (Nat.le_of_ble_eq_true rfl) (Nat.le_of_ble_eq_true rfl) (Nat.le_of_ble_eq_true rfl) (Nat.le_of_ble_eq_true rfl) (WP.rt ?_)
  rintro _ _ S1 ⟨rfl, rfl, rfl⟩
  refine Ru.pop d_schk_8 rfl ?_
  exact Ru.ret d_schk_9 rfl [] (fun _ q => nomatch q) (Nat.le_of_ble_eq_true rfl) (Nat.le_of_ble_eq_true rfl) ⟨rfl, rfl, rfl⟩
abbrev I_lchr : Own.Inf := (⟨"java/lang/StringLatin1", "charAt", "([BI)C"⟩, jdk_43_method_2_code, 2, (Option.some Jvm.ClassFile.FieldType.char), { frames := 2, cells := 0, slots := 0, locals := 27 }, [], [])
theorem d_lchr_0 : Own.D1 jdk_43_method_2_code 0 (.iload_n 1) 1 1 := ⟨by decide +kernel, rfl⟩
theorem d_lchr_1 : Own.D1 jdk_43_method_2_code 1 (.aload_n 0) 1 2 := ⟨by decide +kernel, rfl⟩
theorem d_lchr_2 : Own.D1 jdk_43_method_2_code 2 .arraylength 1 3 := ⟨by decide +kernel, rfl⟩
theorem d_lchr_3 : Own.D1 jdk_43_method_2_code 3 (.invokestatic 9) 3 6 := ⟨by decide +kernel, rfl⟩
theorem d_lchr_6 : Own.D1 jdk_43_method_2_code 6 (.aload_n 0) 1 7 := ⟨by decide +kernel, rfl⟩
theorem d_lchr_7 : Own.D1 jdk_43_method_2_code 7 (.iload_n 1) 1 8 := ⟨by decide +kernel, rfl⟩
theorem d_lchr_8 : Own.D1 jdk_43_method_2_code 8 .baload 1 9 := ⟨by decide +kernel, rfl⟩
theorem d_lchr_9 : Own.D1 jdk_43_method_2_code 9 (.sipush 255) 3 12 := ⟨by decide +kernel, rfl⟩
theorem d_lchr_12 : Own.D1 jdk_43_method_2_code 12 .iand 1 13 := ⟨by decide +kernel, rfl⟩
theorem d_lchr_13 : Own.D1 jdk_43_method_2_code 13 .i2c 1 14 := ⟨by decide +kernel, rfl⟩
theorem d_lchr_14 : Own.D1 jdk_43_method_2_code 14 .ireturn 1 15 := ⟨by decide +kernel, rfl⟩
theorem np_lchr : Own.npar "([BI)C" = some 2 := by decide +kernel
set_option maxRecDepth 65536 in
set_option maxHeartbeats 40000000 in
theorem c_lchr {G : Own.Wd} {a0 : Array Value} (e : Ev G a0) {t : Addr} {cs : List Int32} {i : Nat} {c : Int32} {h : Heap} (hA : Ary G.Z h t .byte (cs.map lat)) (hL : ∀ c ∈ cs, IsL c) (hc : cs[i]? = some c) : Met G I_lchr #[(.ref t), (.int (n32 i))] h [] (Rt (fun x h' S' => S' = [] ∧ h' = h ∧ x = .int c)) := by
  refine Met.intro (ls := #[.val (.ref t), .val (.int (n32 i))]) (plainFor_of_name pn_2) (fun m => by first | (simp [entryFrame, mkF, argsToLocals, Value.category, I_lchr]; done) | (simp [entryFrame, mkF, argsToLocals, Value.category]; rfl) | rfl) ?_
  intro K
  have hcs : cs.length < 2147483648 := by obtain ⟨c, -, e1, e2, -⟩ := hA; simpa using e2
  have hi : i < cs.length := (List.getElem?_eq_some_iff.mp hc).1; have hLc := hL c (List.mem_of_getElem? hc)
  refine Ru.iloadN d_lchr_0 rfl ?_
  refine Ru.aloadN d_lchr_1 rfl rfl ?_
  refine Ru.arraylength (n := (n32 cs.length)) d_lchr_2 hA (by simp [n32]) ?_
  refine Ru.callS0 (J := I_schk) (c_schk e hi hcs) d_lchr_3 (e.w 257 rfl) (e.w 258 rfl) (e.w 6 rfl) (e.w 259 rfl) (by decide) np_schk rfl (argsL := [(.int (n32 i)), (.int (n32 cs.length))]) (rest := []) rfl rfl (fun _ q => nomatch q) (Nat.le_of_ble_eq_true rfl) (Nat.le_of_ble_eq_true rfl) (Nat.le_of_ble_eq_true rfl) (Nat.le_of_ble_eq_true rfl) (WP.rv ?_)
  rintro _ S1 ⟨rfl, rfl⟩
  refine Ru.aloadN d_lchr_6 rfl rfl ?_
  refine Ru.iloadN d_lchr_7 rfl ?_
  refine Ru.baload (v := (.int c.toInt8.toInt32)) d_lchr_8 hA (n32_nn (by omega)) (by rw [n32_cl (by omega)]; simp [hc, lat]) ?_
  refine Ru.sipush (x := 255) d_lchr_9 rfl ?_
  refine Ru.iand d_lchr_12 ?_
  refine Ru.i2c d_lchr_13 ?_
  exact Ru.ireturnN (t := .char) d_lchr_14 rfl (by simp) (by rw [lat_mask hLc, i2c_id hLc.c, nar_c hLc.c]) [] (fun _ q => nomatch q) (Nat.le_of_ble_eq_true rfl) (Nat.le_of_ble_eq_true rfl) ⟨_, rfl, rfl, rfl, rfl⟩
abbrev I_schr : Own.Inf := (⟨"java/lang/String", "charAt", "(I)C"⟩, jdk_42_method_56_code, 2, (Option.some Jvm.ClassFile.FieldType.char), { frames := 3, cells := 0, slots := 0, locals := 40 }, [], [])
theorem d_schr_0 : Own.D1 jdk_42_method_56_code 0 (.aload_n 0) 1 1 := ⟨by decide +kernel, rfl⟩
theorem d_schr_1 : Own.D1 jdk_42_method_56_code 1 (.invokevirtual 492) 3 4 := ⟨by decide +kernel, rfl⟩
theorem d_schr_4 : Own.DB jdk_42_method_56_code 4 (.ifCond .eq 12) 3 (12) 7 16 := ⟨by decide +kernel, rfl, by decide, rfl⟩
theorem d_schr_7 : Own.D1 jdk_42_method_56_code 7 (.aload_n 0) 1 8 := ⟨by decide +kernel, rfl⟩
theorem d_schr_8 : Own.D1 jdk_42_method_56_code 8 (.getfield 9) 3 11 := ⟨by decide +kernel, rfl⟩
theorem d_schr_11 : Own.D1 jdk_42_method_56_code 11 (.iload_n 1) 1 12 := ⟨by decide +kernel, rfl⟩
theorem d_schr_12 : Own.D1 jdk_42_method_56_code 12 (.invokestatic 495) 3 15 := ⟨by decide +kernel, rfl⟩
theorem d_schr_15 : Own.D1 jdk_42_method_56_code 15 .ireturn 1 16 := ⟨by decide +kernel, rfl⟩
theorem d_schr_16 : Own.D1 jdk_42_method_56_code 16 (.aload_n 0) 1 17 := ⟨by decide +kernel, rfl⟩
theorem d_schr_17 : Own.D1 jdk_42_method_56_code 17 (.getfield 9) 3 20 := ⟨by decide +kernel, rfl⟩
theorem d_schr_20 : Own.D1 jdk_42_method_56_code 20 (.iload_n 1) 1 21 := ⟨by decide +kernel, rfl⟩
theorem d_schr_21 : Own.D1 jdk_42_method_56_code 21 (.invokestatic 498) 3 24 := ⟨by decide +kernel, rfl⟩
theorem d_schr_24 : Own.D1 jdk_42_method_56_code 24 .ireturn 1 25 := ⟨by decide +kernel, rfl⟩
theorem np_schr : Own.npar "(I)C" = some 1 := by decide +kernel
set_option maxRecDepth 65536 in
set_option maxHeartbeats 40000000 in
theorem c_schr {G : Own.Wd} {a0 : Array Value} (e : Ev G a0) {a t : Addr} {cs : List Int32} {i : Nat} {c : Int32} {h : Heap} (T : StrL G.Z h a t cs) (hc : cs[i]? = some c) : Met G I_schr #[(.ref a), (.int (n32 i))] h [] (Rt (fun x h' S' => S' = [] ∧ h' = h ∧ x = .int c)) := by
  refine Met.intro (ls := #[.val (.ref a), .val (.int (n32 i))]) (plainFor_of_name pn_1) (fun m => by first | (simp [entryFrame, mkF, argsToLocals, Value.category, I_schr]; done) | (simp [entryFrame, mkF, argsToLocals, Value.category]; rfl) | rfl) ?_
  intro K
  have hLc := T.2.2.2.2 c (List.mem_of_getElem? hc)
  refine Ru.aloadN d_schr_0 rfl rfl ?_
  refine Ru.callV0 (J := I_islt) (c_islt e T) d_schr_1 T.1 (e.w 248 rfl) (e.w 249 rfl) (nf_sel (e.w 251 rfl)) (e.w 251 rfl) (e.w 250 rfl) (e.w 6 rfl) (e.w 252 rfl) (by decide) np_islt rfl (a := a) (argsL := []) (rest := []) rfl rfl (fun _ q => nomatch q) (Nat.le_of_ble_eq_true rfl) (Nat.le_of_ble_eq_true rfl) (Nat.le_of_ble_eq_true rfl) (Nat.le_of_ble_eq_true rfl) (WP.rt ?_)
  rintro _ h S1 ⟨rfl, rfl, rfl⟩
  refine Ru.ifN d_schr_4 (show ¬ (1 : Int32) = (0 : Int32) from (by decide)) ?_
  refine Ru.aloadN d_schr_7 rfl rfl ?_
  refine Ru.getfield d_schr_8 (e.w 24 rfl) Via.refl T.2.1 ?_
  refine Ru.iloadN d_schr_11 rfl ?_
  refine Ru.callS0 (J := I_lchr) (c_lchr e T.2.2.2.1 T.2.2.2.2 hc) d_schr_12 (e.w 253 rfl) (e.w 254 rfl) (e.w 255 rfl) (e.w 256 rfl) (by decide) np_lchr rfl (argsL := [(.ref t), (.int (n32 i))]) (rest := []) rfl rfl (fun _ q => nomatch q) (Nat.le_of_ble_eq_true rfl) (Nat.le_of_ble_eq_true rfl) (Nat.le_of_ble_eq_true rfl) (Nat.le_of_ble_eq_true rfl) (WP.rt ?_)
  rintro _ _ S2 ⟨rfl, rfl, rfl⟩
  exact Ru.ireturnN (t := .char) d_schr_15 rfl (by simp) (nar_c hLc.c) [] (fun _ q => nomatch q) (Nat.le_of_ble_eq_true rfl) (Nat.le_of_ble_eq_true rfl) ⟨_, rfl, rfl, rfl, rfl⟩

theorem sub_pos {n m : Nat} (hn : n < 2147483648) (hm : m < 2147483648) : (0 : Int32) < n32 n - n32 m ↔ m < n := by
  rw [Int32.lt_iff_toInt_lt, Int32.toInt_sub, n32_int hn, n32_int hm, Int.bmod_eq_of_le (by omega) (by omega)]
  have : (0 : Int32).toInt = 0 := rfl
  omega

def SBo (Z : State) (h : Heap) (a : Addr) (v0 v1 v2 : Value) : Prop := Exa Z h a "java/lang/StringBuilder" ∧ Fld Z h a "java/lang/AbstractStringBuilder" "value" "[B" v0 ∧ Fld Z h a "java/lang/AbstractStringBuilder" "coder" "B" v1 ∧ Fld Z h a "java/lang/AbstractStringBuilder" "count" "I" v2
theorem SBo.exa {G : Own.Wd} {h : Heap} {a : Addr} {v0 v1 v2 : Value} (F : SBo G.Z h a v0 v1 v2) : Exa G.Z h a "java/lang/StringBuilder" := F.1
theorem SBo.get_value {G : Own.Wd} {h : Heap} {a : Addr} {v0 v1 v2 : Value} (F : SBo G.Z h a v0 v1 v2) : Fld G.Z h a "java/lang/AbstractStringBuilder" "value" "[B" v0 := F.2.1
theorem SBo.get_coder {G : Own.Wd} {h : Heap} {a : Addr} {v0 v1 v2 : Value} (F : SBo G.Z h a v0 v1 v2) : Fld G.Z h a "java/lang/AbstractStringBuilder" "coder" "B" v1 := F.2.2.1
theorem SBo.get_count {G : Own.Wd} {h : Heap} {a : Addr} {v0 v1 v2 : Value} (F : SBo G.Z h a v0 v1 v2) : Fld G.Z h a "java/lang/AbstractStringBuilder" "count" "I" v2 := F.2.2.2
theorem SBo.keep {G : Own.Wd} {h h' : Heap} {a : Addr} {v0 v1 v2 : Value} {ws : List Addr} (F : SBo G.Z h a v0 v1 v2) (K : Keep h h' ws) (q : a ∉ ws) : SBo G.Z h' a v0 v1 v2 := ⟨F.1.keep K, F.get_value.keep K q, F.get_coder.keep K q, F.get_count.keep K q⟩
theorem SBo_ne_0_1 {G : Own.Wd} {a0 : Array Value} (e : Ev G a0) : Jvm.RoadKit.slotOf G.Z "java/lang/AbstractStringBuilder" "value" "[B" ≠ Jvm.RoadKit.slotOf G.Z "java/lang/AbstractStringBuilder" "coder" "B" := slot_ne (Or.inl (e.w 50 rfl)) (Or.inl (e.w 52 rfl)) (by decide) (t := (.array .byte)) (by decide) (t' := .byte) (by decide)
theorem SBo_ne_0_2 {G : Own.Wd} {a0 : Array Value} (e : Ev G a0) : Jvm.RoadKit.slotOf G.Z "java/lang/AbstractStringBuilder" "value" "[B" ≠ Jvm.RoadKit.slotOf G.Z "java/lang/AbstractStringBuilder" "count" "I" := slot_ne (Or.inl (e.w 50 rfl)) (Or.inl (e.w 75 rfl)) (by decide) (t := (.array .byte)) (by decide) (t' := .int) (by decide)
theorem SBo_ne_1_2 {G : Own.Wd} {a0 : Array Value} (e : Ev G a0) : Jvm.RoadKit.slotOf G.Z "java/lang/AbstractStringBuilder" "coder" "B" ≠ Jvm.RoadKit.slotOf G.Z "java/lang/AbstractStringBuilder" "count" "I" := slot_ne (Or.inl (e.w 52 rfl)) (Or.inl (e.w 75 rfl)) (by decide) (t := .byte) (by decide) (t' := .int) (by decide)
theorem SBo.put_value {G : Own.Wd} {a0 : Array Value} {h h' : Heap} {a : Addr} {v0 v1 v2 : Value} {w : Value} (F : SBo G.Z h a v0 v1 v2) (e : Ev G a0) (W : Wr h h' a (Jvm.RoadKit.slotOf G.Z "java/lang/AbstractStringBuilder" "value" "[B") w) : SBo G.Z h' a w v1 v2 := ⟨F.1.wr W, F.get_value.same W, F.get_coder.other W (Or.inr (SBo_ne_0_1 e).symm), F.get_count.other W (Or.inr (SBo_ne_0_2 e).symm)⟩
theorem SBo.put_coder {G : Own.Wd} {a0 : Array Value} {h h' : Heap} {a : Addr} {v0 v1 v2 : Value} {w : Value} (F : SBo G.Z h a v0 v1 v2) (e : Ev G a0) (W : Wr h h' a (Jvm.RoadKit.slotOf G.Z "java/lang/AbstractStringBuilder" "coder" "B") w) : SBo G.Z h' a v0 w v2 := ⟨F.1.wr W, F.get_value.other W (Or.inr (SBo_ne_0_1 e)), F.get_coder.same W, F.get_count.other W (Or.inr (SBo_ne_1_2 e).symm)⟩
theorem SBo.put_count {G : Own.Wd} {a0 : Array Value} {h h' : Heap} {a : Addr} {v0 v1 v2 : Value} {w : Value} (F : SBo G.Z h a v0 v1 v2) (e : Ev G a0) (W : Wr h h' a (Jvm.RoadKit.slotOf G.Z "java/lang/AbstractStringBuilder" "count" "I") w) : SBo G.Z h' a v0 v1 w := ⟨F.1.wr W, F.get_value.other W (Or.inr (SBo_ne_0_2 e)), F.get_coder.other W (Or.inr (SBo_ne_1_2 e)), F.get_count.same W⟩
theorem SBo.lt {G : Own.Wd} {h : Heap} {a : Addr} {v0 v1 v2 : Value} (F : SBo G.Z h a v0 v1 v2) : @LT.lt Nat instLTNat a (Array.size h) := xlt F.1
def SBd (G : Own.Wd) (h : Heap) (b v : Addr) (cs : List Int32) (cap : Nat) : Prop := SBo G.Z h b (.ref v) (.int 0) (.int (n32 cs.length)) ∧ (∃ us, Ary G.Z h v .byte us ∧ us.length = cap ∧ us.take cs.length = cs.map lat) ∧ (∀ c ∈ cs, IsL c) ∧ cs.length ≤ cap
theorem SBd.keep {G : Own.Wd} {h h' : Heap} {b v : Addr} {cs : List Int32} {cap : Nat} {ws : List Addr} (D : SBd G h b v cs cap) (K : Keep h h' ws) (q1 : b ∉ ws) (q2 : v ∉ ws) : SBd G h' b v cs cap := by
  obtain ⟨F, ⟨us, A, r⟩, r2⟩ := D
  exact ⟨SBo.keep (G := G) F K q1, ⟨us, A.keep K q2, r⟩, r2⟩
theorem SBd.ltv {G : Own.Wd} {h : Heap} {b v : Addr} {cs : List Int32} {cap : Nat} (D : SBd G h b v cs cap) : @LT.lt Nat instLTNat v (Array.size h) := by obtain ⟨F, ⟨us, A, r⟩, r2⟩ := D; exact alt A
theorem SBd.ltb {G : Own.Wd} {h : Heap} {b v : Addr} {cs : List Int32} {cap : Nat} (D : SBd G h b v cs cap) : @LT.lt Nat instLTNat b (Array.size h) := xlt D.1.1
theorem SBd.ne {G : Own.Wd} {a0 : Array Value} {h : Heap} {b v : Addr} {cs : List Int32} {cap : Nat} (D : SBd G h b v cs cap) (e : Ev G a0) : b ≠ v := by obtain ⟨F, ⟨us, A, r⟩, r2⟩ := D; exact Ary.ne_exa F.1 (e.w 36 rfl) A
theorem app_take {us : List Value} {cs xs : List Int32} (h : us.take cs.length = cs.map lat) (hl : cs.length + xs.length ≤ us.length) : (us.take cs.length ++ (xs.map lat ++ us.drop (cs.length + xs.length))).take (cs ++ xs).length = (cs ++ xs).map lat := by
  rw [h, List.map_append, ← List.append_assoc, List.take_left' (by simp)]
abbrev I_asbi : Own.Inf := (⟨"java/lang/AbstractStringBuilder", "<init>", "(I)V"⟩, jdk_68_method_2_code, 2, (Option.none : Option Jvm.ClassFile.FieldType), { frames := 1, cells := 1, slots := 16, locals := 12 }, [], [])
theorem d_asbi_0 : Own.D1 jdk_68_method_2_code 0 (.aload_n 0) 1 1 := ⟨by decide +kernel, rfl⟩
theorem d_asbi_1 : Own.D1 jdk_68_method_2_code 1 (.invokespecial 3) 3 4 := ⟨by decide +kernel, rfl⟩
theorem d_asbi_4 : Own.D1 jdk_68_method_2_code 4 (.getstatic 18) 3 7 := ⟨by decide +kernel, rfl⟩
theorem d_asbi_7 : Own.DB jdk_68_method_2_code 7 (.ifCond .eq 18) 3 (18) 10 25 := ⟨by decide +kernel, rfl, by decide, rfl⟩
theorem d_asbi_10 : Own.D1 jdk_68_method_2_code 10 (.aload_n 0) 1 11 := ⟨by decide +kernel, rfl⟩
theorem d_asbi_11 : Own.D1 jdk_68_method_2_code 11 (.iload_n 1) 1 12 := ⟨by decide +kernel, rfl⟩
theorem d_asbi_12 : Own.D1 jdk_68_method_2_code 12 (.newarray .byte) 2 14 := ⟨by decide +kernel, rfl⟩
theorem d_asbi_14 : Own.D1 jdk_68_method_2_code 14 (.putfield 15) 3 17 := ⟨by decide +kernel, rfl⟩
theorem d_asbi_17 : Own.D1 jdk_68_method_2_code 17 (.aload_n 0) 1 18 := ⟨by decide +kernel, rfl⟩
theorem d_asbi_18 : Own.D1 jdk_68_method_2_code 18 (.iconst 0) 1 19 := ⟨by decide +kernel, rfl⟩
theorem d_asbi_19 : Own.D1 jdk_68_method_2_code 19 (.putfield 22) 3 22 := ⟨by decide +kernel, rfl⟩
theorem d_asbi_22 : Own.DB jdk_68_method_2_code 22 (.goto 16) 3 (16) 25 38 := ⟨by decide +kernel, rfl, by decide, rfl⟩
theorem d_asbi_25 : Own.D1 jdk_68_method_2_code 25 (.aload_n 0) 1 26 := ⟨by decide +kernel, rfl⟩
theorem d_asbi_26 : Own.D1 jdk_68_method_2_code 26 (.iload_n 1) 1 27 := ⟨by decide +kernel, rfl⟩
theorem d_asbi_27 : Own.D1 jdk_68_method_2_code 27 (.invokestatic 26) 3 30 := ⟨by decide +kernel, rfl⟩
theorem d_asbi_30 : Own.D1 jdk_68_method_2_code 30 (.putfield 15) 3 33 := ⟨by decide +kernel, rfl⟩
theorem d_asbi_33 : Own.D1 jdk_68_method_2_code 33 (.aload_n 0) 1 34 := ⟨by decide +kernel, rfl⟩
theorem d_asbi_34 : Own.D1 jdk_68_method_2_code 34 (.iconst 1) 1 35 := ⟨by decide +kernel, rfl⟩
theorem d_asbi_35 : Own.D1 jdk_68_method_2_code 35 (.putfield 22) 3 38 := ⟨by decide +kernel, rfl⟩
theorem d_asbi_38 : Own.D1 jdk_68_method_2_code 38 .return_ 1 39 := ⟨by decide +kernel, rfl⟩
theorem pn_4 : plainName "java/lang/AbstractStringBuilder" = true := by first | (simp [plainName, overriddenIn]; done) | decide +kernel
theorem np_asbi : Own.npar "(I)V" = some 1 := by decide +kernel
set_option maxRecDepth 65536 in
set_option maxHeartbeats 40000000 in
theorem c_asbi {G : Own.Wd} {a0 : Array Value} (e : Ev G a0) {b : Addr} {v0 v1 : Value} {h : Heap} (F : SBo G.Z h b v0 v1 (.int 0)) : Met G I_asbi #[(.ref b), (.int (16 : Int32))] h [b] (Rv (fun h' S' => ∃ v, h.size ≤ v ∧ S' = [v] ∧ Keep h h' [b] ∧ SBd G h' b v [] 16)) := by
  refine Met.intro (ls := #[.val (.ref b), .val (.int (16 : Int32))]) (plainFor_of_name pn_4) (fun m => by first | (simp [entryFrame, mkF, argsToLocals, Value.category, I_asbi]; done) | (simp [entryFrame, mkF, argsToLocals, Value.category]; rfl) | rfl) ?_
  intro K
  obtain ⟨cz, hcz, hz⟩ := e.cz
  have lb := SBo.lt (G := G) F
  refine Ru.aloadN d_asbi_0 rfl rfl ?_
  refine Ru.initO d_asbi_1 (e.w 47 rfl) (e.w 16 rfl) (e.w 17 rfl) rfl (Nat.le_of_ble_eq_true rfl) (Nat.le_of_ble_eq_true rfl) ?_
  refine Ru.getstatic d_asbi_4 (e.w 48 rfl) hcz ?_
  refine Ru.ifN d_asbi_7 (show ¬ cz = (0 : Int32) from hz) ?_
  refine Ru.aloadN d_asbi_10 rfl rfl ?_
  refine Ru.iloadN d_asbi_11 rfl ?_
  refine Ru.newarray (cap := 16) d_asbi_12 (ty := .byte) rfl (e.w 19 rfl) rfl (by decide) (Nat.le_of_ble_eq_true rfl) (Nat.le_of_ble_eq_true rfl) (Nat.le_of_ble_eq_true rfl) (Nat.le_of_ble_eq_true rfl) ?_
  intro h1 v gv E1 A1
  have F1 := SBo.keep (G := G) F (keepE E1) nin0; have nvb : v ≠ b := nne (by omega)
  refine Ru.putfield d_asbi_14 (e.w 49 rfl) Via.refl (by simp) (SBo.get_value (G := G) F1) F1.1 (Or.inl (e.w 50 rfl)) (e.w 36 rfl) (ty := (.array .byte)) (by decide) rfl rfl ?_
  intro h2 W2
  have F2 := SBo.put_value F1 e W2
  refine Ru.aloadN d_asbi_17 rfl rfl ?_
  refine Ru.iconst (x := 0) d_asbi_18 rfl ?_
  refine Ru.putfield d_asbi_19 (e.w 51 rfl) Via.refl (by simp) (SBo.get_coder (G := G) F2) F2.1 (Or.inl (e.w 52 rfl)) (e.w 36 rfl) (ty := .byte) (by decide) rfl rfl ?_
  intro h3 W3
  have F3 := SBo.put_coder F2 e W3
  refine Ru.goto d_asbi_22 ?_
  have A3 := (A1.keep (Keep.of_wr W2) (ninS nvb nin0)).keep (Keep.of_wr W3) (ninS nvb nin0)
  exact Ru.ret d_asbi_38 rfl [v] (by simp) (Nat.le_of_ble_eq_true rfl) (Nat.le_of_ble_eq_true rfl) ⟨rfl, v, by omega, rfl, (((k0 (keepE E1)).trans (Keep.of_wr W2) (by simp)).trans (Keep.of_wr W3) (by simp)), F3, ⟨_, A3, rfl, rfl⟩, by simp, by simp⟩
abbrev I_sbi : Own.Inf := (⟨"java/lang/StringBuilder", "<init>", "()V"⟩, jdk_67_method_1_code, 1, (Option.none : Option Jvm.ClassFile.FieldType), { frames := 2, cells := 1, slots := 16, locals := 26 }, [], [])
theorem d_sbi_0 : Own.D1 jdk_67_method_1_code 0 (.aload_n 0) 1 1 := ⟨by decide +kernel, rfl⟩
theorem d_sbi_1 : Own.D1 jdk_67_method_1_code 1 (.bipush 16) 2 3 := ⟨by decide +kernel, rfl⟩
theorem d_sbi_3 : Own.D1 jdk_67_method_1_code 3 (.invokespecial 1) 3 6 := ⟨by decide +kernel, rfl⟩
theorem d_sbi_6 : Own.D1 jdk_67_method_1_code 6 .return_ 1 7 := ⟨by decide +kernel, rfl⟩
theorem pn_5 : plainName "java/lang/StringBuilder" = true := by first | (simp [plainName, overriddenIn]; done) | decide +kernel
theorem np_sbi : Own.npar "()V" = some 0 := by decide +kernel
set_option maxRecDepth 65536 in
set_option maxHeartbeats 40000000 in
theorem c_sbi {G : Own.Wd} {a0 : Array Value} (e : Ev G a0) {b : Addr} {v0 v1 : Value} {h : Heap} (F : SBo G.Z h b v0 v1 (.int 0)) : Met G I_sbi #[(.ref b)] h [b] (Rv (fun h' S' => ∃ v, h.size ≤ v ∧ S' = [v] ∧ Keep h h' [b] ∧ SBd G h' b v [] 16)) := by
  refine Met.intro (ls := #[.val (.ref b)]) (plainFor_of_name pn_5) (fun m => by first | (simp [entryFrame, mkF, argsToLocals, Value.category, I_sbi]; done) | (simp [entryFrame, mkF, argsToLocals, Value.category]; rfl) | rfl) ?_
  intro K
  refine Ru.aloadN d_sbi_0 rfl rfl ?_
  refine Ru.bipush (x := 16) d_sbi_1 rfl ?_
  refine Ru.callI0 (J := I_asbi) (c_asbi e F) d_sbi_3 rfl rfl (e.w 41 rfl) (e.w 42 rfl) (e.w 45 rfl) (e.w 46 rfl) (by decide) np_asbi rfl (a := b) (argsL := [(.int (16 : Int32))]) (rest := []) rfl rfl (by simp) (Nat.le_of_ble_eq_true rfl) (Nat.le_of_ble_eq_true rfl) (Nat.le_of_ble_eq_true rfl) (Nat.le_of_ble_eq_true rfl) (WP.rv ?_)
  rintro h1 S1 ⟨v, gv, rfl, K1, D1⟩
  exact Ru.ret d_sbi_6 rfl [v] (by simp) (Nat.le_of_ble_eq_true rfl) (Nat.le_of_ble_eq_true rfl) ⟨rfl, v, gv, rfl, K1, D1⟩
abbrev I_mmax : Own.Inf := (⟨"java/lang/Math", "max", "(II)I"⟩, jdk_29_method_65_code, 2, (Option.some Jvm.ClassFile.FieldType.int), { frames := 0, cells := 0, slots := 0, locals := 0 }, [], [])
theorem d_mmax_0 : Own.D1 jdk_29_method_65_code 0 (.iload_n 0) 1 1 := ⟨by decide +kernel, rfl⟩
theorem d_mmax_1 : Own.D1 jdk_29_method_65_code 1 (.iload_n 1) 1 2 := ⟨by decide +kernel, rfl⟩
theorem d_mmax_2 : Own.DB jdk_29_method_65_code 2 (.if_icmp .lt 7) 3 (7) 5 9 := ⟨by decide +kernel, rfl, by decide, rfl⟩
theorem d_mmax_5 : Own.D1 jdk_29_method_65_code 5 (.iload_n 0) 1 6 := ⟨by decide +kernel, rfl⟩
theorem d_mmax_6 : Own.DB jdk_29_method_65_code 6 (.goto 4) 3 (4) 9 10 := ⟨by decide +kernel, rfl, by decide, rfl⟩
theorem d_mmax_9 : Own.D1 jdk_29_method_65_code 9 (.iload_n 1) 1 10 := ⟨by decide +kernel, rfl⟩
theorem d_mmax_10 : Own.D1 jdk_29_method_65_code 10 .ireturn 1 11 := ⟨by decide +kernel, rfl⟩
theorem pf_mmax : plainFor ⟨"java/lang/Math", "max", "(II)I"⟩ = true := by decide +kernel
theorem np_mmax : Own.npar "(II)I" = some 2 := by decide +kernel
set_option maxRecDepth 65536 in
set_option maxHeartbeats 40000000 in
theorem c_mmax {G : Own.Wd} {a0 : Array Value} (e : Ev G a0) {i k : Nat} {h : Heap} (hik : i ≤ k) (hk : k < 2147483648) : Met G I_mmax #[(.int (n32 i)), (.int (n32 k))] h [] (Rt (fun x h' S' => S' = [] ∧ h' = h ∧ x = .int (n32 k))) := by
  refine Met.intro (ls := #[.val (.int (n32 i)), .val (.int (n32 k))]) pf_mmax (fun m => by first | (simp [entryFrame, mkF, argsToLocals, Value.category, I_mmax]; done) | (simp [entryFrame, mkF, argsToLocals, Value.category]; rfl) | rfl) ?_
  intro K
  refine Ru.iloadN d_mmax_0 rfl ?_
  refine Ru.iloadN d_mmax_1 rfl ?_
  refine Ru.icmp d_mmax_2 (fun (c1 : (n32 i) < (n32 k)) => ?_) (fun (c1 : ¬ (n32 i) < (n32 k)) => ?_)
  · refine Ru.iloadN d_mmax_9 rfl ?_
    exact Ru.ireturn d_mmax_10 rfl [] (fun _ q => nomatch q) (Nat.le_of_ble_eq_true rfl) (Nat.le_of_ble_eq_true rfl) ⟨_, rfl, rfl, rfl, rfl⟩
  · obtain rfl : i = k := by rw [n32_lt (by omega) (by omega)] at c1; omega
    refine Ru.iloadN d_mmax_5 rfl ?_
    refine Ru.goto d_mmax_6 ?_
    exact Ru.ireturn d_mmax_10 rfl [] (fun _ q => nomatch q) (Nat.le_of_ble_eq_true rfl) (Nat.le_of_ble_eq_true rfl) ⟨_, rfl, rfl, rfl, rfl⟩
abbrev I_mmin : Own.Inf := (⟨"java/lang/Math", "min", "(II)I"⟩, jdk_29_method_69_code, 2, (Option.some Jvm.ClassFile.FieldType.int), { frames := 0, cells := 0, slots := 0, locals := 0 }, [], [])
theorem d_mmin_0 : Own.D1 jdk_29_method_69_code 0 (.iload_n 0) 1 1 := ⟨by decide +kernel, rfl⟩
theorem d_mmin_1 : Own.D1 jdk_29_method_69_code 1 (.iload_n 1) 1 2 := ⟨by decide +kernel, rfl⟩
theorem d_mmin_2 : Own.DB jdk_29_method_69_code 2 (.if_icmp .gt 7) 3 (7) 5 9 := ⟨by decide +kernel, rfl, by decide, rfl⟩
theorem d_mmin_5 : Own.D1 jdk_29_method_69_code 5 (.iload_n 0) 1 6 := ⟨by decide +kernel, rfl⟩
theorem d_mmin_6 : Own.DB jdk_29_method_69_code 6 (.goto 4) 3 (4) 9 10 := ⟨by decide +kernel, rfl, by decide, rfl⟩
theorem d_mmin_9 : Own.D1 jdk_29_method_69_code 9 (.iload_n 1) 1 10 := ⟨by decide +kernel, rfl⟩
theorem d_mmin_10 : Own.D1 jdk_29_method_69_code 10 .ireturn 1 11 := ⟨by decide +kernel, rfl⟩
theorem pf_mmin : plainFor ⟨"java/lang/Math", "min", "(II)I"⟩ = true := by decide +kernel
theorem np_mmin : Own.npar "(II)I" = some 2 := by decide +kernel
set_option maxRecDepth 65536 in
set_option maxHeartbeats 40000000 in
theorem c_mmin {G : Own.Wd} {a0 : Array Value} (e : Ev G a0) {i k : Nat} {h : Heap} (hi : i < 2147483648) (hk : k < 2147483648) : Met G I_mmin #[(.int (n32 i)), (.int (n32 k))] h [] (Rt (fun x h' S' => S' = [] ∧ h' = h ∧ x = .int (n32 (min i k)))) := by
  refine Met.intro (ls := #[.val (.int (n32 i)), .val (.int (n32 k))]) pf_mmin (fun m => by first | (simp [entryFrame, mkF, argsToLocals, Value.category, I_mmin]; done) | (simp [entryFrame, mkF, argsToLocals, Value.category]; rfl) | rfl) ?_
  intro K
  refine Ru.iloadN d_mmin_0 rfl ?_
  refine Ru.iloadN d_mmin_1 rfl ?_
  refine Ru.icmp d_mmin_2 (fun (c1 : (n32 k) < (n32 i)) => ?_) (fun (c1 : ¬ (n32 k) < (n32 i)) => ?_)
  · rw [n32_lt (by omega) (by omega)] at c1
    refine Ru.iloadN d_mmin_9 rfl ?_
    exact Ru.ireturn d_mmin_10 rfl [] (fun _ q => nomatch q) (Nat.le_of_ble_eq_true rfl) (Nat.le_of_ble_eq_true rfl) ⟨_, rfl, rfl, rfl, by rw [Nat.min_eq_right (by omega)]⟩
  · rw [n32_lt (by omega) (by omega)] at c1
    refine Ru.iloadN d_mmin_5 rfl ?_
    refine Ru.goto d_mmin_6 ?_
    exact Ru.ireturn d_mmin_10 rfl [] (fun _ q => nomatch q) (Nat.le_of_ble_eq_true rfl) (Nat.le_of_ble_eq_true rfl) ⟨_, rfl, rfl, rfl, by rw [Nat.min_eq_left (by omega)]⟩
abbrev I_newl : Own.Inf := (⟨"jdk/internal/util/ArraysSupport", "newLength", "(III)I"⟩, jdk_48_method_27_code, 4, (Option.some Jvm.ClassFile.FieldType.int), { frames := 1, cells := 0, slots := 0, locals := 20 }, [], [])
theorem d_newl_0 : Own.D1 jdk_48_method_27_code 0 (.iload_n 0) 1 1 := ⟨by decide +kernel, rfl⟩
theorem d_newl_1 : Own.D1 jdk_48_method_27_code 1 (.iload_n 1) 1 2 := ⟨by decide +kernel, rfl⟩
theorem d_newl_2 : Own.D1 jdk_48_method_27_code 2 (.iload_n 2) 1 3 := ⟨by decide +kernel, rfl⟩
theorem d_newl_3 : Own.D1 jdk_48_method_27_code 3 (.invokestatic 194) 3 6 := ⟨by decide +kernel, rfl⟩
theorem d_newl_6 : Own.D1 jdk_48_method_27_code 6 .iadd 1 7 := ⟨by decide +kernel, rfl⟩
theorem d_newl_7 : Own.D1 jdk_48_method_27_code 7 (.istore_n 3) 1 8 := ⟨by decide +kernel, rfl⟩
theorem d_newl_8 : Own.D1 jdk_48_method_27_code 8 (.iconst 0) 1 9 := ⟨by decide +kernel, rfl⟩
theorem d_newl_9 : Own.D1 jdk_48_method_27_code 9 (.iload_n 3) 1 10 := ⟨by decide +kernel, rfl⟩
theorem d_newl_10 : Own.DB jdk_48_method_27_code 10 (.if_icmp .ge 11) 3 (11) 13 21 := ⟨by decide +kernel, rfl, by decide, rfl⟩
theorem d_newl_13 : Own.D1 jdk_48_method_27_code 13 (.iload_n 3) 1 14 := ⟨by decide +kernel, rfl⟩
theorem d_newl_14 : Own.D1 jdk_48_method_27_code 14 (.ldc 200) 2 16 := ⟨by decide +kernel, rfl⟩
theorem d_newl_16 : Own.DB jdk_48_method_27_code 16 (.if_icmp .gt 5) 3 (5) 19 21 := ⟨by decide +kernel, rfl, by decide, rfl⟩
theorem d_newl_19 : Own.D1 jdk_48_method_27_code 19 (.iload_n 3) 1 20 := ⟨by decide +kernel, rfl⟩
theorem d_newl_20 : Own.D1 jdk_48_method_27_code 20 .ireturn 1 21 := ⟨by decide +kernel, rfl⟩
theorem d_newl_21 : Own.D1 jdk_48_method_27_code 21 (.iload_n 0) 1 22 := ⟨by decide +kernel, rfl⟩
theorem d_newl_22 : Own.D1 jdk_48_method_27_code 22 (.iload_n 1) 1 23 := ⟨by decide +kernel, rfl⟩
theorem d_newl_23 : Own.D1 jdk_48_method_27_code 23 (.invokestatic 201) 3 26 := ⟨by decide +kernel, rfl⟩
theorem d_newl_26 : Own.D1 jdk_48_method_27_code 26 .ireturn 1 27 := ⟨by decide +kernel, rfl⟩
theorem pn_7 : plainName "jdk/internal/util/ArraysSupport" = true := by first | (simp [plainName, overriddenIn]; done) | decide +kernel
theorem np_newl : Own.npar "(III)I" = some 3 := by decide +kernel
set_option maxRecDepth 65536 in
set_option maxHeartbeats 40000000 in
theorem c_newl {G : Own.Wd} {a0 : Array Value} (e : Ev G a0) {g : Nat} {h : Heap} (hg : g ≤ 18) : Met G I_newl #[(.int (n32 16)), (.int (n32 g)), (.int (n32 18))] h [] (Rt (fun x h' S' => S' = [] ∧ h' = h ∧ x = .int (n32 34))) := by
  refine Met.intro (ls := #[.val (.int (n32 16)), .val (.int (n32 g)), .val (.int (n32 18)), .unset]) (plainFor_of_name pn_7) (fun m => by first | (simp [entryFrame, mkF, argsToLocals, Value.category, I_newl]; done) | (simp [entryFrame, mkF, argsToLocals, Value.category]; rfl) | rfl) ?_
  intro K
  refine Ru.iloadN d_newl_0 rfl ?_
  refine Ru.iloadN d_newl_1 rfl ?_
  refine Ru.iloadN d_newl_2 rfl ?_
  refine Ru.callS0 (J := I_mmax) (c_mmax e hg (by omega)) d_newl_3 (e.w 112 rfl) (e.w 113 rfl) (e.w 114 rfl) (e.w 115 rfl) (by decide) np_mmax rfl (argsL := [(.int (n32 g)), (.int (n32 18))]) (rest := [(.int (n32 16))]) rfl rfl (fun _ q => nomatch q) (Nat.le_of_ble_eq_true rfl) (Nat.le_of_ble_eq_true rfl) (Nat.le_of_ble_eq_true rfl) (Nat.le_of_ble_eq_true rfl) (WP.rt ?_)
  rintro _ h S1 ⟨rfl, rfl, rfl⟩
  refine Ru.iadd d_newl_6 ?_
  refine Ru.istoreN d_newl_7 (ls' := #[.val (.int (n32 16)), .val (.int (n32 g)), .val (.int (n32 18)), .val (.int ((n32 16) + (n32 18)))]) rfl ?_
  refine Ru.iconst (x := 0) d_newl_8 rfl ?_
  refine Ru.iloadN d_newl_9 rfl ?_
  refine Ru.icmpN d_newl_10 (show (0 : Int32) < ((n32 16) + (n32 18)) from (by decide)) ?_
  refine Ru.iloadN d_newl_13 rfl ?_
  refine Ru.ldcInt d_newl_14 (e.w 116 rfl) ?_
  refine Ru.icmpN d_newl_16 (show ¬ (2147483639 : Int32) < ((n32 16) + (n32 18)) from (by decide)) ?_
  refine Ru.iloadN d_newl_19 rfl ?_
  exact Ru.ireturn d_newl_20 rfl [] (fun _ q => nomatch q) (Nat.le_of_ble_eq_true rfl) (Nat.le_of_ble_eq_true rfl) ⟨_, rfl, rfl, rfl, rfl⟩
abbrev I_newc : Own.Inf := (⟨"java/lang/AbstractStringBuilder", "newCapacity", "(I)I"⟩, jdk_68_method_10_code, 6, (Option.some Jvm.ClassFile.FieldType.int), { frames := 2, cells := 0, slots := 0, locals := 40 }, [], [])
theorem d_newc_0 : Own.D1 jdk_68_method_10_code 0 (.aload_n 0) 1 1 := ⟨by decide +kernel, rfl⟩
theorem d_newc_1 : Own.D1 jdk_68_method_10_code 1 (.getfield 15) 3 4 := ⟨by decide +kernel, rfl⟩
theorem d_newc_4 : Own.D1 jdk_68_method_10_code 4 .arraylength 1 5 := ⟨by decide +kernel, rfl⟩
theorem d_newc_5 : Own.D1 jdk_68_method_10_code 5 (.istore_n 2) 1 6 := ⟨by decide +kernel, rfl⟩
theorem d_newc_6 : Own.D1 jdk_68_method_10_code 6 (.iload_n 1) 1 7 := ⟨by decide +kernel, rfl⟩
theorem d_newc_7 : Own.D1 jdk_68_method_10_code 7 (.aload_n 0) 1 8 := ⟨by decide +kernel, rfl⟩
theorem d_newc_8 : Own.D1 jdk_68_method_10_code 8 (.getfield 22) 3 11 := ⟨by decide +kernel, rfl⟩
theorem d_newc_11 : Own.D1 jdk_68_method_10_code 11 .ishl 1 12 := ⟨by decide +kernel, rfl⟩
theorem d_newc_12 : Own.D1 jdk_68_method_10_code 12 (.istore_n 3) 1 13 := ⟨by decide +kernel, rfl⟩
theorem d_newc_13 : Own.D1 jdk_68_method_10_code 13 (.iload_n 3) 1 14 := ⟨by decide +kernel, rfl⟩
theorem d_newc_14 : Own.D1 jdk_68_method_10_code 14 (.iload_n 2) 1 15 := ⟨by decide +kernel, rfl⟩
theorem d_newc_15 : Own.D1 jdk_68_method_10_code 15 .isub 1 16 := ⟨by decide +kernel, rfl⟩
theorem d_newc_16 : Own.D1 jdk_68_method_10_code 16 (.istore 4) 2 18 := ⟨by decide +kernel, rfl⟩
theorem d_newc_18 : Own.D1 jdk_68_method_10_code 18 (.iload_n 2) 1 19 := ⟨by decide +kernel, rfl⟩
theorem d_newc_19 : Own.D1 jdk_68_method_10_code 19 (.iload 4) 2 21 := ⟨by decide +kernel, rfl⟩
theorem d_newc_21 : Own.D1 jdk_68_method_10_code 21 (.iload_n 2) 1 22 := ⟨by decide +kernel, rfl⟩
theorem d_newc_22 : Own.D1 jdk_68_method_10_code 22 (.iconst 2) 1 23 := ⟨by decide +kernel, rfl⟩
theorem d_newc_23 : Own.D1 jdk_68_method_10_code 23 (.aload_n 0) 1 24 := ⟨by decide +kernel, rfl⟩
theorem d_newc_24 : Own.D1 jdk_68_method_10_code 24 (.getfield 22) 3 27 := ⟨by decide +kernel, rfl⟩
theorem d_newc_27 : Own.D1 jdk_68_method_10_code 27 .ishl 1 28 := ⟨by decide +kernel, rfl⟩
theorem d_newc_28 : Own.D1 jdk_68_method_10_code 28 .iadd 1 29 := ⟨by decide +kernel, rfl⟩
theorem d_newc_29 : Own.D1 jdk_68_method_10_code 29 (.invokestatic 114) 3 32 := ⟨by decide +kernel, rfl⟩
theorem d_newc_32 : Own.D1 jdk_68_method_10_code 32 (.istore 5) 2 34 := ⟨by decide +kernel, rfl⟩
theorem d_newc_34 : Own.D1 jdk_68_method_10_code 34 (.iload 5) 2 36 := ⟨by decide +kernel, rfl⟩
theorem d_newc_36 : Own.D1 jdk_68_method_10_code 36 (.ldc 39) 2 38 := ⟨by decide +kernel, rfl⟩
theorem d_newc_38 : Own.DB jdk_68_method_10_code 38 (.if_icmp .ne 13) 3 (13) 41 51 := ⟨by decide +kernel, rfl, by decide, rfl⟩
theorem d_newc_41 : Own.D1 jdk_68_method_10_code 41 (.new 120) 3 44 := ⟨by decide +kernel, rfl⟩
theorem d_newc_44 : Own.D1 jdk_68_method_10_code 44 .dup 1 45 := ⟨by decide +kernel, rfl⟩
theorem d_newc_45 : Own.D1 jdk_68_method_10_code 45 (.ldc 122) 2 47 := ⟨by decide +kernel, rfl⟩
theorem d_newc_47 : Own.D1 jdk_68_method_10_code 47 (.invokespecial 124) 3 50 := ⟨by decide +kernel, rfl⟩
theorem d_newc_50 : Own.D1 jdk_68_method_10_code 50 .athrow 1 51 := ⟨by decide +kernel, rfl⟩
theorem d_newc_51 : Own.D1 jdk_68_method_10_code 51 (.iload 5) 2 53 := ⟨by decide +kernel, rfl⟩
theorem d_newc_53 : Own.D1 jdk_68_method_10_code 53 (.aload_n 0) 1 54 := ⟨by decide +kernel, rfl⟩
theorem d_newc_54 : Own.D1 jdk_68_method_10_code 54 (.getfield 22) 3 57 := ⟨by decide +kernel, rfl⟩
theorem d_newc_57 : Own.D1 jdk_68_method_10_code 57 .ishr 1 58 := ⟨by decide +kernel, rfl⟩
theorem d_newc_58 : Own.D1 jdk_68_method_10_code 58 .ireturn 1 59 := ⟨by decide +kernel, rfl⟩
theorem np_newc : Own.npar "(I)I" = some 1 := by decide +kernel
set_option maxRecDepth 65536 in
set_option maxHeartbeats 40000000 in
theorem c_newc {G : Own.Wd} {a0 : Array Value} (e : Ev G a0) {b v : Addr} {cs : List Int32} {n : Nat} {h : Heap} (D : SBd G h b v cs 16) (h1 : 16 < n) (h2 : n ≤ 34) : Met G I_newc #[(.ref b), (.int (n32 n))] h [] (Rt (fun x h' S' => S' = [] ∧ h' = h ∧ x = .int (n32 34))) := by
  refine Met.intro (ls := #[.val (.ref b), .val (.int (n32 n)), .unset, .unset, .unset, .unset]) (plainFor_of_name pn_4) (fun m => by first | (simp [entryFrame, mkF, argsToLocals, Value.category, I_newc]; done) | (simp [entryFrame, mkF, argsToLocals, Value.category]; rfl) | rfl) ?_
  intro K
  obtain ⟨F, ⟨us, A, l1, t1⟩, hL, hc⟩ := D
  refine Ru.aloadN d_newc_0 rfl rfl ?_
  refine Ru.getfield d_newc_1 (e.w 49 rfl) Via.refl (SBo.get_value (G := G) F) ?_
  refine Ru.arraylength (n := (n32 16)) d_newc_4 A (by rw [l1]; rfl) ?_
  refine Ru.istoreN d_newc_5 (ls' := #[.val (.ref b), .val (.int (n32 n)), .val (.int (n32 16)), .unset, .unset, .unset]) rfl ?_
  refine Ru.iloadN d_newc_6 rfl ?_
  refine Ru.aloadN d_newc_7 rfl rfl ?_
  refine Ru.getfield d_newc_8 (e.w 51 rfl) Via.refl (SBo.get_coder (G := G) F) ?_
  refine Ru.ishl d_newc_11 ?_
  refine WP.topI (show ((n32 n) <<< ((0 : Int32) &&& 31)) = (n32 n) from (shl0 _)) ?_
  refine Ru.istoreN d_newc_12 (ls' := #[.val (.ref b), .val (.int (n32 n)), .val (.int (n32 16)), .val (.int (n32 n)), .unset, .unset]) rfl ?_
  refine Ru.iloadN d_newc_13 rfl ?_
  refine Ru.iloadN d_newc_14 rfl ?_
  refine Ru.isub d_newc_15 ?_
  refine WP.topI (show ((n32 n) - (n32 16)) = (n32 (n - 16)) from (n32_sub (by omega) (by omega))) ?_
  refine Ru.istore d_newc_16 (ls' := #[.val (.ref b), .val (.int (n32 n)), .val (.int (n32 16)), .val (.int (n32 n)), .val (.int (n32 (n - 16))), .unset]) rfl ?_
  refine Ru.iloadN d_newc_18 rfl ?_
  refine Ru.iload d_newc_19 rfl ?_
  refine Ru.iloadN d_newc_21 rfl ?_
  refine Ru.iconst (x := 2) d_newc_22 rfl ?_
  refine Ru.aloadN d_newc_23 rfl rfl ?_
  refine Ru.getfield d_newc_24 (e.w 51 rfl) Via.refl (SBo.get_coder (G := G) F) ?_
  refine Ru.ishl d_newc_27 ?_
  refine Ru.iadd d_newc_28 ?_
  refine WP.topI (show ((n32 16) + ((2 : Int32) <<< ((0 : Int32) &&& 31))) = (n32 18) from (by decide)) ?_
  refine Ru.callS0 (J := I_newl) (c_newl e (g := n - 16) (by omega)) d_newc_29 (e.w 108 rfl) (e.w 109 rfl) (e.w 110 rfl) (e.w 111 rfl) (by decide) np_newl rfl (argsL := [(.int (n32 16)), (.int (n32 (n - 16))), (.int (n32 18))]) (rest := []) rfl rfl (fun _ q => nomatch q) (Nat.le_of_ble_eq_true rfl) (Nat.le_of_ble_eq_true rfl) (Nat.le_of_ble_eq_true rfl) (Nat.le_of_ble_eq_true rfl) (WP.rt ?_)
  rintro _ h S1 ⟨rfl, rfl, rfl⟩
  refine Ru.istore d_newc_32 (ls' := #[.val (.ref b), .val (.int (n32 n)), .val (.int (n32 16)), .val (.int (n32 n)), .val (.int (n32 (n - 16))), .val (.int (n32 34))]) rfl ?_
  refine Ru.iload d_newc_34 rfl ?_
  refine Ru.ldcInt d_newc_36 (e.w 117 rfl) ?_
  refine Ru.icmpY d_newc_38 (show ¬ (n32 34) = (2147483647 : Int32) from (by decide)) ?_
  refine Ru.iload d_newc_51 rfl ?_
  refine Ru.aloadN d_newc_53 rfl rfl ?_
  refine Ru.getfield d_newc_54 (e.w 51 rfl) Via.refl (SBo.get_coder (G := G) F) ?_
  refine Ru.ishr d_newc_57 ?_
  refine WP.topI (show ((n32 34) >>> ((0 : Int32) &&& 31)) = (n32 34) from (shr0 _)) ?_
  exact Ru.ireturn d_newc_58 rfl [] (fun _ q => nomatch q) (Nat.le_of_ble_eq_true rfl) (Nat.le_of_ble_eq_true rfl) ⟨_, rfl, rfl, rfl, rfl⟩
abbrev I_cpof : Own.Inf := (⟨"java/util/Arrays", "copyOf", "([BI)[B"⟩, jdk_65_method_121_code, 3, (Option.some (Jvm.ClassFile.FieldType.array Jvm.ClassFile.FieldType.byte)), { frames := 1, cells := 1, slots := 34, locals := 30 }, [], [])
theorem d_cpof_0 : Own.D1 jdk_65_method_121_code 0 (.iload_n 1) 1 1 := ⟨by decide +kernel, rfl⟩
theorem d_cpof_1 : Own.D1 jdk_65_method_121_code 1 (.aload_n 0) 1 2 := ⟨by decide +kernel, rfl⟩
theorem d_cpof_2 : Own.D1 jdk_65_method_121_code 2 .arraylength 1 3 := ⟨by decide +kernel, rfl⟩
theorem d_cpof_3 : Own.DB jdk_65_method_121_code 3 (.if_icmp .ne 11) 3 (11) 6 14 := ⟨by decide +kernel, rfl, by decide, rfl⟩
theorem d_cpof_6 : Own.D1 jdk_65_method_121_code 6 (.aload_n 0) 1 7 := ⟨by decide +kernel, rfl⟩
theorem d_cpof_7 : Own.D1 jdk_65_method_121_code 7 (.invokevirtual 310) 3 10 := ⟨by decide +kernel, rfl⟩
theorem d_cpof_10 : Own.D1 jdk_65_method_121_code 10 (.checkcast 311) 3 13 := ⟨by decide +kernel, rfl⟩
theorem d_cpof_13 : Own.D1 jdk_65_method_121_code 13 .areturn 1 14 := ⟨by decide +kernel, rfl⟩
theorem d_cpof_14 : Own.D1 jdk_65_method_121_code 14 (.iload_n 1) 1 15 := ⟨by decide +kernel, rfl⟩
theorem d_cpof_15 : Own.D1 jdk_65_method_121_code 15 (.newarray .byte) 2 17 := ⟨by decide +kernel, rfl⟩
theorem d_cpof_17 : Own.D1 jdk_65_method_121_code 17 (.astore_n 2) 1 18 := ⟨by decide +kernel, rfl⟩
theorem d_cpof_18 : Own.D1 jdk_65_method_121_code 18 (.aload_n 0) 1 19 := ⟨by decide +kernel, rfl⟩
theorem d_cpof_19 : Own.D1 jdk_65_method_121_code 19 (.iconst 0) 1 20 := ⟨by decide +kernel, rfl⟩
theorem d_cpof_20 : Own.D1 jdk_65_method_121_code 20 (.aload_n 2) 1 21 := ⟨by decide +kernel, rfl⟩
theorem d_cpof_21 : Own.D1 jdk_65_method_121_code 21 (.iconst 0) 1 22 := ⟨by decide +kernel, rfl⟩
theorem d_cpof_22 : Own.D1 jdk_65_method_121_code 22 (.aload_n 0) 1 23 := ⟨by decide +kernel, rfl⟩
theorem d_cpof_23 : Own.D1 jdk_65_method_121_code 23 .arraylength 1 24 := ⟨by decide +kernel, rfl⟩
theorem d_cpof_24 : Own.D1 jdk_65_method_121_code 24 (.iload_n 1) 1 25 := ⟨by decide +kernel, rfl⟩
theorem d_cpof_25 : Own.D1 jdk_65_method_121_code 25 (.invokestatic 304) 3 28 := ⟨by decide +kernel, rfl⟩
theorem d_cpof_28 : Own.D1 jdk_65_method_121_code 28 (.invokestatic 150) 3 31 := ⟨by decide +kernel, rfl⟩
theorem d_cpof_31 : Own.D1 jdk_65_method_121_code 31 (.aload_n 2) 1 32 := ⟨by decide +kernel, rfl⟩
theorem d_cpof_32 : Own.D1 jdk_65_method_121_code 32 .areturn 1 33 := ⟨by decide +kernel, rfl⟩
theorem pn_8 : plainName "java/util/Arrays" = true := by first | (simp [plainName, overriddenIn]; done) | decide +kernel
theorem np_cpof : Own.npar "([BI)[B" = some 2 := by decide +kernel
set_option maxRecDepth 65536 in
set_option maxHeartbeats 40000000 in
theorem c_cpof {G : Own.Wd} {a0 : Array Value} (e : Ev G a0) {v : Addr} {us : List Value} {h : Heap} (A : Ary G.Z h v .byte us) (l1 : us.length = 16) : Met G I_cpof #[(.ref v), (.int (n32 34))] h [] (Rt (fun x h' S' => ∃ t, x = .ref t ∧ h.size ≤ t ∧ S' = [t] ∧ Keep h h' [] ∧ Ary G.Z h' t .byte (us ++ List.replicate 18 (.int 0)))) := by
  refine Met.intro (ls := #[.val (.ref v), .val (.int (n32 34)), .unset]) (plainFor_of_name pn_8) (fun m => by first | (simp [entryFrame, mkF, argsToLocals, Value.category, I_cpof]; done) | (simp [entryFrame, mkF, argsToLocals, Value.category]; rfl) | rfl) ?_
  intro K
  refine Ru.iloadN d_cpof_0 rfl ?_
  refine Ru.aloadN d_cpof_1 rfl rfl ?_
  refine Ru.arraylength (n := (n32 16)) d_cpof_2 A (by rw [l1]; rfl) ?_
  refine Ru.icmpY d_cpof_3 (show ¬ (n32 34) = (n32 16) from (by decide)) ?_
  refine Ru.iloadN d_cpof_14 rfl ?_
  refine Ru.newarray (cap := 34) d_cpof_15 (ty := .byte) rfl (e.w 19 rfl) rfl (by decide) (by decide) (Nat.le_of_ble_eq_true rfl) (Nat.le_of_ble_eq_true rfl) (Nat.le_of_ble_eq_true rfl) ?_
  intro h1 t gt E1 T1
  have A1 := A.ext E1
  refine Ru.astoreN d_cpof_17 rfl (ls' := #[.val (.ref v), .val (.int (n32 34)), .val (.ref t)]) rfl ?_
  refine Ru.aloadN d_cpof_18 rfl rfl ?_
  refine Ru.iconst (x := 0) d_cpof_19 rfl ?_
  refine Ru.aloadN d_cpof_20 rfl rfl ?_
  refine Ru.iconst (x := 0) d_cpof_21 rfl ?_
  refine Ru.aloadN d_cpof_22 rfl rfl ?_
  refine Ru.arraylength (n := (n32 16)) d_cpof_23 A1 (by rw [l1]; rfl) ?_
  refine Ru.iloadN d_cpof_24 rfl ?_
  refine Ru.callS0 (J := I_mmin) (c_mmin e (i := 16) (k := 34) (by omega) (by omega)) d_cpof_25 (e.w 122 rfl) (e.w 123 rfl) (e.w 114 rfl) (e.w 124 rfl) (by decide) np_mmin rfl (argsL := [(.int (n32 16)), (.int (n32 34))]) (rest := [(.int (0 : Int32)), (.ref t), (.int (0 : Int32)), (.ref v)]) rfl rfl (fun _ q => nomatch q) (Nat.le_of_ble_eq_true rfl) (Nat.le_of_ble_eq_true rfl) (Nat.le_of_ble_eq_true rfl) (Nat.le_of_ble_eq_true rfl) (WP.rt ?_)
  rintro _ h1 S1 ⟨rfl, rfl, rfl⟩
  refine Ru.arraycopyB (i := 0) (j := 0) (n := 16) d_cpof_28 (e.w 125 rfl) (e.w 100 rfl) (e.w 98 rfl) (e.w 99 rfl) (by simp) A1 T1 (by omega) (Nat.le_of_ble_eq_true rfl) rfl (Nat.le_of_ble_eq_true rfl) (by decide) ?_
  intro h2 K2 T2
  refine Ru.aloadN d_cpof_31 rfl rfl ?_
  have T3 : Ary G.Z h2 t .byte (us ++ List.replicate 18 (.int 0)) := by have q := T2; rw [List.drop_zero, List.take_zero, List.nil_append, List.take_of_length_le (by omega)] at q; exact q
  exact Ru.areturn (t := (.array .byte)) d_cpof_32 rfl rfl rfl rfl [t] (by simp) (Nat.le_of_ble_eq_true rfl) (Nat.le_of_ble_eq_true rfl) ⟨_, rfl, t, rfl, by omega, rfl, (keepE E1).trans K2 (by simp; omega), T3⟩
abbrev I_eci : Own.Inf := (⟨"java/lang/AbstractStringBuilder", "ensureCapacityInternal", "(I)V"⟩, jdk_68_method_9_code, 3, (Option.none : Option Jvm.ClassFile.FieldType), { frames := 3, cells := 1, slots := 34, locals := 62 }, [], [])
theorem d_eci_0 : Own.D1 jdk_68_method_9_code 0 (.aload_n 0) 1 1 := ⟨by decide +kernel, rfl⟩
theorem d_eci_1 : Own.D1 jdk_68_method_9_code 1 (.getfield 15) 3 4 := ⟨by decide +kernel, rfl⟩
theorem d_eci_4 : Own.D1 jdk_68_method_9_code 4 .arraylength 1 5 := ⟨by decide +kernel, rfl⟩
theorem d_eci_5 : Own.D1 jdk_68_method_9_code 5 (.aload_n 0) 1 6 := ⟨by decide +kernel, rfl⟩
theorem d_eci_6 : Own.D1 jdk_68_method_9_code 6 (.getfield 22) 3 9 := ⟨by decide +kernel, rfl⟩
theorem d_eci_9 : Own.D1 jdk_68_method_9_code 9 .ishr 1 10 := ⟨by decide +kernel, rfl⟩
theorem d_eci_10 : Own.D1 jdk_68_method_9_code 10 (.istore_n 2) 1 11 := ⟨by decide +kernel, rfl⟩
theorem d_eci_11 : Own.D1 jdk_68_method_9_code 11 (.iload_n 1) 1 12 := ⟨by decide +kernel, rfl⟩
theorem d_eci_12 : Own.D1 jdk_68_method_9_code 12 (.iload_n 2) 1 13 := ⟨by decide +kernel, rfl⟩
theorem d_eci_13 : Own.D1 jdk_68_method_9_code 13 .isub 1 14 := ⟨by decide +kernel, rfl⟩
theorem d_eci_14 : Own.DB jdk_68_method_9_code 14 (.ifCond .le 24) 3 (24) 17 38 := ⟨by decide +kernel, rfl, by decide, rfl⟩
theorem d_eci_17 : Own.D1 jdk_68_method_9_code 17 (.aload_n 0) 1 18 := ⟨by decide +kernel, rfl⟩
theorem d_eci_18 : Own.D1 jdk_68_method_9_code 18 (.aload_n 0) 1 19 := ⟨by decide +kernel, rfl⟩
theorem d_eci_19 : Own.D1 jdk_68_method_9_code 19 (.getfield 15) 3 22 := ⟨by decide +kernel, rfl⟩
theorem d_eci_22 : Own.D1 jdk_68_method_9_code 22 (.aload_n 0) 1 23 := ⟨by decide +kernel, rfl⟩
theorem d_eci_23 : Own.D1 jdk_68_method_9_code 23 (.iload_n 1) 1 24 := ⟨by decide +kernel, rfl⟩
theorem d_eci_24 : Own.D1 jdk_68_method_9_code 24 (.invokevirtual 104) 3 27 := ⟨by decide +kernel, rfl⟩
theorem d_eci_27 : Own.D1 jdk_68_method_9_code 27 (.aload_n 0) 1 28 := ⟨by decide +kernel, rfl⟩
theorem d_eci_28 : Own.D1 jdk_68_method_9_code 28 (.getfield 22) 3 31 := ⟨by decide +kernel, rfl⟩
theorem d_eci_31 : Own.D1 jdk_68_method_9_code 31 .ishl 1 32 := ⟨by decide +kernel, rfl⟩
theorem d_eci_32 : Own.D1 jdk_68_method_9_code 32 (.invokestatic 108) 3 35 := ⟨by decide +kernel, rfl⟩
theorem d_eci_35 : Own.D1 jdk_68_method_9_code 35 (.putfield 15) 3 38 := ⟨by decide +kernel, rfl⟩
theorem d_eci_38 : Own.D1 jdk_68_method_9_code 38 .return_ 1 39 := ⟨by decide +kernel, rfl⟩
theorem np_eci : Own.npar "(I)V" = some 1 := by decide +kernel
set_option maxRecDepth 65536 in
set_option maxHeartbeats 40000000 in
theorem c_eci {G : Own.Wd} {a0 : Array Value} (e : Ev G a0) {b v : Addr} {cs : List Int32} {n : Nat} {h : Heap} (D : SBd G h b v cs 16) (h34 : n ≤ 34) : Met G I_eci #[(.ref b), (.int (n32 n))] h [b, v] (Rv (fun h' S' => ∃ v' cap, S' = [v'] ∧ n ≤ cap ∧ (n ≤ 16 → cap = 16) ∧ (cap = 16 ∨ cap = 34) ∧ (h.size ≤ v' ∨ v' = v) ∧ Keep h h' [b] ∧ SBd G h' b v' cs cap)) := by
  refine Met.intro (ls := #[.val (.ref b), .val (.int (n32 n)), .unset]) (plainFor_of_name pn_4) (fun m => by first | (simp [entryFrame, mkF, argsToLocals, Value.category, I_eci]; done) | (simp [entryFrame, mkF, argsToLocals, Value.category]; rfl) | rfl) ?_
  intro K
  have D0 := D; obtain ⟨F, ⟨us, A, l1, t1⟩, hL, hc⟩ := D; have nbv := D0.ne e; have lb := D0.ltb; have lv := D0.ltv
  refine Ru.aloadN d_eci_0 rfl rfl ?_
  refine Ru.getfield d_eci_1 (e.w 49 rfl) Via.refl (SBo.get_value (G := G) F) ?_
  refine Ru.arraylength (n := (n32 16)) d_eci_4 A (by rw [l1]; rfl) ?_
  refine Ru.aloadN d_eci_5 rfl rfl ?_
  refine Ru.getfield d_eci_6 (e.w 51 rfl) Via.refl (SBo.get_coder (G := G) F) ?_
  refine Ru.ishr d_eci_9 ?_
  refine WP.topI (show ((n32 16) >>> ((0 : Int32) &&& 31)) = (n32 16) from (shr0 _)) ?_
  refine Ru.istoreN d_eci_10 (ls' := #[.val (.ref b), .val (.int (n32 n)), .val (.int (n32 16))]) rfl ?_
  refine Ru.iloadN d_eci_11 rfl ?_
  refine Ru.iloadN d_eci_12 rfl ?_
  refine Ru.isub d_eci_13 ?_
  by_cases q : n ≤ 16
  · refine Ru.ifY d_eci_14 (show ¬ (0 : Int32) < ((n32 n) - (n32 16)) from (fun z => by have := (sub_pos (by omega) (by omega)).mp z; omega)) ?_
    exact Ru.ret d_eci_38 rfl [v] (by simp) (Nat.le_of_ble_eq_true rfl) (Nat.le_of_ble_eq_true rfl) ⟨rfl, v, 16, rfl, q, fun _ => rfl, Or.inl rfl, Or.inr rfl, Keep.refl _ _, D0⟩
  · refine Ru.ifN d_eci_14 (show (0 : Int32) < ((n32 n) - (n32 16)) from ((sub_pos (by omega) (by omega)).mpr (by omega))) ?_
    refine Ru.aloadN d_eci_17 rfl rfl ?_
    refine Ru.aloadN d_eci_18 rfl rfl ?_
    refine Ru.getfield d_eci_19 (e.w 49 rfl) Via.refl (SBo.get_value (G := G) F) ?_
    refine Ru.aloadN d_eci_22 rfl rfl ?_
    refine Ru.iloadN d_eci_23 rfl ?_
    refine Ru.callV0 (J := I_newc) (c_newc e D0 (by omega) h34) d_eci_24 F.1 (e.w 103 rfl) (decl_of (e.w 104 rfl) (e.w 107 rfl)) (nf_sel (e.w 106 rfl)) (e.w 106 rfl) (e.w 104 rfl) (e.w 45 rfl) (e.w 107 rfl) (by decide) np_newc rfl (a := b) (argsL := [(.int (n32 n))]) (rest := [(.ref v), (.ref b)]) rfl rfl (fun _ q => nomatch q) (Nat.le_of_ble_eq_true rfl) (Nat.le_of_ble_eq_true rfl) (Nat.le_of_ble_eq_true rfl) (Nat.le_of_ble_eq_true rfl) (WP.rt ?_)
    rintro _ h S1 ⟨rfl, rfl, rfl⟩
    refine Ru.aloadN d_eci_27 rfl rfl ?_
    refine Ru.getfield d_eci_28 (e.w 51 rfl) Via.refl (SBo.get_coder (G := G) F) ?_
    refine Ru.ishl d_eci_31 ?_
    refine WP.topI (show ((n32 34) <<< ((0 : Int32) &&& 31)) = (n32 34) from (shl0 _)) ?_
    refine Ru.callS0 (J := I_cpof) (c_cpof e A l1) d_eci_32 (e.w 118 rfl) (e.w 119 rfl) (e.w 120 rfl) (e.w 121 rfl) (by decide) np_cpof rfl (argsL := [(.ref v), (.int (n32 34))]) (rest := [(.ref b)]) rfl rfl (fun _ q => nomatch q) (Nat.le_of_ble_eq_true rfl) (Nat.le_of_ble_eq_true rfl) (Nat.le_of_ble_eq_true rfl) (Nat.le_of_ble_eq_true rfl) (WP.rt ?_)
    rintro _ h1 S2 ⟨t, rfl, gt, rfl, K1, T1⟩
    have F1 := SBo.keep (G := G) F K1 nin0; have ntb : t ≠ b := nne (by omega)
    refine Ru.putfield d_eci_35 (e.w 49 rfl) Via.refl (by simp) (SBo.get_value (G := G) F1) F1.1 (Or.inl (e.w 50 rfl)) (e.w 36 rfl) (ty := (.array .byte)) (by decide) rfl rfl ?_
    intro h2 W2
    have F2 := SBo.put_value F1 e W2
    exact Ru.ret d_eci_38 rfl [t] (by simp) (Nat.le_of_ble_eq_true rfl) (Nat.le_of_ble_eq_true rfl) ⟨rfl, t, 34, rfl, h34, fun z => absurd z q, Or.inr rfl, Or.inl gt, (k0 K1).trans (Keep.of_wr W2) (by simp), F2, ⟨_, T1.keep (Keep.of_wr W2) (ninS ntb nin0), by simp [l1], by rw [List.take_append_of_le_length (by omega)]; exact t1⟩, hL, by omega⟩
abbrev I_infl : Own.Inf := (⟨"java/lang/AbstractStringBuilder", "inflateIfNeededFor", "(Ljava/lang/String;)V"⟩, jdk_68_method_71_code, 2, (Option.none : Option Jvm.ClassFile.FieldType), { frames := 1, cells := 0, slots := 0, locals := 14 }, [], [])
theorem d_infl_0 : Own.D1 jdk_68_method_71_code 0 (.getstatic 18) 3 3 := ⟨by decide +kernel, rfl⟩
theorem d_infl_3 : Own.DB jdk_68_method_71_code 3 (.ifCond .eq 18) 3 (18) 6 21 := ⟨by decide +kernel, rfl, by decide, rfl⟩
theorem d_infl_6 : Own.D1 jdk_68_method_71_code 6 (.aload_n 0) 1 7 := ⟨by decide +kernel, rfl⟩
theorem d_infl_7 : Own.D1 jdk_68_method_71_code 7 (.getfield 22) 3 10 := ⟨by decide +kernel, rfl⟩
theorem d_infl_10 : Own.D1 jdk_68_method_71_code 10 (.aload_n 1) 1 11 := ⟨by decide +kernel, rfl⟩
theorem d_infl_11 : Own.D1 jdk_68_method_71_code 11 (.invokevirtual 40) 3 14 := ⟨by decide +kernel, rfl⟩
theorem d_infl_14 : Own.DB jdk_68_method_71_code 14 (.if_icmp .eq 7) 3 (7) 17 21 := ⟨by decide +kernel, rfl, by decide, rfl⟩
theorem d_infl_17 : Own.D1 jdk_68_method_71_code 17 (.aload_n 0) 1 18 := ⟨by decide +kernel, rfl⟩
theorem d_infl_18 : Own.D1 jdk_68_method_71_code 18 (.invokevirtual 195) 3 21 := ⟨by decide +kernel, rfl⟩
theorem d_infl_21 : Own.D1 jdk_68_method_71_code 21 .return_ 1 22 := ⟨by decide +kernel, rfl⟩
theorem np_infl : Own.npar "(Ljava/lang/String;)V" = some 1 := by decide +kernel
set_option maxRecDepth 65536 in
set_option maxHeartbeats 40000000 in
theorem c_infl {G : Own.Wd} {a0 : Array Value} (e : Ev G a0) {b v s t : Addr} {cs xs : List Int32} {cap : Nat} {h : Heap} (D : SBd G h b v cs cap) (T : StrL G.Z h s t xs) : Met G I_infl #[(.ref b), (.ref s)] h [] (Rv (fun h' S' => S' = [] ∧ h' = h)) := by
  refine Met.intro (ls := #[.val (.ref b), .val (.ref s)]) (plainFor_of_name pn_4) (fun m => by first | (simp [entryFrame, mkF, argsToLocals, Value.category, I_infl]; done) | (simp [entryFrame, mkF, argsToLocals, Value.category]; rfl) | rfl) ?_
  intro K
  obtain ⟨cz, hcz, hz⟩ := e.cz
  refine Ru.getstatic d_infl_0 (e.w 48 rfl) hcz ?_
  refine Ru.ifN d_infl_3 (show ¬ cz = (0 : Int32) from hz) ?_
  refine Ru.aloadN d_infl_6 rfl rfl ?_
  refine Ru.getfield d_infl_7 (e.w 51 rfl) Via.refl (SBo.get_coder (G := G) D.1) ?_
  refine Ru.aloadN d_infl_10 rfl rfl ?_
  refine Ru.callV0 (J := I_scod) (c_scod e T) d_infl_11 T.1 (e.w 91 rfl) (e.w 69 rfl) (nf_sel (e.w 71 rfl)) (e.w 71 rfl) (e.w 70 rfl) (e.w 6 rfl) (e.w 72 rfl) (by decide) np_scod rfl (a := s) (argsL := []) (rest := [(.int (0 : Int32))]) rfl rfl (fun _ q => nomatch q) (Nat.le_of_ble_eq_true rfl) (Nat.le_of_ble_eq_true rfl) (Nat.le_of_ble_eq_true rfl) (Nat.le_of_ble_eq_true rfl) (WP.rt ?_)
  rintro _ h S1 ⟨rfl, rfl, rfl⟩
  refine Ru.icmpY d_infl_14 (show (0 : Int32) = (0 : Int32) from rfl) ?_
  exact Ru.ret d_infl_21 rfl [] (fun _ q => nomatch q) (Nat.le_of_ble_eq_true rfl) (Nat.le_of_ble_eq_true rfl) ⟨rfl, rfl, rfl⟩
abbrev I_gby : Own.Inf := (⟨"java/lang/String", "getBytes", "([BIB)V"⟩, jdk_42_method_147_code, 4, (Option.none : Option Jvm.ClassFile.FieldType), { frames := 1, cells := 0, slots := 0, locals := 32 }, [], [])
theorem d_gby_0 : Own.D1 jdk_42_method_147_code 0 (.aload_n 0) 1 1 := ⟨by decide +kernel, rfl⟩
theorem d_gby_1 : Own.D1 jdk_42_method_147_code 1 (.invokevirtual 335) 3 4 := ⟨by decide +kernel, rfl⟩
theorem d_gby_4 : Own.D1 jdk_42_method_147_code 4 (.iload_n 3) 1 5 := ⟨by decide +kernel, rfl⟩
theorem d_gby_5 : Own.DB jdk_42_method_147_code 5 (.if_icmp .ne 23) 3 (23) 8 28 := ⟨by decide +kernel, rfl, by decide, rfl⟩
theorem d_gby_8 : Own.D1 jdk_42_method_147_code 8 (.aload_n 0) 1 9 := ⟨by decide +kernel, rfl⟩
theorem d_gby_9 : Own.D1 jdk_42_method_147_code 9 (.getfield 9) 3 12 := ⟨by decide +kernel, rfl⟩
theorem d_gby_12 : Own.D1 jdk_42_method_147_code 12 (.iconst 0) 1 13 := ⟨by decide +kernel, rfl⟩
theorem d_gby_13 : Own.D1 jdk_42_method_147_code 13 (.aload_n 1) 1 14 := ⟨by decide +kernel, rfl⟩
theorem d_gby_14 : Own.D1 jdk_42_method_147_code 14 (.iload_n 2) 1 15 := ⟨by decide +kernel, rfl⟩
theorem d_gby_15 : Own.D1 jdk_42_method_147_code 15 (.iload_n 3) 1 16 := ⟨by decide +kernel, rfl⟩
theorem d_gby_16 : Own.D1 jdk_42_method_147_code 16 .ishl 1 17 := ⟨by decide +kernel, rfl⟩
theorem d_gby_17 : Own.D1 jdk_42_method_147_code 17 (.aload_n 0) 1 18 := ⟨by decide +kernel, rfl⟩
theorem d_gby_18 : Own.D1 jdk_42_method_147_code 18 (.getfield 9) 3 21 := ⟨by decide +kernel, rfl⟩
theorem d_gby_21 : Own.D1 jdk_42_method_147_code 21 .arraylength 1 22 := ⟨by decide +kernel, rfl⟩
theorem d_gby_22 : Own.D1 jdk_42_method_147_code 22 (.invokestatic 212) 3 25 := ⟨by decide +kernel, rfl⟩
theorem d_gby_25 : Own.DB jdk_42_method_147_code 25 (.goto 18) 3 (18) 28 43 := ⟨by decide +kernel, rfl, by decide, rfl⟩
theorem d_gby_28 : Own.D1 jdk_42_method_147_code 28 (.aload_n 0) 1 29 := ⟨by decide +kernel, rfl⟩
theorem d_gby_29 : Own.D1 jdk_42_method_147_code 29 (.getfield 9) 3 32 := ⟨by decide +kernel, rfl⟩
theorem d_gby_32 : Own.D1 jdk_42_method_147_code 32 (.iconst 0) 1 33 := ⟨by decide +kernel, rfl⟩
theorem d_gby_33 : Own.D1 jdk_42_method_147_code 33 (.aload_n 1) 1 34 := ⟨by decide +kernel, rfl⟩
theorem d_gby_34 : Own.D1 jdk_42_method_147_code 34 (.iload_n 2) 1 35 := ⟨by decide +kernel, rfl⟩
theorem d_gby_35 : Own.D1 jdk_42_method_147_code 35 (.aload_n 0) 1 36 := ⟨by decide +kernel, rfl⟩
theorem d_gby_36 : Own.D1 jdk_42_method_147_code 36 (.getfield 9) 3 39 := ⟨by decide +kernel, rfl⟩
theorem d_gby_39 : Own.D1 jdk_42_method_147_code 39 .arraylength 1 40 := ⟨by decide +kernel, rfl⟩
theorem d_gby_40 : Own.D1 jdk_42_method_147_code 40 (.invokestatic 106) 3 43 := ⟨by decide +kernel, rfl⟩
theorem d_gby_43 : Own.D1 jdk_42_method_147_code 43 .return_ 1 44 := ⟨by decide +kernel, rfl⟩
theorem np_gby : Own.npar "([BIB)V" = some 3 := by decide +kernel
set_option maxRecDepth 65536 in
set_option maxHeartbeats 40000000 in
theorem c_gby {G : Own.Wd} {a0 : Array Value} (e : Ev G a0) {s t v : Addr} {xs : List Int32} {us : List Value} {k : Nat} {h : Heap} (T : StrL G.Z h s t xs) (A : Ary G.Z h v .byte us) (hk : k + xs.length ≤ us.length) : Met G I_gby #[(.ref s), (.ref v), (.int (n32 k)), (.int (0 : Int32))] h [v] (Rv (fun h' S' => S' = [] ∧ Keep h h' [v] ∧ Ary G.Z h' v .byte (us.take k ++ (xs.map lat ++ us.drop (k + xs.length))))) := by
  refine Met.intro (ls := #[.val (.ref s), .val (.ref v), .val (.int (n32 k)), .val (.int (0 : Int32))]) (plainFor_of_name pn_1) (fun m => by first | (simp [entryFrame, mkF, argsToLocals, Value.category, I_gby]; done) | (simp [entryFrame, mkF, argsToLocals, Value.category]; rfl) | rfl) ?_
  intro K
  have hxs : xs.length < 2147483648 := by obtain ⟨c, -, e1, e2, -⟩ := T.2.2.2.1; simpa using e2
  have hus : us.length < 2147483648 := by obtain ⟨c, -, e1, e2, -⟩ := A; exact e2
  refine Ru.aloadN d_gby_0 rfl rfl ?_
  refine Ru.callV0 (J := I_scod) (c_scod e T) d_gby_1 T.1 (e.w 68 rfl) (e.w 69 rfl) (nf_sel (e.w 71 rfl)) (e.w 71 rfl) (e.w 70 rfl) (e.w 6 rfl) (e.w 72 rfl) (by decide) np_scod rfl (a := s) (argsL := []) (rest := []) rfl rfl (fun _ q => nomatch q) (Nat.le_of_ble_eq_true rfl) (Nat.le_of_ble_eq_true rfl) (Nat.le_of_ble_eq_true rfl) (Nat.le_of_ble_eq_true rfl) (WP.rt ?_)
  rintro _ h S1 ⟨rfl, rfl, rfl⟩
  refine Ru.iloadN d_gby_4 rfl ?_
  refine Ru.icmpN d_gby_5 (show (0 : Int32) = (0 : Int32) from rfl) ?_
  refine Ru.aloadN d_gby_8 rfl rfl ?_
  refine Ru.getfield d_gby_9 (e.w 24 rfl) Via.refl T.2.1 ?_
  refine Ru.iconst (x := 0) d_gby_12 rfl ?_
  refine Ru.aloadN d_gby_13 rfl rfl ?_
  refine Ru.iloadN d_gby_14 rfl ?_
  refine Ru.iloadN d_gby_15 rfl ?_
  refine Ru.ishl d_gby_16 ?_
  refine WP.topI (show ((n32 k) <<< ((0 : Int32) &&& 31)) = (n32 k) from (shl0 _)) ?_
  refine Ru.aloadN d_gby_17 rfl rfl ?_
  refine Ru.getfield d_gby_18 (e.w 24 rfl) Via.refl T.2.1 ?_
  refine Ru.arraylength (n := (n32 xs.length)) d_gby_21 T.2.2.2.1 (by simp [n32]) ?_
  refine Ru.arraycopyB (i := 0) (j := k) (n := xs.length) d_gby_22 (e.w 97 rfl) (e.w 100 rfl) (e.w 98 rfl) (e.w 99 rfl) (by simp) T.2.2.2.1 A (by simp) hk rfl (Nat.le_of_ble_eq_true rfl) (by decide) ?_
  intro h1 K1 A1
  refine Ru.goto d_gby_25 ?_
  exact Ru.ret d_gby_43 rfl [] (fun _ q => nomatch q) (Nat.le_of_ble_eq_true rfl) (Nat.le_of_ble_eq_true rfl) ⟨rfl, rfl, K1, by rw [List.drop_zero, List.take_of_length_le (l := xs.map lat) (by simp)] at A1; exact A1⟩
abbrev I_psa : Own.Inf := (⟨"java/lang/AbstractStringBuilder", "putStringAt", "(ILjava/lang/String;)V"⟩, jdk_68_method_73_code, 3, (Option.none : Option Jvm.ClassFile.FieldType), { frames := 2, cells := 0, slots := 0, locals := 48 }, [], [])
theorem d_psa_0 : Own.D1 jdk_68_method_73_code 0 (.aload_n 0) 1 1 := ⟨by decide +kernel, rfl⟩
theorem d_psa_1 : Own.D1 jdk_68_method_73_code 1 (.aload_n 2) 1 2 := ⟨by decide +kernel, rfl⟩
theorem d_psa_2 : Own.D1 jdk_68_method_73_code 2 (.invokevirtual 397) 3 5 := ⟨by decide +kernel, rfl⟩
theorem d_psa_5 : Own.D1 jdk_68_method_73_code 5 (.aload_n 2) 1 6 := ⟨by decide +kernel, rfl⟩
theorem d_psa_6 : Own.D1 jdk_68_method_73_code 6 (.aload_n 0) 1 7 := ⟨by decide +kernel, rfl⟩
theorem d_psa_7 : Own.D1 jdk_68_method_73_code 7 (.getfield 15) 3 10 := ⟨by decide +kernel, rfl⟩
theorem d_psa_10 : Own.D1 jdk_68_method_73_code 10 (.iload_n 1) 1 11 := ⟨by decide +kernel, rfl⟩
theorem d_psa_11 : Own.D1 jdk_68_method_73_code 11 (.aload_n 0) 1 12 := ⟨by decide +kernel, rfl⟩
theorem d_psa_12 : Own.D1 jdk_68_method_73_code 12 (.getfield 22) 3 15 := ⟨by decide +kernel, rfl⟩
theorem d_psa_15 : Own.D1 jdk_68_method_73_code 15 (.invokevirtual 399) 3 18 := ⟨by decide +kernel, rfl⟩
theorem d_psa_18 : Own.D1 jdk_68_method_73_code 18 .return_ 1 19 := ⟨by decide +kernel, rfl⟩
theorem np_psa : Own.npar "(ILjava/lang/String;)V" = some 2 := by decide +kernel
set_option maxRecDepth 65536 in
set_option maxHeartbeats 40000000 in
theorem c_psa {G : Own.Wd} {a0 : Array Value} (e : Ev G a0) {b v s t : Addr} {cs xs : List Int32} {cap : Nat} {h : Heap} (D : SBd G h b v cs cap) (T : StrL G.Z h s t xs) (hcap : cs.length + xs.length ≤ cap) : Met G I_psa #[(.ref b), (.int (n32 cs.length)), (.ref s)] h [v] (Rv (fun h' S' => S' = [] ∧ Keep h h' [v] ∧ SBo G.Z h' b (.ref v) (.int 0) (.int (n32 cs.length)) ∧ ∃ us, Ary G.Z h' v .byte us ∧ us.length = cap ∧ us.take (cs ++ xs).length = (cs ++ xs).map lat)) := by
  refine Met.intro (ls := #[.val (.ref b), .val (.int (n32 cs.length)), .val (.ref s)]) (plainFor_of_name pn_4) (fun m => by first | (simp [entryFrame, mkF, argsToLocals, Value.category, I_psa]; done) | (simp [entryFrame, mkF, argsToLocals, Value.category]; rfl) | rfl) ?_
  intro K
  have D0 := D; obtain ⟨F, ⟨us, A, l1, t1⟩, hL, hc⟩ := D; have nbv := D0.ne e
  refine Ru.aloadN d_psa_0 rfl rfl ?_
  refine Ru.aloadN d_psa_1 rfl rfl ?_
  refine Ru.callV0 (J := I_infl) (c_infl e D0 T) d_psa_2 F.1 (e.w 86 rfl) (decl_of (e.w 87 rfl) (e.w 90 rfl)) (nf_sel (e.w 89 rfl)) (e.w 89 rfl) (e.w 87 rfl) (e.w 45 rfl) (e.w 90 rfl) (by decide) np_infl rfl (a := b) (argsL := [(.ref s)]) (rest := []) rfl rfl (fun _ q => nomatch q) (Nat.le_of_ble_eq_true rfl) (Nat.le_of_ble_eq_true rfl) (Nat.le_of_ble_eq_true rfl) (Nat.le_of_ble_eq_true rfl) (WP.rv ?_)
  rintro h S1 ⟨rfl, rfl⟩
  refine Ru.aloadN d_psa_5 rfl rfl ?_
  refine Ru.aloadN d_psa_6 rfl rfl ?_
  refine Ru.getfield d_psa_7 (e.w 49 rfl) Via.refl (SBo.get_value (G := G) F) ?_
  refine Ru.iloadN d_psa_10 rfl ?_
  refine Ru.aloadN d_psa_11 rfl rfl ?_
  refine Ru.getfield d_psa_12 (e.w 51 rfl) Via.refl (SBo.get_coder (G := G) F) ?_
  refine Ru.callV0 (J := I_gby) (c_gby e T A (by omega)) d_psa_15 T.1 (e.w 92 rfl) (e.w 93 rfl) (nf_sel (e.w 95 rfl)) (e.w 95 rfl) (e.w 94 rfl) (e.w 6 rfl) (e.w 96 rfl) (by decide) np_gby rfl (a := s) (argsL := [(.ref v), (.int (n32 cs.length)), (.int (0 : Int32))]) (rest := []) rfl rfl (by simp) (Nat.le_of_ble_eq_true rfl) (Nat.le_of_ble_eq_true rfl) (Nat.le_of_ble_eq_true rfl) (Nat.le_of_ble_eq_true rfl) (WP.rv ?_)
  rintro h1 S2 ⟨rfl, K1, A1⟩
  exact Ru.ret d_psa_18 rfl [] (fun _ q => nomatch q) (Nat.le_of_ble_eq_true rfl) (Nat.le_of_ble_eq_true rfl) ⟨rfl, rfl, K1, SBo.keep (G := G) F K1 (ninS nbv nin0), _, A1, by simp; omega, app_take t1 (by omega)⟩
abbrev I_aapp : Own.Inf := (⟨"java/lang/AbstractStringBuilder", "append", "(Ljava/lang/String;)Ljava/lang/AbstractStringBuilder;"⟩, jdk_68_method_22_code, 3, (Option.some (Jvm.ClassFile.FieldType.object "java/lang/AbstractStringBuilder")), { frames := 4, cells := 1, slots := 34, locals := 80 }, [], [])
theorem d_aapp_0 : Own.D1 jdk_68_method_22_code 0 (.aload_n 1) 1 1 := ⟨by decide +kernel, rfl⟩
theorem d_aapp_1 : Own.DB jdk_68_method_22_code 1 (.ifnonnull 8) 3 (8) 4 9 := ⟨by decide +kernel, rfl, by decide, rfl⟩
theorem d_aapp_4 : Own.D1 jdk_68_method_22_code 4 (.aload_n 0) 1 5 := ⟨by decide +kernel, rfl⟩
theorem d_aapp_5 : Own.D1 jdk_68_method_22_code 5 (.invokevirtual 204) 3 8 := ⟨by decide +kernel, rfl⟩
theorem d_aapp_8 : Own.D1 jdk_68_method_22_code 8 .areturn 1 9 := ⟨by decide +kernel, rfl⟩
theorem d_aapp_9 : Own.D1 jdk_68_method_22_code 9 (.aload_n 1) 1 10 := ⟨by decide +kernel, rfl⟩
theorem d_aapp_10 : Own.D1 jdk_68_method_22_code 10 (.invokevirtual 32) 3 13 := ⟨by decide +kernel, rfl⟩
theorem d_aapp_13 : Own.D1 jdk_68_method_22_code 13 (.istore_n 2) 1 14 := ⟨by decide +kernel, rfl⟩
theorem d_aapp_14 : Own.D1 jdk_68_method_22_code 14 (.aload_n 0) 1 15 := ⟨by decide +kernel, rfl⟩
theorem d_aapp_15 : Own.D1 jdk_68_method_22_code 15 (.aload_n 0) 1 16 := ⟨by decide +kernel, rfl⟩
theorem d_aapp_16 : Own.D1 jdk_68_method_22_code 16 (.getfield 79) 3 19 := ⟨by decide +kernel, rfl⟩
theorem d_aapp_19 : Own.D1 jdk_68_method_22_code 19 (.iload_n 2) 1 20 := ⟨by decide +kernel, rfl⟩
theorem d_aapp_20 : Own.D1 jdk_68_method_22_code 20 .iadd 1 21 := ⟨by decide +kernel, rfl⟩
theorem d_aapp_21 : Own.D1 jdk_68_method_22_code 21 (.invokevirtual 100) 3 24 := ⟨by decide +kernel, rfl⟩
theorem d_aapp_24 : Own.D1 jdk_68_method_22_code 24 (.aload_n 0) 1 25 := ⟨by decide +kernel, rfl⟩
theorem d_aapp_25 : Own.D1 jdk_68_method_22_code 25 (.aload_n 0) 1 26 := ⟨by decide +kernel, rfl⟩
theorem d_aapp_26 : Own.D1 jdk_68_method_22_code 26 (.getfield 79) 3 29 := ⟨by decide +kernel, rfl⟩
theorem d_aapp_29 : Own.D1 jdk_68_method_22_code 29 (.aload_n 1) 1 30 := ⟨by decide +kernel, rfl⟩
theorem d_aapp_30 : Own.D1 jdk_68_method_22_code 30 (.invokevirtual 208) 3 33 := ⟨by decide +kernel, rfl⟩
theorem d_aapp_33 : Own.D1 jdk_68_method_22_code 33 (.aload_n 0) 1 34 := ⟨by decide +kernel, rfl⟩
theorem d_aapp_34 : Own.D1 jdk_68_method_22_code 34 .dup 1 35 := ⟨by decide +kernel, rfl⟩
theorem d_aapp_35 : Own.D1 jdk_68_method_22_code 35 (.getfield 79) 3 38 := ⟨by decide +kernel, rfl⟩
theorem d_aapp_38 : Own.D1 jdk_68_method_22_code 38 (.iload_n 2) 1 39 := ⟨by decide +kernel, rfl⟩
theorem d_aapp_39 : Own.D1 jdk_68_method_22_code 39 .iadd 1 40 := ⟨by decide +kernel, rfl⟩
theorem d_aapp_40 : Own.D1 jdk_68_method_22_code 40 (.putfield 79) 3 43 := ⟨by decide +kernel, rfl⟩
theorem d_aapp_43 : Own.D1 jdk_68_method_22_code 43 (.aload_n 0) 1 44 := ⟨by decide +kernel, rfl⟩
theorem d_aapp_44 : Own.D1 jdk_68_method_22_code 44 .areturn 1 45 := ⟨by decide +kernel, rfl⟩
theorem np_aapp : Own.npar "(Ljava/lang/String;)Ljava/lang/AbstractStringBuilder;" = some 1 := by decide +kernel
set_option maxRecDepth 65536 in
set_option maxHeartbeats 40000000 in
theorem c_aapp {G : Own.Wd} {a0 : Array Value} (e : Ev G a0) {b v s t : Addr} {cs xs : List Int32} {h : Heap} (D : SBd G h b v cs 16) (T : StrL G.Z h s t xs) (hm : cs.length + xs.length ≤ 34) (nsb : s ≠ b) (ntb : t ≠ b) : Met G I_aapp #[(.ref b), (.ref s)] h [b, v] (Rt (fun x h' S' => x = .ref b ∧ ∃ v' cap, S' = [v'] ∧ ((cs ++ xs).length ≤ 16 → cap = 16) ∧ (cap = 16 ∨ cap = 34) ∧ (h.size ≤ v' ∨ v' = v) ∧ Keep h h' [b, v] ∧ SBd G h' b v' (cs ++ xs) cap)) := by
  refine Met.intro (ls := #[.val (.ref b), .val (.ref s), .unset]) (plainFor_of_name pn_4) (fun m => by first | (simp [entryFrame, mkF, argsToLocals, Value.category, I_aapp]; done) | (simp [entryFrame, mkF, argsToLocals, Value.category]; rfl) | rfl) ?_
  intro K
  have lb := D.ltb; have lv := D.ltv; have nbv := D.ne e
  refine Ru.aloadN d_aapp_0 rfl rfl ?_
  refine Ru.ifnonnullY d_aapp_1 ?_
  refine Ru.aloadN d_aapp_9 rfl rfl ?_
  refine Ru.callV0 (J := I_slen) (c_slen e T) d_aapp_10 T.1 (e.w 63 rfl) (e.w 64 rfl) (nf_sel (e.w 66 rfl)) (e.w 66 rfl) (e.w 65 rfl) (e.w 6 rfl) (e.w 67 rfl) (by decide) np_slen rfl (a := s) (argsL := []) (rest := []) rfl rfl (fun _ q => nomatch q) (Nat.le_of_ble_eq_true rfl) (Nat.le_of_ble_eq_true rfl) (Nat.le_of_ble_eq_true rfl) (Nat.le_of_ble_eq_true rfl) (WP.rt ?_)
  rintro _ h S1 ⟨rfl, rfl, rfl⟩
  refine Ru.istoreN d_aapp_13 (ls' := #[.val (.ref b), .val (.ref s), .val (.int (n32 xs.length))]) rfl ?_
  refine Ru.aloadN d_aapp_14 rfl rfl ?_
  refine Ru.aloadN d_aapp_15 rfl rfl ?_
  refine Ru.getfield d_aapp_16 (e.w 74 rfl) Via.refl (SBo.get_count (G := G) D.1) ?_
  refine Ru.iloadN d_aapp_19 rfl ?_
  refine Ru.iadd d_aapp_20 ?_
  refine WP.topI (show ((n32 cs.length) + (n32 xs.length)) = (n32 (cs.length + xs.length)) from (n32_add _ _)) ?_
  refine Ru.callV0 (J := I_eci) (c_eci e D hm) d_aapp_21 D.1.1 (e.w 76 rfl) (decl_of (e.w 77 rfl) (e.w 80 rfl)) (nf_sel (e.w 79 rfl)) (e.w 79 rfl) (e.w 77 rfl) (e.w 45 rfl) (e.w 80 rfl) (by decide) np_eci rfl (a := b) (argsL := [(.int (n32 (cs.length + xs.length)))]) (rest := []) rfl rfl (by simp) (Nat.le_of_ble_eq_true rfl) (Nat.le_of_ble_eq_true rfl) (Nat.le_of_ble_eq_true rfl) (Nat.le_of_ble_eq_true rfl) (WP.rv ?_)
  rintro h1 S2 ⟨v1, cap, rfl, c1, c2, c3, c4, K1, D1⟩
  have T1 := T.keep K1 (ninS nsb nin0) (ninS ntb nin0); have nv1 := D1.ne e
  refine Ru.aloadN d_aapp_24 rfl rfl ?_
  refine Ru.aloadN d_aapp_25 rfl rfl ?_
  refine Ru.getfield d_aapp_26 (e.w 74 rfl) Via.refl (SBo.get_count (G := G) D1.1) ?_
  refine Ru.aloadN d_aapp_29 rfl rfl ?_
  refine Ru.callV0 (J := I_psa) (c_psa e D1 T1 c1) d_aapp_30 D1.1.1 (e.w 81 rfl) (decl_of (e.w 82 rfl) (e.w 85 rfl)) (nf_sel (e.w 84 rfl)) (e.w 84 rfl) (e.w 82 rfl) (e.w 45 rfl) (e.w 85 rfl) (by decide) np_psa rfl (a := b) (argsL := [(.int (n32 cs.length)), (.ref s)]) (rest := []) rfl rfl (by simp) (Nat.le_of_ble_eq_true rfl) (Nat.le_of_ble_eq_true rfl) (Nat.le_of_ble_eq_true rfl) (Nat.le_of_ble_eq_true rfl) (WP.rv ?_)
  rintro h2 S3 ⟨rfl, K2, F2, us, A2, l2, t2⟩
  refine Ru.aloadN d_aapp_33 rfl rfl ?_
  refine Ru.dup d_aapp_34 rfl ?_
  refine Ru.getfield d_aapp_35 (e.w 74 rfl) Via.refl (SBo.get_count (G := G) F2) ?_
  refine Ru.iloadN d_aapp_38 rfl ?_
  refine Ru.iadd d_aapp_39 ?_
  refine WP.topI (show ((n32 cs.length) + (n32 xs.length)) = (n32 (cs ++ xs).length) from (by rw [List.length_append]; exact n32_add _ _)) ?_
  refine Ru.putfield d_aapp_40 (e.w 74 rfl) Via.refl (by simp) (SBo.get_count (G := G) F2) F2.1 (Or.inl (e.w 75 rfl)) (e.w 36 rfl) (ty := .int) (by decide) rfl rfl ?_
  intro h3 W3
  have F3 := SBo.put_count F2 e W3; have K3 := Keep.of_wr W3
  refine Ru.aloadN d_aapp_43 rfl rfl ?_
  have KK : Keep h h3 [b, v] := ((kmono K1 (by simp)).trans K2 (fun x hx => by rw [List.mem_singleton.mp hx]; exact c4.elim (fun z => Or.inr z) (fun z => Or.inl (by simp [z])))).trans K3 (by simp)
  exact Ru.areturn (t := (.object "java/lang/AbstractStringBuilder")) d_aapp_44 rfl rfl rfl rfl [v1] (by simp) (Nat.le_of_ble_eq_true rfl) (Nat.le_of_ble_eq_true rfl) ⟨_, rfl, rfl, v1, cap, rfl, fun z => c2 (by simpa using z), c3, c4, KK, F3, ⟨us, A2.keep K3 (ninS nv1.symm nin0), l2, t2⟩, fun c q => (List.mem_append.mp q).elim (D.2.2.1 c) (T.2.2.2.2 c), by simp; exact c1⟩
abbrev I_sapp : Own.Inf := (⟨"java/lang/StringBuilder", "append", "(Ljava/lang/String;)Ljava/lang/StringBuilder;"⟩, jdk_67_method_7_code, 2, (Option.some (Jvm.ClassFile.FieldType.object "java/lang/StringBuilder")), { frames := 5, cells := 1, slots := 34, locals := 96 }, [], [])
theorem d_sapp_0 : Own.D1 jdk_67_method_7_code 0 (.aload_n 0) 1 1 := ⟨by decide +kernel, rfl⟩
theorem d_sapp_1 : Own.D1 jdk_67_method_7_code 1 (.aload_n 1) 1 2 := ⟨by decide +kernel, rfl⟩
theorem d_sapp_2 : Own.D1 jdk_67_method_7_code 2 (.invokespecial 29) 3 5 := ⟨by decide +kernel, rfl⟩
theorem d_sapp_5 : Own.D1 jdk_67_method_7_code 5 .pop 1 6 := ⟨by decide +kernel, rfl⟩
theorem d_sapp_6 : Own.D1 jdk_67_method_7_code 6 (.aload_n 0) 1 7 := ⟨by decide +kernel, rfl⟩
theorem d_sapp_7 : Own.D1 jdk_67_method_7_code 7 .areturn 1 8 := ⟨by decide +kernel, rfl⟩
theorem np_sapp : Own.npar "(Ljava/lang/String;)Ljava/lang/StringBuilder;" = some 1 := by decide +kernel
set_option maxRecDepth 65536 in
set_option maxHeartbeats 40000000 in
theorem c_sapp {G : Own.Wd} {a0 : Array Value} (e : Ev G a0) {b v s t : Addr} {cs xs : List Int32} {h : Heap} (D : SBd G h b v cs 16) (T : StrL G.Z h s t xs) (hm : cs.length + xs.length ≤ 34) (nsb : s ≠ b) (ntb : t ≠ b) : Met G I_sapp #[(.ref b), (.ref s)] h [b, v] (Rt (fun x h' S' => x = .ref b ∧ ∃ v' cap, S' = [v'] ∧ ((cs ++ xs).length ≤ 16 → cap = 16) ∧ (cap = 16 ∨ cap = 34) ∧ (h.size ≤ v' ∨ v' = v) ∧ Keep h h' [b, v] ∧ SBd G h' b v' (cs ++ xs) cap)) := by
  refine Met.intro (ls := #[.val (.ref b), .val (.ref s)]) (plainFor_of_name pn_5) (fun m => by first | (simp [entryFrame, mkF, argsToLocals, Value.category, I_sapp]; done) | (simp [entryFrame, mkF, argsToLocals, Value.category]; rfl) | rfl) ?_
  intro K
  refine Ru.aloadN d_sapp_0 rfl rfl ?_
  refine Ru.aloadN d_sapp_1 rfl rfl ?_
  refine Ru.callU0 (J := I_aapp) (c_aapp e D T hm nsb ntb) d_sapp_2 (by decide) D.1.1 (e.w 58 rfl) (same_of (e.w 61 rfl) (e.w 139 rfl) (e.w 141 rfl) rfl (by decide)) (e.w 59 rfl) (e.w 60 rfl) (e.w 45 rfl) (e.w 62 rfl) np_aapp rfl (a := b) (argsL := [(.ref s)]) (rest := []) rfl rfl (by simp) (Nat.le_of_ble_eq_true rfl) (Nat.le_of_ble_eq_true rfl) (Nat.le_of_ble_eq_true rfl) (Nat.le_of_ble_eq_true rfl) (WP.rt ?_)
  rintro _ h1 S1 ⟨rfl, v1, cap, rfl, r1, r2, r3, K1, D1⟩
  refine Ru.pop d_sapp_5 rfl ?_
  refine Ru.aloadN d_sapp_6 rfl rfl ?_
  exact Ru.areturn (t := (.object "java/lang/StringBuilder")) d_sapp_7 rfl rfl rfl rfl [v1] (by simp) (Nat.le_of_ble_eq_true rfl) (Nat.le_of_ble_eq_true rfl) ⟨_, rfl, rfl, v1, cap, rfl, r1, r2, r3, K1, D1⟩
abbrev I_gval : Own.Inf := (⟨"java/lang/AbstractStringBuilder", "getValue", "()[B"⟩, jdk_68_method_64_code, 1, (Option.some (Jvm.ClassFile.FieldType.array Jvm.ClassFile.FieldType.byte)), { frames := 0, cells := 0, slots := 0, locals := 0 }, [], [])
theorem d_gval_0 : Own.D1 jdk_68_method_64_code 0 (.aload_n 0) 1 1 := ⟨by decide +kernel, rfl⟩
theorem d_gval_1 : Own.D1 jdk_68_method_64_code 1 (.getfield 15) 3 4 := ⟨by decide +kernel, rfl⟩
theorem d_gval_4 : Own.D1 jdk_68_method_64_code 4 .areturn 1 5 := ⟨by decide +kernel, rfl⟩
theorem np_gval : Own.npar "()[B" = some 0 := by decide +kernel
set_option maxRecDepth 65536 in
set_option maxHeartbeats 40000000 in
theorem c_gval {G : Own.Wd} {a0 : Array Value} (e : Ev G a0) {b v : Addr} {cs : List Int32} {cap : Nat} {h : Heap} (D : SBd G h b v cs cap) : Met G I_gval #[(.ref b)] h [] (Rt (fun x h' S' => S' = [] ∧ h' = h ∧ x = (.ref v))) := by
  refine Met.intro (ls := #[.val (.ref b)]) (plainFor_of_name pn_4) (fun m => by first | (simp [entryFrame, mkF, argsToLocals, Value.category, I_gval]; done) | (simp [entryFrame, mkF, argsToLocals, Value.category]; rfl) | rfl) ?_
  intro K
  refine Ru.aloadN d_gval_0 rfl rfl ?_
  refine Ru.getfield d_gval_1 (e.w 49 rfl) Via.refl (SBo.get_value (G := G) D.1) ?_
  exact Ru.areturn (t := (.array .byte)) d_gval_4 rfl rfl rfl rfl [] (fun _ q => nomatch q) (Nat.le_of_ble_eq_true rfl) (Nat.le_of_ble_eq_true rfl) ⟨_, rfl, rfl, rfl, rfl⟩
abbrev I_alen : Own.Inf := (⟨"java/lang/AbstractStringBuilder", "length", "()I"⟩, jdk_68_method_6_code, 1, (Option.some Jvm.ClassFile.FieldType.int), { frames := 0, cells := 0, slots := 0, locals := 0 }, [], [])
theorem d_alen_0 : Own.D1 jdk_68_method_6_code 0 (.aload_n 0) 1 1 := ⟨by decide +kernel, rfl⟩
theorem d_alen_1 : Own.D1 jdk_68_method_6_code 1 (.getfield 79) 3 4 := ⟨by decide +kernel, rfl⟩
theorem d_alen_4 : Own.D1 jdk_68_method_6_code 4 .ireturn 1 5 := ⟨by decide +kernel, rfl⟩
theorem np_alen : Own.npar "()I" = some 0 := by decide +kernel
set_option maxRecDepth 65536 in
set_option maxHeartbeats 40000000 in
theorem c_alen {G : Own.Wd} {a0 : Array Value} (e : Ev G a0) {b v : Addr} {cs : List Int32} {cap : Nat} {h : Heap} (D : SBd G h b v cs cap) : Met G I_alen #[(.ref b)] h [] (Rt (fun x h' S' => S' = [] ∧ h' = h ∧ x = (.int (n32 cs.length)))) := by
  refine Met.intro (ls := #[.val (.ref b)]) (plainFor_of_name pn_4) (fun m => by first | (simp [entryFrame, mkF, argsToLocals, Value.category, I_alen]; done) | (simp [entryFrame, mkF, argsToLocals, Value.category]; rfl) | rfl) ?_
  intro K
  refine Ru.aloadN d_alen_0 rfl rfl ?_
  refine Ru.getfield d_alen_1 (e.w 74 rfl) Via.refl (SBo.get_count (G := G) D.1) ?_
  exact Ru.ireturn d_alen_4 rfl [] (fun _ q => nomatch q) (Nat.le_of_ble_eq_true rfl) (Nat.le_of_ble_eq_true rfl) ⟨_, rfl, rfl, rfl, rfl⟩
abbrev I_blen : Own.Inf := (⟨"java/lang/StringBuilder", "length", "()I"⟩, jdk_67_method_93_code, 1, (Option.some Jvm.ClassFile.FieldType.int), { frames := 1, cells := 0, slots := 0, locals := 14 }, [], [])
theorem d_blen_0 : Own.D1 jdk_67_method_93_code 0 (.aload_n 0) 1 1 := ⟨by decide +kernel, rfl⟩
theorem d_blen_1 : Own.D1 jdk_67_method_93_code 1 (.invokespecial 343) 3 4 := ⟨by decide +kernel, rfl⟩
theorem d_blen_4 : Own.D1 jdk_67_method_93_code 4 .ireturn 1 5 := ⟨by decide +kernel, rfl⟩
theorem np_blen : Own.npar "()I" = some 0 := by decide +kernel
set_option maxRecDepth 65536 in
set_option maxHeartbeats 40000000 in
theorem c_blen {G : Own.Wd} {a0 : Array Value} (e : Ev G a0) {b v : Addr} {cs : List Int32} {cap : Nat} {h : Heap} (D : SBd G h b v cs cap) : Met G I_blen #[(.ref b)] h [] (Rt (fun x h' S' => S' = [] ∧ h' = h ∧ x = .int (n32 cs.length))) := by
  refine Met.intro (ls := #[.val (.ref b)]) (plainFor_of_name pn_5) (fun m => by first | (simp [entryFrame, mkF, argsToLocals, Value.category, I_blen]; done) | (simp [entryFrame, mkF, argsToLocals, Value.category]; rfl) | rfl) ?_
  intro K
  refine Ru.aloadN d_blen_0 rfl rfl ?_
  refine Ru.callU0 (J := I_alen) (c_alen e D) d_blen_1 (by decide) D.1.1 (e.w 149 rfl) (same_of (e.w 144 rfl) (e.w 139 rfl) (e.w 141 rfl) rfl (by decide)) (e.w 145 rfl) (e.w 60 rfl) (e.w 45 rfl) (e.w 150 rfl) np_alen rfl (a := b) (argsL := []) (rest := []) rfl rfl (fun _ q => nomatch q) (Nat.le_of_ble_eq_true rfl) (Nat.le_of_ble_eq_true rfl) (Nat.le_of_ble_eq_true rfl) (Nat.le_of_ble_eq_true rfl) (WP.rt ?_)
  rintro _ _ S1 ⟨rfl, rfl, rfl⟩
  exact Ru.ireturn d_blen_4 rfl [] (fun _ q => nomatch q) (Nat.le_of_ble_eq_true rfl) (Nat.le_of_ble_eq_true rfl) ⟨_, rfl, rfl, rfl, rfl⟩
abbrev I_bisl : Own.Inf := (⟨"java/lang/AbstractStringBuilder", "isLatin1", "()Z"⟩, jdk_68_method_68_code, 1, (Option.some Jvm.ClassFile.FieldType.boolean), { frames := 0, cells := 0, slots := 0, locals := 0 }, [], [])
theorem d_bisl_0 : Own.D1 jdk_68_method_68_code 0 (.getstatic 18) 3 3 := ⟨by decide +kernel, rfl⟩
theorem d_bisl_3 : Own.DB jdk_68_method_68_code 3 (.ifCond .eq 14) 3 (14) 6 17 := ⟨by decide +kernel, rfl, by decide, rfl⟩
theorem d_bisl_6 : Own.D1 jdk_68_method_68_code 6 (.aload_n 0) 1 7 := ⟨by decide +kernel, rfl⟩
theorem d_bisl_7 : Own.D1 jdk_68_method_68_code 7 (.getfield 22) 3 10 := ⟨by decide +kernel, rfl⟩
theorem d_bisl_10 : Own.DB jdk_68_method_68_code 10 (.ifCond .ne 7) 3 (7) 13 17 := ⟨by decide +kernel, rfl, by decide, rfl⟩
theorem d_bisl_13 : Own.D1 jdk_68_method_68_code 13 (.iconst 1) 1 14 := ⟨by decide +kernel, rfl⟩
theorem d_bisl_14 : Own.DB jdk_68_method_68_code 14 (.goto 4) 3 (4) 17 18 := ⟨by decide +kernel, rfl, by decide, rfl⟩
theorem d_bisl_17 : Own.D1 jdk_68_method_68_code 17 (.iconst 0) 1 18 := ⟨by decide +kernel, rfl⟩
theorem d_bisl_18 : Own.D1 jdk_68_method_68_code 18 .ireturn 1 19 := ⟨by decide +kernel, rfl⟩
theorem np_bisl : Own.npar "()Z" = some 0 := by decide +kernel
set_option maxRecDepth 65536 in
set_option maxHeartbeats 40000000 in
theorem c_bisl {G : Own.Wd} {a0 : Array Value} (e : Ev G a0) {b v : Addr} {cs : List Int32} {cap : Nat} {h : Heap} (D : SBd G h b v cs cap) : Met G I_bisl #[(.ref b)] h [] (Rt (fun x h' S' => S' = [] ∧ h' = h ∧ x = .int 1)) := by
  refine Met.intro (ls := #[.val (.ref b)]) (plainFor_of_name pn_4) (fun m => by first | (simp [entryFrame, mkF, argsToLocals, Value.category, I_bisl]; done) | (simp [entryFrame, mkF, argsToLocals, Value.category]; rfl) | rfl) ?_
  intro K
  obtain ⟨cz, hcz, hz⟩ := e.cz
  refine Ru.getstatic d_bisl_0 (e.w 48 rfl) hcz ?_
  refine Ru.ifN d_bisl_3 (show ¬ cz = (0 : Int32) from hz) ?_
  refine Ru.aloadN d_bisl_6 rfl rfl ?_
  refine Ru.getfield d_bisl_7 (e.w 51 rfl) Via.refl (SBo.get_coder (G := G) D.1) ?_
  refine Ru.ifN d_bisl_10 (show (0 : Int32) = (0 : Int32) from rfl) ?_
  refine Ru.iconst (x := 1) d_bisl_13 rfl ?_
  refine Ru.goto d_bisl_14 ?_
  exact Ru.ireturnN (t := .boolean) (x' := (1 : Int32)) d_bisl_18 rfl (by simp) rfl [] (fun _ q => nomatch q) (Nat.le_of_ble_eq_true rfl) (Nat.le_of_ble_eq_true rfl) ⟨_, rfl, rfl, rfl, rfl⟩
abbrev I_ckl : Own.Inf := (⟨"java/util/Arrays", "checkLength", "(II)V"⟩, jdk_65_method_131_code, 2, (Option.none : Option Jvm.ClassFile.FieldType), { frames := 0, cells := 0, slots := 0, locals := 0 }, [], [])
theorem d_ckl_0 : Own.D1 jdk_65_method_131_code 0 (.iload_n 1) 1 1 := ⟨by decide +kernel, rfl⟩
theorem d_ckl_1 : Own.D1 jdk_65_method_131_code 1 (.iload_n 0) 1 2 := ⟨by decide +kernel, rfl⟩
theorem d_ckl_2 : Own.DB jdk_65_method_131_code 2 (.if_icmp .ge 35) 3 (35) 5 37 := ⟨by decide +kernel, rfl, by decide, rfl⟩
theorem d_ckl_5 : Own.D1 jdk_65_method_131_code 5 (.new 43) 3 8 := ⟨by decide +kernel, rfl⟩
theorem d_ckl_8 : Own.D1 jdk_65_method_131_code 8 .dup 1 9 := ⟨by decide +kernel, rfl⟩
theorem d_ckl_9 : Own.D1 jdk_65_method_131_code 9 (.new 45) 3 12 := ⟨by decide +kernel, rfl⟩
theorem d_ckl_12 : Own.D1 jdk_65_method_131_code 12 .dup 1 13 := ⟨by decide +kernel, rfl⟩
theorem d_ckl_13 : Own.D1 jdk_65_method_131_code 13 (.invokespecial 47) 3 16 := ⟨by decide +kernel, rfl⟩
theorem d_ckl_16 : Own.D1 jdk_65_method_131_code 16 (.iload_n 0) 1 17 := ⟨by decide +kernel, rfl⟩
theorem d_ckl_17 : Own.D1 jdk_65_method_131_code 17 (.invokevirtual 54) 3 20 := ⟨by decide +kernel, rfl⟩
theorem d_ckl_20 : Own.D1 jdk_65_method_131_code 20 (.ldc_w 337) 3 23 := ⟨by decide +kernel, rfl⟩
theorem d_ckl_23 : Own.D1 jdk_65_method_131_code 23 (.invokevirtual 50) 3 26 := ⟨by decide +kernel, rfl⟩
theorem d_ckl_26 : Own.D1 jdk_65_method_131_code 26 (.iload_n 1) 1 27 := ⟨by decide +kernel, rfl⟩
theorem d_ckl_27 : Own.D1 jdk_65_method_131_code 27 (.invokevirtual 54) 3 30 := ⟨by decide +kernel, rfl⟩
theorem d_ckl_30 : Own.D1 jdk_65_method_131_code 30 (.invokevirtual 61) 3 33 := ⟨by decide +kernel, rfl⟩
theorem d_ckl_33 : Own.D1 jdk_65_method_131_code 33 (.invokespecial 65) 3 36 := ⟨by decide +kernel, rfl⟩
theorem d_ckl_36 : Own.D1 jdk_65_method_131_code 36 .athrow 1 37 := ⟨by decide +kernel, rfl⟩
theorem d_ckl_37 : Own.D1 jdk_65_method_131_code 37 .return_ 1 38 := ⟨by decide +kernel, rfl⟩
theorem np_ckl : Own.npar "(II)V" = some 2 := by decide +kernel
set_option maxRecDepth 65536 in
set_option maxHeartbeats 40000000 in
theorem c_ckl {G : Own.Wd} {a0 : Array Value} (e : Ev G a0) {n : Nat} {h : Heap} (hn : n < 2147483648) : Met G I_ckl #[(.int (n32 0)), (.int (n32 n))] h [] (Rv (fun h' S' => S' = [] ∧ h' = h)) := by
  refine Met.intro (ls := #[.val (.int (n32 0)), .val (.int (n32 n))]) (plainFor_of_name pn_8) (fun m => by first | (simp [entryFrame, mkF, argsToLocals, Value.category, I_ckl]; done) | (simp [entryFrame, mkF, argsToLocals, Value.category]; rfl) | rfl) ?_
  intro K
  refine Ru.iloadN d_ckl_0 rfl ?_
  refine Ru.iloadN d_ckl_1 rfl ?_
  refine Ru.icmpY d_ckl_2 (show ¬ (n32 n) < (n32 0) from (by rw [n32_lt (by omega) (by omega)]; omega)) ?_
  exact Ru.ret d_ckl_37 rfl [] (fun _ q => nomatch q) (Nat.le_of_ble_eq_true rfl) (Nat.le_of_ble_eq_true rfl) ⟨rfl, rfl, rfl⟩
abbrev I_cprb : Own.Inf := (⟨"java/util/Arrays", "copyOfRangeByte", "([BII)[B"⟩, jdk_65_method_133_code, 5, (Option.some (Jvm.ClassFile.FieldType.array Jvm.ClassFile.FieldType.byte)), { frames := 1, cells := 1, slots := 34, locals := 34 }, [], [])
theorem d_cprb_0 : Own.D1 jdk_65_method_133_code 0 (.iload_n 1) 1 1 := ⟨by decide +kernel, rfl⟩
theorem d_cprb_1 : Own.D1 jdk_65_method_133_code 1 (.iload_n 2) 1 2 := ⟨by decide +kernel, rfl⟩
theorem d_cprb_2 : Own.D1 jdk_65_method_133_code 2 (.invokestatic 343) 3 5 := ⟨by decide +kernel, rfl⟩
theorem d_cprb_5 : Own.D1 jdk_65_method_133_code 5 (.iload_n 2) 1 6 := ⟨by decide +kernel, rfl⟩
theorem d_cprb_6 : Own.D1 jdk_65_method_133_code 6 (.iload_n 1) 1 7 := ⟨by decide +kernel, rfl⟩
theorem d_cprb_7 : Own.D1 jdk_65_method_133_code 7 .isub 1 8 := ⟨by decide +kernel, rfl⟩
theorem d_cprb_8 : Own.D1 jdk_65_method_133_code 8 (.istore_n 3) 1 9 := ⟨by decide +kernel, rfl⟩
theorem d_cprb_9 : Own.D1 jdk_65_method_133_code 9 (.iload_n 3) 1 10 := ⟨by decide +kernel, rfl⟩
theorem d_cprb_10 : Own.D1 jdk_65_method_133_code 10 (.newarray .byte) 2 12 := ⟨by decide +kernel, rfl⟩
theorem d_cprb_12 : Own.D1 jdk_65_method_133_code 12 (.astore 4) 2 14 := ⟨by decide +kernel, rfl⟩
theorem d_cprb_14 : Own.D1 jdk_65_method_133_code 14 (.aload_n 0) 1 15 := ⟨by decide +kernel, rfl⟩
theorem d_cprb_15 : Own.D1 jdk_65_method_133_code 15 (.iload_n 1) 1 16 := ⟨by decide +kernel, rfl⟩
theorem d_cprb_16 : Own.D1 jdk_65_method_133_code 16 (.aload 4) 2 18 := ⟨by decide +kernel, rfl⟩
theorem d_cprb_18 : Own.D1 jdk_65_method_133_code 18 (.iconst 0) 1 19 := ⟨by decide +kernel, rfl⟩
theorem d_cprb_19 : Own.D1 jdk_65_method_133_code 19 (.aload_n 0) 1 20 := ⟨by decide +kernel, rfl⟩
theorem d_cprb_20 : Own.D1 jdk_65_method_133_code 20 .arraylength 1 21 := ⟨by decide +kernel, rfl⟩
theorem d_cprb_21 : Own.D1 jdk_65_method_133_code 21 (.iload_n 1) 1 22 := ⟨by decide +kernel, rfl⟩
theorem d_cprb_22 : Own.D1 jdk_65_method_133_code 22 .isub 1 23 := ⟨by decide +kernel, rfl⟩
theorem d_cprb_23 : Own.D1 jdk_65_method_133_code 23 (.iload_n 3) 1 24 := ⟨by decide +kernel, rfl⟩
theorem d_cprb_24 : Own.D1 jdk_65_method_133_code 24 (.invokestatic 304) 3 27 := ⟨by decide +kernel, rfl⟩
theorem d_cprb_27 : Own.D1 jdk_65_method_133_code 27 (.invokestatic 150) 3 30 := ⟨by decide +kernel, rfl⟩
theorem d_cprb_30 : Own.D1 jdk_65_method_133_code 30 (.aload 4) 2 32 := ⟨by decide +kernel, rfl⟩
theorem d_cprb_32 : Own.D1 jdk_65_method_133_code 32 .areturn 1 33 := ⟨by decide +kernel, rfl⟩
theorem np_cprb : Own.npar "([BII)[B" = some 3 := by decide +kernel
set_option maxRecDepth 65536 in
set_option maxHeartbeats 40000000 in
theorem c_cprb {G : Own.Wd} {a0 : Array Value} (e : Ev G a0) {v : Addr} {us : List Value} {n : Nat} {h : Heap} (A : Ary G.Z h v .byte us) (hn : n ≤ us.length) (hcap : n ≤ 34) : Met G I_cprb #[(.ref v), (.int (n32 0)), (.int (n32 n))] h [] (Rt (fun x h' S' => ∃ t, x = .ref t ∧ h.size ≤ t ∧ S' = [t] ∧ Keep h h' [] ∧ Ary G.Z h' t .byte (us.take n))) := by
  refine Met.intro (ls := #[.val (.ref v), .val (.int (n32 0)), .val (.int (n32 n)), .unset, .unset]) (plainFor_of_name pn_8) (fun m => by first | (simp [entryFrame, mkF, argsToLocals, Value.category, I_cprb]; done) | (simp [entryFrame, mkF, argsToLocals, Value.category]; rfl) | rfl) ?_
  intro K
  have hus : us.length < 2147483648 := by obtain ⟨c, -, e1, e2, -⟩ := A; exact e2
  refine Ru.iloadN d_cprb_0 rfl ?_
  refine Ru.iloadN d_cprb_1 rfl ?_
  refine Ru.callS0 (J := I_ckl) (c_ckl e (n := n) (by omega)) d_cprb_2 (e.w 162 rfl) (e.w 163 rfl) (e.w 120 rfl) (e.w 164 rfl) (by decide) np_ckl rfl (argsL := [(.int (n32 0)), (.int (n32 n))]) (rest := []) rfl rfl (fun _ q => nomatch q) (Nat.le_of_ble_eq_true rfl) (Nat.le_of_ble_eq_true rfl) (Nat.le_of_ble_eq_true rfl) (Nat.le_of_ble_eq_true rfl) (WP.rv ?_)
  rintro h S1 ⟨rfl, rfl⟩
  refine Ru.iloadN d_cprb_5 rfl ?_
  refine Ru.iloadN d_cprb_6 rfl ?_
  refine Ru.isub d_cprb_7 ?_
  refine WP.topI (show ((n32 n) - (n32 0)) = (n32 n) from (by rw [n32_sub (by omega) (by omega)]; rfl)) ?_
  refine Ru.istoreN d_cprb_8 (ls' := #[.val (.ref v), .val (.int (n32 0)), .val (.int (n32 n)), .val (.int (n32 n)), .unset]) rfl ?_
  refine Ru.iloadN d_cprb_9 rfl ?_
  refine Ru.newarray (cap := 34) d_cprb_10 (ty := .byte) rfl (e.w 19 rfl) rfl (n32_nn (by omega)) (by rw [n32_cl (by omega)]; exact hcap) (Nat.le_of_ble_eq_true rfl) (Nat.le_of_ble_eq_true rfl) (Nat.le_of_ble_eq_true rfl) ?_
  intro h1 t gt E1 T1
  rw [n32_cl (by omega)] at T1; have A1 := A.ext E1
  refine Ru.astore d_cprb_12 rfl (ls' := #[.val (.ref v), .val (.int (n32 0)), .val (.int (n32 n)), .val (.int (n32 n)), .val (.ref t)]) rfl ?_
  refine Ru.aloadN d_cprb_14 rfl rfl ?_
  refine Ru.iloadN d_cprb_15 rfl ?_
  refine Ru.aload d_cprb_16 rfl rfl ?_
  refine Ru.iconst (x := 0) d_cprb_18 rfl ?_
  refine Ru.aloadN d_cprb_19 rfl rfl ?_
  refine Ru.arraylength (n := (n32 us.length)) d_cprb_20 A1 rfl ?_
  refine Ru.iloadN d_cprb_21 rfl ?_
  refine Ru.isub d_cprb_22 ?_
  refine WP.topI (show ((n32 us.length) - (n32 0)) = (n32 us.length) from (by rw [n32_sub (by omega) (by omega)]; rfl)) ?_
  refine Ru.iloadN d_cprb_23 rfl ?_
  refine Ru.callS0 (J := I_mmin) (c_mmin e (i := us.length) (k := n) (by omega) (by omega)) d_cprb_24 (e.w 122 rfl) (e.w 123 rfl) (e.w 114 rfl) (e.w 124 rfl) (by decide) np_mmin rfl (argsL := [(.int (n32 us.length)), (.int (n32 n))]) (rest := [(.int (0 : Int32)), (.ref t), (.int (n32 0)), (.ref v)]) rfl rfl (fun _ q => nomatch q) (Nat.le_of_ble_eq_true rfl) (Nat.le_of_ble_eq_true rfl) (Nat.le_of_ble_eq_true rfl) (Nat.le_of_ble_eq_true rfl) (WP.rt ?_)
  rintro _ h1 S2 ⟨rfl, rfl, rfl⟩
  refine WP.topI (show (n32 (min us.length n)) = (n32 n) from (by rw [Nat.min_eq_right hn])) ?_
  refine Ru.arraycopyB (i := 0) (j := 0) (n := n) d_cprb_27 (e.w 125 rfl) (e.w 100 rfl) (e.w 98 rfl) (e.w 99 rfl) (by simp) A1 T1 (by omega) (by simp) rfl (Nat.le_of_ble_eq_true rfl) (by decide) ?_
  intro h2 K2 T2
  refine Ru.aload d_cprb_30 rfl rfl ?_
  have T3 : Ary G.Z h2 t .byte (us.take n) := by have q := T2; rw [List.drop_zero, List.take_zero, List.nil_append, List.drop_of_length_le (by simp), List.append_nil] at q; exact q
  exact Ru.areturn (t := (.array .byte)) d_cprb_32 rfl rfl rfl rfl [t] (by simp) (Nat.le_of_ble_eq_true rfl) (Nat.le_of_ble_eq_true rfl) ⟨_, rfl, t, rfl, by omega, rfl, (keepE E1).trans K2 (by simp; omega), T3⟩
abbrev I_cpr : Own.Inf := (⟨"java/util/Arrays", "copyOfRange", "([BII)[B"⟩, jdk_65_method_132_code, 3, (Option.some (Jvm.ClassFile.FieldType.array Jvm.ClassFile.FieldType.byte)), { frames := 2, cells := 1, slots := 34, locals := 50 }, [], [])
theorem d_cpr_0 : Own.D1 jdk_65_method_132_code 0 (.iload_n 1) 1 1 := ⟨by decide +kernel, rfl⟩
theorem d_cpr_1 : Own.DB jdk_65_method_132_code 1 (.ifCond .ne 9) 3 (9) 4 10 := ⟨by decide +kernel, rfl, by decide, rfl⟩
theorem d_cpr_4 : Own.D1 jdk_65_method_132_code 4 (.iload_n 2) 1 5 := ⟨by decide +kernel, rfl⟩
theorem d_cpr_5 : Own.D1 jdk_65_method_132_code 5 (.aload_n 0) 1 6 := ⟨by decide +kernel, rfl⟩
theorem d_cpr_6 : Own.D1 jdk_65_method_132_code 6 .arraylength 1 7 := ⟨by decide +kernel, rfl⟩
theorem d_cpr_7 : Own.DB jdk_65_method_132_code 7 (.if_icmp .eq 10) 3 (10) 10 17 := ⟨by decide +kernel, rfl, by decide, rfl⟩
theorem d_cpr_10 : Own.D1 jdk_65_method_132_code 10 (.aload_n 0) 1 11 := ⟨by decide +kernel, rfl⟩
theorem d_cpr_11 : Own.D1 jdk_65_method_132_code 11 (.iload_n 1) 1 12 := ⟨by decide +kernel, rfl⟩
theorem d_cpr_12 : Own.D1 jdk_65_method_132_code 12 (.iload_n 2) 1 13 := ⟨by decide +kernel, rfl⟩
theorem d_cpr_13 : Own.D1 jdk_65_method_132_code 13 (.invokestatic 339) 3 16 := ⟨by decide +kernel, rfl⟩
theorem d_cpr_16 : Own.D1 jdk_65_method_132_code 16 .areturn 1 17 := ⟨by decide +kernel, rfl⟩
theorem d_cpr_17 : Own.D1 jdk_65_method_132_code 17 (.aload_n 0) 1 18 := ⟨by decide +kernel, rfl⟩
theorem d_cpr_18 : Own.D1 jdk_65_method_132_code 18 (.invokevirtual 310) 3 21 := ⟨by decide +kernel, rfl⟩
theorem d_cpr_21 : Own.D1 jdk_65_method_132_code 21 (.checkcast 311) 3 24 := ⟨by decide +kernel, rfl⟩
theorem d_cpr_24 : Own.D1 jdk_65_method_132_code 24 .areturn 1 25 := ⟨by decide +kernel, rfl⟩
theorem np_cpr : Own.npar "([BII)[B" = some 3 := by decide +kernel
set_option maxRecDepth 65536 in
set_option maxHeartbeats 40000000 in
theorem c_cpr {G : Own.Wd} {a0 : Array Value} (e : Ev G a0) {v : Addr} {us : List Value} {n : Nat} {h : Heap} (A : Ary G.Z h v .byte us) (hn : n < us.length) (hcap : n ≤ 34) : Met G I_cpr #[(.ref v), (.int (n32 0)), (.int (n32 n))] h [] (Rt (fun x h' S' => ∃ t, x = .ref t ∧ h.size ≤ t ∧ S' = [t] ∧ Keep h h' [] ∧ Ary G.Z h' t .byte (us.take n))) := by
  refine Met.intro (ls := #[.val (.ref v), .val (.int (n32 0)), .val (.int (n32 n))]) (plainFor_of_name pn_8) (fun m => by first | (simp [entryFrame, mkF, argsToLocals, Value.category, I_cpr]; done) | (simp [entryFrame, mkF, argsToLocals, Value.category]; rfl) | rfl) ?_
  intro K
  have hus : us.length < 2147483648 := by obtain ⟨c, -, e1, e2, -⟩ := A; exact e2
  refine Ru.iloadN d_cpr_0 rfl ?_
  refine Ru.ifN d_cpr_1 (show (n32 0) = (0 : Int32) from rfl) ?_
  refine Ru.iloadN d_cpr_4 rfl ?_
  refine Ru.aloadN d_cpr_5 rfl rfl ?_
  refine Ru.arraylength (n := (n32 us.length)) d_cpr_6 A rfl ?_
  refine Ru.icmpN d_cpr_7 (show ¬ (n32 n) = (n32 us.length) from (fun z => by have := (n32_eq (by omega) (by omega)).mp z; omega)) ?_
  refine Ru.aloadN d_cpr_10 rfl rfl ?_
  refine Ru.iloadN d_cpr_11 rfl ?_
  refine Ru.iloadN d_cpr_12 rfl ?_
  refine Ru.callS0 (J := I_cprb) (c_cprb e (n := n) A (by omega) hcap) d_cpr_13 (e.w 159 rfl) (e.w 160 rfl) (e.w 120 rfl) (e.w 161 rfl) (by decide) np_cprb rfl (argsL := [(.ref v), (.int (n32 0)), (.int (n32 n))]) (rest := []) rfl rfl (fun _ q => nomatch q) (Nat.le_of_ble_eq_true rfl) (Nat.le_of_ble_eq_true rfl) (Nat.le_of_ble_eq_true rfl) (Nat.le_of_ble_eq_true rfl) (WP.rt ?_)
  rintro _ h1 S1 ⟨t, rfl, gt, rfl, K1, T1⟩
  exact Ru.areturn (t := (.array .byte)) d_cpr_16 rfl rfl rfl rfl [t] (by simp) (Nat.le_of_ble_eq_true rfl) (Nat.le_of_ble_eq_true rfl) ⟨_, rfl, t, rfl, gt, rfl, K1, T1⟩
abbrev I_sia : Own.Inf := (⟨"java/lang/String", "<init>", "(Ljava/lang/AbstractStringBuilder;Ljava/lang/Void;)V"⟩, jdk_42_method_150_code, 5, (Option.none : Option Jvm.ClassFile.FieldType), { frames := 3, cells := 1, slots := 34, locals := 66 }, [], [])
theorem d_sia_0 : Own.D1 jdk_42_method_150_code 0 (.aload_n 0) 1 1 := ⟨by decide +kernel, rfl⟩
theorem d_sia_1 : Own.D1 jdk_42_method_150_code 1 (.invokespecial 1) 3 4 := ⟨by decide +kernel, rfl⟩
theorem d_sia_4 : Own.D1 jdk_42_method_150_code 4 (.aload_n 1) 1 5 := ⟨by decide +kernel, rfl⟩
theorem d_sia_5 : Own.D1 jdk_42_method_150_code 5 (.invokevirtual 552) 3 8 := ⟨by decide +kernel, rfl⟩
theorem d_sia_8 : Own.D1 jdk_42_method_150_code 8 (.astore_n 3) 1 9 := ⟨by decide +kernel, rfl⟩
theorem d_sia_9 : Own.D1 jdk_42_method_150_code 9 (.aload_n 1) 1 10 := ⟨by decide +kernel, rfl⟩
theorem d_sia_10 : Own.D1 jdk_42_method_150_code 10 (.invokevirtual 549) 3 13 := ⟨by decide +kernel, rfl⟩
theorem d_sia_13 : Own.D1 jdk_42_method_150_code 13 (.istore 4) 2 15 := ⟨by decide +kernel, rfl⟩
theorem d_sia_15 : Own.D1 jdk_42_method_150_code 15 (.aload_n 1) 1 16 := ⟨by decide +kernel, rfl⟩
theorem d_sia_16 : Own.D1 jdk_42_method_150_code 16 (.invokevirtual 1047) 3 19 := ⟨by decide +kernel, rfl⟩
theorem d_sia_19 : Own.DB jdk_42_method_150_code 19 (.ifCond .eq 22) 3 (22) 22 41 := ⟨by decide +kernel, rfl, by decide, rfl⟩
theorem d_sia_22 : Own.D1 jdk_42_method_150_code 22 (.aload_n 0) 1 23 := ⟨by decide +kernel, rfl⟩
theorem d_sia_23 : Own.D1 jdk_42_method_150_code 23 (.iconst 0) 1 24 := ⟨by decide +kernel, rfl⟩
theorem d_sia_24 : Own.D1 jdk_42_method_150_code 24 (.putfield 15) 3 27 := ⟨by decide +kernel, rfl⟩
theorem d_sia_27 : Own.D1 jdk_42_method_150_code 27 (.aload_n 0) 1 28 := ⟨by decide +kernel, rfl⟩
theorem d_sia_28 : Own.D1 jdk_42_method_150_code 28 (.aload_n 3) 1 29 := ⟨by decide +kernel, rfl⟩
theorem d_sia_29 : Own.D1 jdk_42_method_150_code 29 (.iconst 0) 1 30 := ⟨by decide +kernel, rfl⟩
theorem d_sia_30 : Own.D1 jdk_42_method_150_code 30 (.iload 4) 2 32 := ⟨by decide +kernel, rfl⟩
theorem d_sia_32 : Own.D1 jdk_42_method_150_code 32 (.invokestatic 54) 3 35 := ⟨by decide +kernel, rfl⟩
theorem d_sia_35 : Own.D1 jdk_42_method_150_code 35 (.putfield 9) 3 38 := ⟨by decide +kernel, rfl⟩
theorem d_sia_38 : Own.DB jdk_42_method_150_code 38 (.goto 59) 3 (59) 41 97 := ⟨by decide +kernel, rfl, by decide, rfl⟩
theorem d_sia_41 : Own.D1 jdk_42_method_150_code 41 (.getstatic 38) 3 44 := ⟨by decide +kernel, rfl⟩
theorem d_sia_44 : Own.DB jdk_42_method_150_code 44 (.ifCond .eq 35) 3 (35) 47 79 := ⟨by decide +kernel, rfl, by decide, rfl⟩
theorem d_sia_47 : Own.D1 jdk_42_method_150_code 47 (.aload_n 1) 1 48 := ⟨by decide +kernel, rfl⟩
theorem d_sia_48 : Own.D1 jdk_42_method_150_code 48 (.getfield 1048) 3 51 := ⟨by decide +kernel, rfl⟩
theorem d_sia_51 : Own.DB jdk_42_method_150_code 51 (.ifCond .eq 28) 3 (28) 54 79 := ⟨by decide +kernel, rfl, by decide, rfl⟩
theorem d_sia_54 : Own.D1 jdk_42_method_150_code 54 (.aload_n 0) 1 55 := ⟨by decide +kernel, rfl⟩
theorem d_sia_55 : Own.D1 jdk_42_method_150_code 55 (.aload_n 3) 1 56 := ⟨by decide +kernel, rfl⟩
theorem d_sia_56 : Own.D1 jdk_42_method_150_code 56 (.iconst 0) 1 57 := ⟨by decide +kernel, rfl⟩
theorem d_sia_57 : Own.D1 jdk_42_method_150_code 57 (.iload 4) 2 59 := ⟨by decide +kernel, rfl⟩
theorem d_sia_59 : Own.D1 jdk_42_method_150_code 59 (.invokestatic 1051) 3 62 := ⟨by decide +kernel, rfl⟩
theorem d_sia_62 : Own.D1 jdk_42_method_150_code 62 (.putfield 9) 3 65 := ⟨by decide +kernel, rfl⟩
theorem d_sia_65 : Own.D1 jdk_42_method_150_code 65 (.aload_n 0) 1 66 := ⟨by decide +kernel, rfl⟩
theorem d_sia_66 : Own.D1 jdk_42_method_150_code 66 (.aload_n 0) 1 67 := ⟨by decide +kernel, rfl⟩
theorem d_sia_67 : Own.D1 jdk_42_method_150_code 67 (.getfield 9) 3 70 := ⟨by decide +kernel, rfl⟩
theorem d_sia_70 : Own.D1 jdk_42_method_150_code 70 (.iload 4) 2 72 := ⟨by decide +kernel, rfl⟩
theorem d_sia_72 : Own.D1 jdk_42_method_150_code 72 (.invokestatic 47) 3 75 := ⟨by decide +kernel, rfl⟩
theorem d_sia_75 : Own.D1 jdk_42_method_150_code 75 (.putfield 15) 3 78 := ⟨by decide +kernel, rfl⟩
theorem d_sia_78 : Own.D1 jdk_42_method_150_code 78 .return_ 1 79 := ⟨by decide +kernel, rfl⟩
theorem d_sia_79 : Own.D1 jdk_42_method_150_code 79 (.aload_n 0) 1 80 := ⟨by decide +kernel, rfl⟩
theorem d_sia_80 : Own.D1 jdk_42_method_150_code 80 (.iconst 1) 1 81 := ⟨by decide +kernel, rfl⟩
theorem d_sia_81 : Own.D1 jdk_42_method_150_code 81 (.putfield 15) 3 84 := ⟨by decide +kernel, rfl⟩
theorem d_sia_84 : Own.D1 jdk_42_method_150_code 84 (.aload_n 0) 1 85 := ⟨by decide +kernel, rfl⟩
theorem d_sia_85 : Own.D1 jdk_42_method_150_code 85 (.aload_n 3) 1 86 := ⟨by decide +kernel, rfl⟩
theorem d_sia_86 : Own.D1 jdk_42_method_150_code 86 (.iconst 0) 1 87 := ⟨by decide +kernel, rfl⟩
theorem d_sia_87 : Own.D1 jdk_42_method_150_code 87 (.iload 4) 2 89 := ⟨by decide +kernel, rfl⟩
theorem d_sia_89 : Own.D1 jdk_42_method_150_code 89 (.iconst 1) 1 90 := ⟨by decide +kernel, rfl⟩
theorem d_sia_90 : Own.D1 jdk_42_method_150_code 90 .ishl 1 91 := ⟨by decide +kernel, rfl⟩
theorem d_sia_91 : Own.D1 jdk_42_method_150_code 91 (.invokestatic 54) 3 94 := ⟨by decide +kernel, rfl⟩
theorem d_sia_94 : Own.D1 jdk_42_method_150_code 94 (.putfield 9) 3 97 := ⟨by decide +kernel, rfl⟩
theorem d_sia_97 : Own.D1 jdk_42_method_150_code 97 .return_ 1 98 := ⟨by decide +kernel, rfl⟩
theorem np_sia : Own.npar "(Ljava/lang/AbstractStringBuilder;Ljava/lang/Void;)V" = some 2 := by decide +kernel
set_option maxRecDepth 65536 in
set_option maxHeartbeats 40000000 in
theorem c_sia {G : Own.Wd} {a0 : Array Value} (e : Ev G a0) {a b v : Addr} {cs : List Int32} {cap : Nat} {v0 : Value} {c0 : Int32} {h : Heap} (E0 : Exa G.Z h a "java/lang/String") (Fv : Fld G.Z h a "java/lang/String" "value" "[B" v0) (Fc : Fld G.Z h a "java/lang/String" "coder" "B" (.int c0)) (D : SBd G h b v cs cap) (hlt : cs.length < cap) (hcap : cs.length ≤ 34) : Met G I_sia #[(.ref a), (.ref b), .null] h [a] (Rv (fun h' S' => S' = [] ∧ ∃ t, h.size ≤ t ∧ Keep h h' [a] ∧ StrL G.Z h' a t cs)) := by
  refine Met.intro (ls := #[.val (.ref a), .val (.ref b), .val .null, .unset, .unset]) (plainFor_of_name pn_1) (fun m => by first | (simp [entryFrame, mkF, argsToLocals, Value.category, I_sia]; done) | (simp [entryFrame, mkF, argsToLocals, Value.category]; rfl) | rfl) ?_
  intro K
  have hne : Jvm.RoadKit.slotOf G.Z "java/lang/String" "coder" "B" ≠ Jvm.RoadKit.slotOf G.Z "java/lang/String" "value" "[B" := slot_ne (Or.inr (e.w 21 rfl)) (Or.inr (e.w 20 rfl)) (by decide) (t := .byte) (by decide) (t' := .array .byte) (by decide)
  have D0 := D; obtain ⟨F, ⟨us, A, l1, t1⟩, hL, hc⟩ := D; have la := xlt E0
  refine Ru.aloadN d_sia_0 rfl rfl ?_
  refine Ru.initO d_sia_1 (e.w 15 rfl) (e.w 16 rfl) (e.w 17 rfl) rfl (Nat.le_of_ble_eq_true rfl) (Nat.le_of_ble_eq_true rfl) ?_
  refine Ru.aloadN d_sia_4 rfl rfl ?_
  refine Ru.callV0 (J := I_gval) (c_gval e D0) d_sia_5 F.1 (e.w 138 rfl) (e.w 139 rfl) (nf_sel (e.w 141 rfl)) (e.w 141 rfl) (e.w 140 rfl) (e.w 45 rfl) (e.w 142 rfl) (by decide) np_gval rfl (a := b) (argsL := []) (rest := []) rfl rfl (fun _ q => nomatch q) (Nat.le_of_ble_eq_true rfl) (Nat.le_of_ble_eq_true rfl) (Nat.le_of_ble_eq_true rfl) (Nat.le_of_ble_eq_true rfl) (WP.rt ?_)
  rintro _ h S1 ⟨rfl, rfl, rfl⟩
  refine Ru.astoreN d_sia_8 rfl (ls' := #[.val (.ref a), .val (.ref b), .val .null, .val (.ref v), .unset]) rfl ?_
  refine Ru.aloadN d_sia_9 rfl rfl ?_
  refine Ru.callVU0 (J := I_blen) (c_blen e D0) d_sia_10 F.1 (e.w 143 rfl) (same_of (e.w 144 rfl) (e.w 139 rfl) (e.w 141 rfl) rfl (by decide)) (e.w 144 rfl) (e.w 146 rfl) (e.w 147 rfl) (e.w 37 rfl) (e.w 148 rfl) (by decide) np_blen rfl (a := b) (argsL := []) (rest := []) rfl rfl (fun _ q => nomatch q) (Nat.le_of_ble_eq_true rfl) (Nat.le_of_ble_eq_true rfl) (Nat.le_of_ble_eq_true rfl) (Nat.le_of_ble_eq_true rfl) (WP.rt ?_)
  rintro _ h S2 ⟨rfl, rfl, rfl⟩
  refine Ru.istore d_sia_13 (ls' := #[.val (.ref a), .val (.ref b), .val .null, .val (.ref v), .val (.int (n32 cs.length))]) rfl ?_
  refine Ru.aloadN d_sia_15 rfl rfl ?_
  refine Ru.callV0 (J := I_bisl) (c_bisl e D0) d_sia_16 F.1 (e.w 151 rfl) (e.w 152 rfl) (nf_sel (e.w 154 rfl)) (e.w 154 rfl) (e.w 153 rfl) (e.w 45 rfl) (e.w 155 rfl) (by decide) np_bisl rfl (a := b) (argsL := []) (rest := []) rfl rfl (fun _ q => nomatch q) (Nat.le_of_ble_eq_true rfl) (Nat.le_of_ble_eq_true rfl) (Nat.le_of_ble_eq_true rfl) (Nat.le_of_ble_eq_true rfl) (WP.rt ?_)
  rintro _ h S3 ⟨rfl, rfl, rfl⟩
  refine Ru.ifN d_sia_19 (show ¬ (1 : Int32) = (0 : Int32) from (by decide)) ?_
  refine Ru.aloadN d_sia_22 rfl rfl ?_
  refine Ru.iconst (x := 0) d_sia_23 rfl ?_
  refine Ru.putfield d_sia_24 (e.w 25 rfl) Via.refl (by simp) Fc E0 (Or.inr ⟨(e.w 21 rfl), rfl, rfl⟩) (e.w 5 rfl) (ty := .byte) (by decide) rfl rfl ?_
  intro h1 W1
  have K1 := Keep.of_wr W1; have nav : v ≠ a := (Ary.ne_exa E0 (e.w 5 rfl) A).symm; have A1 := A.keep K1 (ninS nav nin0); have G2 := Fc.same W1; have G1 := Fv.other W1 (Or.inr hne.symm); have E1 := E0.wr W1
  refine Ru.aloadN d_sia_27 rfl rfl ?_
  refine Ru.aloadN d_sia_28 rfl rfl ?_
  refine Ru.iconst (x := 0) d_sia_29 rfl ?_
  refine WP.topI (show (0 : Int32) = (n32 0) from rfl) ?_
  refine Ru.iload d_sia_30 rfl ?_
  refine Ru.callS0 (J := I_cpr) (c_cpr e (n := cs.length) A1 (by omega) hcap) d_sia_32 (e.w 156 rfl) (e.w 157 rfl) (e.w 120 rfl) (e.w 158 rfl) (by decide) np_cpr rfl (argsL := [(.ref v), (.int (n32 0)), (.int (n32 cs.length))]) (rest := [(.ref a)]) rfl rfl (fun _ q => nomatch q) (Nat.le_of_ble_eq_true rfl) (Nat.le_of_ble_eq_true rfl) (Nat.le_of_ble_eq_true rfl) (Nat.le_of_ble_eq_true rfl) (WP.rt ?_)
  rintro _ h2 S4 ⟨t, rfl, gt, rfl, K2, T2⟩
  have g1 := G1.keep K2 nin0; have g2 := G2.keep K2 nin0; have E2 := E1.keep K2; have l2 := K1.1; have nta : t ≠ a := nne (by omega); rw [t1] at T2
  refine Ru.putfield d_sia_35 (e.w 24 rfl) Via.refl (by simp) g1 E2 (Or.inr ⟨(e.w 20 rfl), rfl, rfl⟩) (e.w 5 rfl) (ty := (.array .byte)) (by decide) rfl rfl ?_
  intro h3 W3
  have K3 := Keep.of_wr W3
  refine Ru.goto d_sia_38 ?_
  exact Ru.ret d_sia_97 rfl [] (fun _ q => nomatch q) (Nat.le_of_ble_eq_true rfl) (Nat.le_of_ble_eq_true rfl) ⟨rfl, rfl, t, by omega, ((K1.trans K2 (by simp)).trans K3 (by simp)), E2.wr W3, g1.same W3, g2.other W3 (Or.inr hne), T2.keep K3 (ninS nta nin0), hL⟩
abbrev I_sis : Own.Inf := (⟨"java/lang/String", "<init>", "(Ljava/lang/StringBuilder;)V"⟩, jdk_42_method_53_code, 2, (Option.none : Option Jvm.ClassFile.FieldType), { frames := 4, cells := 1, slots := 34, locals := 84 }, [], [])
theorem d_sis_0 : Own.D1 jdk_42_method_53_code 0 (.aload_n 0) 1 1 := ⟨by decide +kernel, rfl⟩
theorem d_sis_1 : Own.D1 jdk_42_method_53_code 1 (.aload_n 1) 1 2 := ⟨by decide +kernel, rfl⟩
theorem d_sis_2 : Own.D1 jdk_42_method_53_code 2 .aconst_null 1 3 := ⟨by decide +kernel, rfl⟩
theorem d_sis_3 : Own.D1 jdk_42_method_53_code 3 (.invokespecial 489) 3 6 := ⟨by decide +kernel, rfl⟩
theorem d_sis_6 : Own.D1 jdk_42_method_53_code 6 .return_ 1 7 := ⟨by decide +kernel, rfl⟩
theorem np_sis : Own.npar "(Ljava/lang/StringBuilder;)V" = some 1 := by decide +kernel
set_option maxRecDepth 65536 in
set_option maxHeartbeats 40000000 in
theorem c_sis {G : Own.Wd} {a0 : Array Value} (e : Ev G a0) {a b v : Addr} {cs : List Int32} {cap : Nat} {v0 : Value} {c0 : Int32} {h : Heap} (E0 : Exa G.Z h a "java/lang/String") (Fv : Fld G.Z h a "java/lang/String" "value" "[B" v0) (Fc : Fld G.Z h a "java/lang/String" "coder" "B" (.int c0)) (D : SBd G h b v cs cap) (hlt : cs.length < cap) (hcap : cs.length ≤ 34) : Met G I_sis #[(.ref a), (.ref b)] h [a] (Rv (fun h' S' => S' = [] ∧ ∃ t, h.size ≤ t ∧ Keep h h' [a] ∧ StrL G.Z h' a t cs)) := by
  refine Met.intro (ls := #[.val (.ref a), .val (.ref b)]) (plainFor_of_name pn_1) (fun m => by first | (simp [entryFrame, mkF, argsToLocals, Value.category, I_sis]; done) | (simp [entryFrame, mkF, argsToLocals, Value.category]; rfl) | rfl) ?_
  intro K
  refine Ru.aloadN d_sis_0 rfl rfl ?_
  refine Ru.aloadN d_sis_1 rfl rfl ?_
  refine Ru.aconstNull d_sis_2 ?_
  refine Ru.callI0 (J := I_sia) (c_sia e E0 Fv Fc D hlt hcap) d_sis_3 rfl rfl (e.w 135 rfl) (e.w 136 rfl) (e.w 6 rfl) (e.w 137 rfl) (by decide) np_sia rfl (a := a) (argsL := [(.ref b), .null]) (rest := []) rfl rfl (by simp) (Nat.le_of_ble_eq_true rfl) (Nat.le_of_ble_eq_true rfl) (Nat.le_of_ble_eq_true rfl) (Nat.le_of_ble_eq_true rfl) (WP.rv ?_)
  rintro h1 S1 ⟨rfl, t, gt, K1, T1⟩
  exact Ru.ret d_sis_6 rfl [] (fun _ q => nomatch q) (Nat.le_of_ble_eq_true rfl) (Nat.le_of_ble_eq_true rfl) ⟨rfl, rfl, t, gt, K1, T1⟩
abbrev I_tos : Own.Inf := (⟨"java/lang/StringBuilder", "toString", "()Ljava/lang/String;"⟩, jdk_67_method_42_code, 1, (Option.some (Jvm.ClassFile.FieldType.object "java/lang/String")), { frames := 5, cells := 2, slots := 38, locals := 100 }, [], [])
theorem d_tos_0 : Own.D1 jdk_67_method_42_code 0 (.new 18) 3 3 := ⟨by decide +kernel, rfl⟩
theorem d_tos_3 : Own.D1 jdk_67_method_42_code 3 .dup 1 4 := ⟨by decide +kernel, rfl⟩
theorem d_tos_4 : Own.D1 jdk_67_method_42_code 4 (.aload_n 0) 1 5 := ⟨by decide +kernel, rfl⟩
theorem d_tos_5 : Own.D1 jdk_67_method_42_code 5 (.invokespecial 137) 3 8 := ⟨by decide +kernel, rfl⟩
theorem d_tos_8 : Own.D1 jdk_67_method_42_code 8 .areturn 1 9 := ⟨by decide +kernel, rfl⟩
theorem np_tos : Own.npar "()Ljava/lang/String;" = some 0 := by decide +kernel
set_option maxRecDepth 65536 in
set_option maxHeartbeats 40000000 in
theorem c_tos {G : Own.Wd} {a0 : Array Value} (e : Ev G a0) {b v : Addr} {cs : List Int32} {cap : Nat} {h : Heap} (D : SBd G h b v cs cap) (hlt : cs.length < cap) (hcap : cs.length ≤ 34) : Met G I_tos #[(.ref b)] h [] (Rt (fun x h' S' => ∃ s t, x = .ref s ∧ h.size ≤ s ∧ h.size ≤ t ∧ S' = [] ∧ Keep h h' [] ∧ StrL G.Z h' s t cs)) := by
  refine Met.intro (ls := #[.val (.ref b)]) (plainFor_of_name pn_5) (fun m => by first | (simp [entryFrame, mkF, argsToLocals, Value.category, I_tos]; done) | (simp [entryFrame, mkF, argsToLocals, Value.category]; rfl) | rfl) ?_
  intro K
  refine Ru.new d_tos_0 (e.w 131 rfl) (e.w 5 rfl) (e.w 6 rfl) (Nat.le_of_ble_eq_true rfl) (Nat.le_of_ble_eq_true rfl) ?_
  intro h1 s gs E1 X1 D1
  refine Ru.dup d_tos_3 rfl ?_
  refine Ru.aloadN d_tos_4 rfl rfl ?_
  refine Ru.callI0 (J := I_sis) (c_sis e X1 (D1 (Or.inr (e.w 20 rfl)) (ty := .array .byte) (by decide)) (D1 (Or.inr (e.w 21 rfl)) (ty := .byte) (by decide)) (D.keep (keepE E1) nin0 nin0) hlt hcap) d_tos_5 rfl rfl (e.w 132 rfl) (e.w 133 rfl) (e.w 6 rfl) (e.w 134 rfl) (by decide) np_sis rfl (a := s) (argsL := [(.ref b)]) (rest := [(.ref s)]) rfl rfl (by simp) (Nat.le_of_ble_eq_true rfl) (Nat.le_of_ble_eq_true rfl) (Nat.le_of_ble_eq_true rfl) (Nat.le_of_ble_eq_true rfl) (WP.rv ?_)
  rintro h2 S1 ⟨rfl, t, gt, K1, T1⟩
  have g1 := E1.1
  exact Ru.areturn (t := (.object "java/lang/String")) d_tos_8 rfl rfl rfl rfl [] (fun _ q => nomatch q) (Nat.le_of_ble_eq_true rfl) (Nat.le_of_ble_eq_true rfl) ⟨_, rfl, s, t, rfl, by omega, by omega, rfl, (keepE E1).trans K1 (by simp; omega), T1⟩
theorem thw_mem : ∀ d ∈ Own.thW "com/example/ilan/ilan/engine/BrokerException", d ∈ tables_1 := by decide +kernel
theorem unt_k {h : Heap} {a : Addr} (N : Unt h a) : ∃ cell : Cell, h[a]? = some cell ∧ cell.vm ≠ .unknown := by obtain ⟨c, q1, q2, _⟩ := N; exact ⟨c, q1, by rw [q2]; simp⟩
abbrev I_thi : Own.Inf := (⟨"java/lang/Throwable", "<init>", "(Ljava/lang/String;)V"⟩, jdk_78_method_2_code, 2, (Option.none : Option Jvm.ClassFile.FieldType), { frames := 3, cells := 1, slots := 2752, locals := 42 }, [], [])
theorem d_thi_0 : Own.D1 jdk_78_method_2_code 0 (.aload_n 0) 1 1 := ⟨by decide +kernel, rfl⟩
theorem d_thi_1 : Own.D1 jdk_78_method_2_code 1 (.invokespecial 1) 3 4 := ⟨by decide +kernel, rfl⟩
theorem d_thi_4 : Own.D1 jdk_78_method_2_code 4 (.aload_n 0) 1 5 := ⟨by decide +kernel, rfl⟩
theorem d_thi_5 : Own.D1 jdk_78_method_2_code 5 (.aload_n 0) 1 6 := ⟨by decide +kernel, rfl⟩
theorem d_thi_6 : Own.D1 jdk_78_method_2_code 6 (.putfield 7) 3 9 := ⟨by decide +kernel, rfl⟩
theorem d_thi_9 : Own.D1 jdk_78_method_2_code 9 (.aload_n 0) 1 10 := ⟨by decide +kernel, rfl⟩
theorem d_thi_10 : Own.D1 jdk_78_method_2_code 10 (.getstatic 13) 3 13 := ⟨by decide +kernel, rfl⟩
theorem d_thi_13 : Own.D1 jdk_78_method_2_code 13 (.putfield 17) 3 16 := ⟨by decide +kernel, rfl⟩
theorem d_thi_16 : Own.D1 jdk_78_method_2_code 16 (.aload_n 0) 1 17 := ⟨by decide +kernel, rfl⟩
theorem d_thi_17 : Own.D1 jdk_78_method_2_code 17 (.getstatic 20) 3 20 := ⟨by decide +kernel, rfl⟩
theorem d_thi_20 : Own.D1 jdk_78_method_2_code 20 (.putfield 24) 3 23 := ⟨by decide +kernel, rfl⟩
theorem d_thi_23 : Own.D1 jdk_78_method_2_code 23 (.aload_n 0) 1 24 := ⟨by decide +kernel, rfl⟩
theorem d_thi_24 : Own.D1 jdk_78_method_2_code 24 (.invokevirtual 27) 3 27 := ⟨by decide +kernel, rfl⟩
theorem d_thi_27 : Own.D1 jdk_78_method_2_code 27 .pop 1 28 := ⟨by decide +kernel, rfl⟩
theorem d_thi_28 : Own.D1 jdk_78_method_2_code 28 (.aload_n 0) 1 29 := ⟨by decide +kernel, rfl⟩
theorem d_thi_29 : Own.D1 jdk_78_method_2_code 29 (.aload_n 1) 1 30 := ⟨by decide +kernel, rfl⟩
theorem d_thi_30 : Own.D1 jdk_78_method_2_code 30 (.putfield 31) 3 33 := ⟨by decide +kernel, rfl⟩
theorem d_thi_33 : Own.D1 jdk_78_method_2_code 33 .return_ 1 34 := ⟨by decide +kernel, rfl⟩
theorem pn_9 : plainName "java/lang/Throwable" = true := by first | (simp [plainName, overriddenIn]; done) | decide +kernel
theorem np_thi : Own.npar "(Ljava/lang/String;)V" = some 1 := by decide +kernel
set_option maxRecDepth 65536 in
set_option maxHeartbeats 40000000 in
theorem c_thi {G : Own.Wd} {a0 : Array Value} (e : Ev G a0) {a s : Addr} {h : Heap} (E : Exa G.Z h a "com/example/ilan/ilan/engine/BrokerException") (N : Unt h a) (B : Fld G.Z h a "java/lang/Throwable" "backtrace" "Ljava/lang/Object;" .null) : Met G I_thi #[(.ref a), (.ref s)] h [a] (Rv (fun h' S' => S' = [] ∧ Keep h h' [a] ∧ Exa G.Z h' a "com/example/ilan/ilan/engine/BrokerException" ∧ Fld G.Z h' a "java/lang/Throwable" "detailMessage" "Ljava/lang/String;" (.ref s))) := by
  refine Met.intro (ls := #[.val (.ref a), .val (.ref s)]) (plainFor_of_name pn_9) (fun m => by first | (simp [entryFrame, mkF, argsToLocals, Value.category, I_thi]; done) | (simp [entryFrame, mkF, argsToLocals, Value.category]; rfl) | rfl) ?_
  intro K
  obtain ⟨⟨u, hu, hu0, Su⟩, ⟨v, hv, Sv⟩⟩ := e.more.2.2.1
  refine Ru.aloadN d_thi_0 rfl rfl ?_
  refine Ru.initO d_thi_1 (e.w 185 rfl) (e.w 16 rfl) (e.w 17 rfl) rfl (Nat.le_of_ble_eq_true rfl) (Nat.le_of_ble_eq_true rfl) ?_
  refine Ru.aloadN d_thi_4 rfl rfl ?_
  refine Ru.aloadN d_thi_5 rfl rfl ?_
  obtain ⟨v1, F1⟩ := fld_laid E (unt_k N) (e.w 31 rfl) (Or.inl (e.w 187 rfl))
  refine Ru.putfield d_thi_6 (e.w 186 rfl) Via.refl (by simp) F1 E (Or.inl (e.w 187 rfl)) (e.w 31 rfl) (ty := (.object "java/lang/Throwable")) (by decide) rfl rfl ?_
  intro h1 W1
  have E1 := E.wr W1; have N1 := Unt.wr W1 N; have B1 := B.other W1 (Or.inr (slot_ne (Or.inl (e.w 218 rfl)) (Or.inl (e.w 187 rfl)) (by decide) (t := (.object "java/lang/Object")) (by decide) (t' := (.object "java/lang/Throwable")) (by decide)))
  refine Ru.aloadN d_thi_9 rfl rfl ?_
  refine Ru.getstatic d_thi_10 (e.w 188 rfl) Su ?_
  obtain ⟨v2, F2⟩ := fld_laid E1 (unt_k N1) (e.w 31 rfl) (Or.inl (e.w 190 rfl))
  refine Ru.putfield d_thi_13 (e.w 189 rfl) Via.refl (by simp) F2 E1 (Or.inl (e.w 190 rfl)) (e.w 31 rfl) (ty := (.array (.object "java/lang/StackTraceElement"))) (by decide) (nref hu) (by rcases Jvm.Free.XT.refc hu with rfl | ⟨_, rfl⟩ <;> rfl) ?_
  intro h2 W2
  have E2 := E1.wr W2; have N2 := Unt.wr W2 N1; have B2 := B1.other W2 (Or.inr (slot_ne (Or.inl (e.w 218 rfl)) (Or.inl (e.w 190 rfl)) (by decide) (t := (.object "java/lang/Object")) (by decide) (t' := (.array (.object "java/lang/StackTraceElement"))) (by decide))); have FS := F2.same W2
  refine Ru.aloadN d_thi_16 rfl rfl ?_
  refine Ru.getstatic d_thi_17 (e.w 191 rfl) Sv ?_
  obtain ⟨v3, F3⟩ := fld_laid E2 (unt_k N2) (e.w 31 rfl) (Or.inl (e.w 193 rfl))
  refine Ru.putfield d_thi_20 (e.w 192 rfl) Via.refl (by simp) F3 E2 (Or.inl (e.w 193 rfl)) (e.w 31 rfl) (ty := (.object "java/util/List")) (by decide) (nref hv) (fits_ref_of hv) ?_
  intro h3 W3
  have E3 := E2.wr W3; have N3 := Unt.wr W3 N2; have B3 := B2.other W3 (Or.inr (slot_ne (Or.inl (e.w 218 rfl)) (Or.inl (e.w 193 rfl)) (by decide) (t := (.object "java/lang/Object")) (by decide) (t' := (.object "java/util/List")) (by decide))); have FS3 := FS.other W3 (Or.inr (slot_ne (Or.inl (e.w 190 rfl)) (Or.inl (e.w 193 rfl)) (by decide) (t := (.array (.object "java/lang/StackTraceElement"))) (by decide) (t' := (.object "java/util/List")) (by decide)))
  refine Ru.aloadN d_thi_23 rfl rfl ?_
  refine Ru.fill (rc := "com/example/ilan/ilan/engine/BrokerException") e.more.1 e.more.2.1 d_thi_24 rfl (by decide) (fun d q => e.1 d (thw_mem d q)) (e.w 31 rfl) (by simp) E3 N3 B3 FS3 Su hu hu0 rfl (Nat.le_of_ble_eq_true rfl) (Nat.le_of_ble_eq_true rfl) (Nat.le_of_ble_eq_true rfl) (Nat.le_of_ble_eq_true rfl) ?_
  intro h4 K4
  have E4 := E3.keep K4; have N4 : ∃ cell : Cell, h4[a]? = some cell ∧ cell.vm ≠ .unknown := by obtain ⟨c, q1, q2, _⟩ := N3; obtain ⟨c2, r1, -, r3, -⟩ := K4.2.2 _ _ q1; exact ⟨c2, r1, by rw [r3, q2]; simp⟩
  refine Ru.pop d_thi_27 rfl ?_
  refine Ru.aloadN d_thi_28 rfl rfl ?_
  refine Ru.aloadN d_thi_29 rfl rfl ?_
  obtain ⟨v5, F5⟩ := fld_laid E4 N4 (e.w 31 rfl) (Or.inl (e.w 217 rfl))
  refine Ru.putfield d_thi_30 (e.w 221 rfl) Via.refl (by simp) F5 E4 (Or.inl (e.w 217 rfl)) (e.w 31 rfl) (ty := (.object "java/lang/String")) (by decide) rfl rfl ?_
  intro h5 W5
  exact Ru.ret d_thi_33 rfl [] (fun _ q => nomatch q) (Nat.le_of_ble_eq_true rfl) (Nat.le_of_ble_eq_true rfl) ⟨rfl, rfl, ((((Keep.of_wr W1).trans (Keep.of_wr W2) (by simp)).trans (Keep.of_wr W3) (by simp)).trans K4 (by simp)).trans (Keep.of_wr W5) (by simp), E4.wr W5, F5.same W5⟩
abbrev I_exi : Own.Inf := (⟨"java/lang/Exception", "<init>", "(Ljava/lang/String;)V"⟩, jdk_59_method_2_code, 2, (Option.none : Option Jvm.ClassFile.FieldType), { frames := 4, cells := 1, slots := 2752, locals := 56 }, [], [])
theorem d_exi_0 : Own.D1 jdk_59_method_2_code 0 (.aload_n 0) 1 1 := ⟨by decide +kernel, rfl⟩
theorem d_exi_1 : Own.D1 jdk_59_method_2_code 1 (.aload_n 1) 1 2 := ⟨by decide +kernel, rfl⟩
theorem d_exi_2 : Own.D1 jdk_59_method_2_code 2 (.invokespecial 7) 3 5 := ⟨by decide +kernel, rfl⟩
theorem d_exi_5 : Own.D1 jdk_59_method_2_code 5 .return_ 1 6 := ⟨by decide +kernel, rfl⟩
theorem pn_10 : plainName "java/lang/Exception" = true := by first | (simp [plainName, overriddenIn]; done) | decide +kernel
theorem np_exi : Own.npar "(Ljava/lang/String;)V" = some 1 := by decide +kernel
set_option maxRecDepth 65536 in
set_option maxHeartbeats 40000000 in
theorem c_exi {G : Own.Wd} {a0 : Array Value} (e : Ev G a0) {a s : Addr} {h : Heap} (E : Exa G.Z h a "com/example/ilan/ilan/engine/BrokerException") (N : Unt h a) (B : Fld G.Z h a "java/lang/Throwable" "backtrace" "Ljava/lang/Object;" .null) : Met G I_exi #[(.ref a), (.ref s)] h [a] (Rv (fun h' S' => S' = [] ∧ Keep h h' [a] ∧ Exa G.Z h' a "com/example/ilan/ilan/engine/BrokerException" ∧ Fld G.Z h' a "java/lang/Throwable" "detailMessage" "Ljava/lang/String;" (.ref s))) := by
  refine Met.intro (ls := #[.val (.ref a), .val (.ref s)]) (plainFor_of_name pn_10) (fun m => by first | (simp [entryFrame, mkF, argsToLocals, Value.category, I_exi]; done) | (simp [entryFrame, mkF, argsToLocals, Value.category]; rfl) | rfl) ?_
  intro K
  refine Ru.aloadN d_exi_0 rfl rfl ?_
  refine Ru.aloadN d_exi_1 rfl rfl ?_
  refine Ru.callI0 (J := I_thi) (c_thi e E N B) d_exi_2 rfl rfl (e.w 179 rfl) (e.w 180 rfl) (e.w 183 rfl) (e.w 184 rfl) (by decide) np_thi rfl (a := a) (argsL := [(.ref s)]) (rest := []) rfl rfl (by simp) (Nat.le_of_ble_eq_true rfl) (Nat.le_of_ble_eq_true rfl) (Nat.le_of_ble_eq_true rfl) (Nat.le_of_ble_eq_true rfl) (WP.rv ?_)
  rintro h1 S1 ⟨rfl, K1, E1, F1⟩
  exact Ru.ret d_exi_5 rfl [] (fun _ q => nomatch q) (Nat.le_of_ble_eq_true rfl) (Nat.le_of_ble_eq_true rfl) ⟨rfl, rfl, K1, E1, F1⟩
abbrev I_rti : Own.Inf := (⟨"java/lang/RuntimeException", "<init>", "(Ljava/lang/String;)V"⟩, jdk_58_method_2_code, 2, (Option.none : Option Jvm.ClassFile.FieldType), { frames := 5, cells := 1, slots := 2752, locals := 70 }, [], [])
theorem d_rti_0 : Own.D1 jdk_58_method_2_code 0 (.aload_n 0) 1 1 := ⟨by decide +kernel, rfl⟩
theorem d_rti_1 : Own.D1 jdk_58_method_2_code 1 (.aload_n 1) 1 2 := ⟨by decide +kernel, rfl⟩
theorem d_rti_2 : Own.D1 jdk_58_method_2_code 2 (.invokespecial 7) 3 5 := ⟨by decide +kernel, rfl⟩
theorem d_rti_5 : Own.D1 jdk_58_method_2_code 5 .return_ 1 6 := ⟨by decide +kernel, rfl⟩
theorem pn_11 : plainName "java/lang/RuntimeException" = true := by first | (simp [plainName, overriddenIn]; done) | decide +kernel
theorem np_rti : Own.npar "(Ljava/lang/String;)V" = some 1 := by decide +kernel
set_option maxRecDepth 65536 in
set_option maxHeartbeats 40000000 in
theorem c_rti {G : Own.Wd} {a0 : Array Value} (e : Ev G a0) {a s : Addr} {h : Heap} (E : Exa G.Z h a "com/example/ilan/ilan/engine/BrokerException") (N : Unt h a) (B : Fld G.Z h a "java/lang/Throwable" "backtrace" "Ljava/lang/Object;" .null) : Met G I_rti #[(.ref a), (.ref s)] h [a] (Rv (fun h' S' => S' = [] ∧ Keep h h' [a] ∧ Exa G.Z h' a "com/example/ilan/ilan/engine/BrokerException" ∧ Fld G.Z h' a "java/lang/Throwable" "detailMessage" "Ljava/lang/String;" (.ref s))) := by
  refine Met.intro (ls := #[.val (.ref a), .val (.ref s)]) (plainFor_of_name pn_11) (fun m => by first | (simp [entryFrame, mkF, argsToLocals, Value.category, I_rti]; done) | (simp [entryFrame, mkF, argsToLocals, Value.category]; rfl) | rfl) ?_
  intro K
  refine Ru.aloadN d_rti_0 rfl rfl ?_
  refine Ru.aloadN d_rti_1 rfl rfl ?_
  refine Ru.callI0 (J := I_exi) (c_exi e E N B) d_rti_2 rfl rfl (e.w 173 rfl) (e.w 174 rfl) (e.w 177 rfl) (e.w 178 rfl) (by decide) np_exi rfl (a := a) (argsL := [(.ref s)]) (rest := []) rfl rfl (by simp) (Nat.le_of_ble_eq_true rfl) (Nat.le_of_ble_eq_true rfl) (Nat.le_of_ble_eq_true rfl) (Nat.le_of_ble_eq_true rfl) (WP.rv ?_)
  rintro h1 S1 ⟨rfl, K1, E1, F1⟩
  exact Ru.ret d_rti_5 rfl [] (fun _ q => nomatch q) (Nat.le_of_ble_eq_true rfl) (Nat.le_of_ble_eq_true rfl) ⟨rfl, rfl, K1, E1, F1⟩
abbrev I_bei : Own.Inf := (⟨"com/example/ilan/ilan/engine/BrokerException", "<init>", "(Lcom/example/ilan/ilan/engine/BrokerException$Reason;Ljava/lang/String;)V"⟩, prog_1_method_1_code, 3, (Option.none : Option Jvm.ClassFile.FieldType), { frames := 6, cells := 1, slots := 2752, locals := 84 }, [], [])
theorem d_bei_0 : Own.D1 prog_1_method_1_code 0 (.aload_n 0) 1 1 := ⟨by decide +kernel, rfl⟩
theorem d_bei_1 : Own.D1 prog_1_method_1_code 1 (.aload_n 2) 1 2 := ⟨by decide +kernel, rfl⟩
theorem d_bei_2 : Own.D1 prog_1_method_1_code 2 (.invokespecial 1) 3 5 := ⟨by decide +kernel, rfl⟩
theorem d_bei_5 : Own.D1 prog_1_method_1_code 5 (.aload_n 0) 1 6 := ⟨by decide +kernel, rfl⟩
theorem d_bei_6 : Own.D1 prog_1_method_1_code 6 (.aload_n 1) 1 7 := ⟨by decide +kernel, rfl⟩
theorem d_bei_7 : Own.D1 prog_1_method_1_code 7 (.putfield 7) 3 10 := ⟨by decide +kernel, rfl⟩
theorem d_bei_10 : Own.D1 prog_1_method_1_code 10 .return_ 1 11 := ⟨by decide +kernel, rfl⟩
theorem pn_12 : plainName "com/example/ilan/ilan/engine/BrokerException" = true := by first | (simp [plainName, overriddenIn]; done) | decide +kernel
theorem np_bei : Own.npar "(Lcom/example/ilan/ilan/engine/BrokerException$Reason;Ljava/lang/String;)V" = some 2 := by decide +kernel
set_option maxRecDepth 65536 in
set_option maxHeartbeats 40000000 in
theorem c_bei {G : Own.Wd} {a0 : Array Value} (e : Ev G a0) {a r s : Addr} {h : Heap} (E : Exa G.Z h a "com/example/ilan/ilan/engine/BrokerException") (N : Unt h a) (B : Fld G.Z h a "java/lang/Throwable" "backtrace" "Ljava/lang/Object;" .null) : Met G I_bei #[(.ref a), (.ref r), (.ref s)] h [a] (Rv (fun h' S' => S' = [] ∧ Keep h h' [a] ∧ Exa G.Z h' a "com/example/ilan/ilan/engine/BrokerException" ∧ Fld G.Z h' a "com/example/ilan/ilan/engine/BrokerException" "reason" "Lcom/example/ilan/ilan/engine/BrokerException$Reason;" (.ref r) ∧ Fld G.Z h' a "java/lang/Throwable" "detailMessage" "Ljava/lang/String;" (.ref s))) := by
  refine Met.intro (ls := #[.val (.ref a), .val (.ref r), .val (.ref s)]) (plainFor_of_name pn_12) (fun m => by first | (simp [entryFrame, mkF, argsToLocals, Value.category, I_bei]; done) | (simp [entryFrame, mkF, argsToLocals, Value.category]; rfl) | rfl) ?_
  intro K
  refine Ru.aloadN d_bei_0 rfl rfl ?_
  refine Ru.aloadN d_bei_1 rfl rfl ?_
  refine Ru.callI0 (J := I_rti) (c_rti e E N B) d_bei_2 rfl rfl (e.w 168 rfl) (e.w 169 rfl) (e.w 171 rfl) (e.w 172 rfl) (by decide) np_rti rfl (a := a) (argsL := [(.ref s)]) (rest := []) rfl rfl (by simp) (Nat.le_of_ble_eq_true rfl) (Nat.le_of_ble_eq_true rfl) (Nat.le_of_ble_eq_true rfl) (Nat.le_of_ble_eq_true rfl) (WP.rv ?_)
  rintro h1 S1 ⟨rfl, K1, E1, D1⟩
  obtain ⟨vr, Fr⟩ : ∃ v, Fld G.Z h1 a "com/example/ilan/ilan/engine/BrokerException" "reason" "Lcom/example/ilan/ilan/engine/BrokerException$Reason;" v := fld_laid E1 (by obtain ⟨cell, _, _, _, _, g1, _, _, g2, _⟩ := D1; exact ⟨cell, g1, g2⟩) (e.w 31 rfl) (Or.inr (e.w 223 rfl))
  have hne : Jvm.RoadKit.slotOf G.Z "java/lang/Throwable" "detailMessage" "Ljava/lang/String;" ≠ Jvm.RoadKit.slotOf G.Z "com/example/ilan/ilan/engine/BrokerException" "reason" "Lcom/example/ilan/ilan/engine/BrokerException$Reason;" := slot_ne (Or.inl (e.w 217 rfl)) (Or.inr (e.w 223 rfl)) (by decide) (t := (.object "java/lang/String")) (by decide) (t' := (.object "com/example/ilan/ilan/engine/BrokerException$Reason")) (by decide)
  refine Ru.aloadN d_bei_5 rfl rfl ?_
  refine Ru.aloadN d_bei_6 rfl rfl ?_
  refine Ru.putfield d_bei_7 (e.w 222 rfl) Via.refl (by simp) Fr E1 (Or.inr ⟨(e.w 223 rfl), rfl, rfl⟩) (e.w 31 rfl) (ty := (.object "com/example/ilan/ilan/engine/BrokerException$Reason")) (by decide) rfl rfl ?_
  intro h2 W2
  exact Ru.ret d_bei_10 rfl [] (fun _ q => nomatch q) (Nat.le_of_ble_eq_true rfl) (Nat.le_of_ble_eq_true rfl) ⟨rfl, rfl, K1.trans (Keep.of_wr W2) (by simp), E1.wr W2, Fr.same W2, D1.other W2 (Or.inr hne)⟩
def LIT : List Int32 := [39, 32, 97, 108, 114, 101, 97, 100, 121, 32, 101, 120, 105, 115, 116, 115]
def full (xs ys : List Int32) : List Int32 := xs ++ ([32, 39] ++ (ys ++ LIT))
theorem full_len (xs ys : List Int32) : (full xs ys).length = xs.length + 2 + ys.length + 16 := by simp [full, LIT]; omega
theorem full1 {xs ys : List Int32} {i : Nat} {c : Int32} (h : xs[i]? = some c) : (full xs ys)[i]? = some c := by
  rw [full, List.getElem?_append_left (List.getElem?_eq_some_iff.mp h).1]; exact h
theorem full2 (xs ys : List Int32) : (full xs ys)[xs.length]? = some 32 := by rw [full, List.getElem?_append_right (Nat.le_refl _), Nat.sub_self]; rfl
theorem full3 (xs ys : List Int32) : (full xs ys)[xs.length + 1]? = some 39 := by rw [full, List.getElem?_append_right (by omega), show xs.length + 1 - xs.length = 1 by omega]; rfl
theorem full4 {xs ys : List Int32} {i : Nat} {c : Int32} (hi : xs.length + 2 ≤ i) (h : ys[i - xs.length - 2]? = some c) : (full xs ys)[i]? = some c := by
  have hl := (List.getElem?_eq_some_iff.mp h).1
  rw [full, List.getElem?_append_right (by omega), List.getElem?_append_right (by simp; omega), List.getElem?_append_left (by simp; omega)]; simpa using h
theorem full5 {xs ys : List Int32} {i : Nat} {c : Int32} (hi : xs.length + 2 + ys.length ≤ i) (h : LIT[i - xs.length - 2 - ys.length]? = some c) : (full xs ys)[i]? = some c := by
  rw [full, List.getElem?_append_right (by omega), List.getElem?_append_right (by simp; omega), List.getElem?_append_right (by simp; omega)]; simpa using h
theorem full_L {xs ys : List Int32} (h1 : ∀ c ∈ xs, IsL c) (h2 : ∀ c ∈ ys, IsL c) : ∀ c ∈ full xs ys, IsL c := fun c hc => by
  rcases List.mem_append.mp hc with q | q
  · exact h1 c q
  · rcases List.mem_append.mp q with q | q
    · exact (by simp [IsL] : ∀ c ∈ ([32, 39] : List Int32), IsL c) c q
    · rcases List.mem_append.mp q with q | q
      · exact h2 c q
      · exact (by simp [LIT, IsL] : ∀ c ∈ LIT, IsL c) c q
abbrev I_aex : Own.Inf := (⟨"com/example/ilan/ilan/engine/BrokerException", "alreadyExists", "(Ljava/lang/String;Ljava/lang/String;)Lcom/example/ilan/ilan/engine/BrokerException;"⟩, prog_1_method_5_code, 2, (Option.some (Jvm.ClassFile.FieldType.object "com/example/ilan/ilan/engine/BrokerException")), { frames := 7, cells := 14, slots := 3100, locals := 124 }, [], [])
theorem d_aex_0 : Own.D1 prog_1_method_5_code 0 (.new 8) 3 3 := ⟨by decide +kernel, rfl⟩
theorem d_aex_3 : Own.D1 prog_1_method_5_code 3 .dup 1 4 := ⟨by decide +kernel, rfl⟩
theorem d_aex_4 : Own.D1 prog_1_method_5_code 4 (.getstatic 41) 3 7 := ⟨by decide +kernel, rfl⟩
theorem d_aex_7 : Own.D1 prog_1_method_5_code 7 (.new 24) 3 10 := ⟨by decide +kernel, rfl⟩
theorem d_aex_10 : Own.D1 prog_1_method_5_code 10 .dup 1 11 := ⟨by decide +kernel, rfl⟩
theorem d_aex_11 : Own.D1 prog_1_method_5_code 11 (.invokespecial 26) 3 14 := ⟨by decide +kernel, rfl⟩
theorem d_aex_14 : Own.D1 prog_1_method_5_code 14 (.aload_n 0) 1 15 := ⟨by decide +kernel, rfl⟩
theorem d_aex_15 : Own.D1 prog_1_method_5_code 15 (.invokevirtual 29) 3 18 := ⟨by decide +kernel, rfl⟩
theorem d_aex_18 : Own.D1 prog_1_method_5_code 18 (.ldc 33) 2 20 := ⟨by decide +kernel, rfl⟩
theorem d_aex_20 : Own.D1 prog_1_method_5_code 20 (.invokevirtual 29) 3 23 := ⟨by decide +kernel, rfl⟩
theorem d_aex_23 : Own.D1 prog_1_method_5_code 23 (.aload_n 1) 1 24 := ⟨by decide +kernel, rfl⟩
theorem d_aex_24 : Own.D1 prog_1_method_5_code 24 (.invokevirtual 29) 3 27 := ⟨by decide +kernel, rfl⟩
theorem d_aex_27 : Own.D1 prog_1_method_5_code 27 (.ldc 44) 2 29 := ⟨by decide +kernel, rfl⟩
theorem d_aex_29 : Own.D1 prog_1_method_5_code 29 (.invokevirtual 29) 3 32 := ⟨by decide +kernel, rfl⟩
theorem d_aex_32 : Own.D1 prog_1_method_5_code 32 (.invokevirtual 37) 3 35 := ⟨by decide +kernel, rfl⟩
theorem d_aex_35 : Own.D1 prog_1_method_5_code 35 (.invokespecial 18) 3 38 := ⟨by decide +kernel, rfl⟩
theorem d_aex_38 : Own.D1 prog_1_method_5_code 38 .areturn 1 39 := ⟨by decide +kernel, rfl⟩
theorem np_aex : Own.npar "(Ljava/lang/String;Ljava/lang/String;)Lcom/example/ilan/ilan/engine/BrokerException;" = some 2 := by decide +kernel
set_option maxRecDepth 65536 in
set_option maxHeartbeats 40000000 in
theorem c_aex {G : Own.Wd} {a0 : Array Value} (e : Ev G a0) {s1 t1 s2 t2 : Addr} {xs ys : List Int32} {h : Heap} (T1 : StrL G.Z h s1 t1 xs) (T2 : StrL G.Z h s2 t2 ys) (hx : xs.length ≤ 3) (hy : ys.length ≤ 3) : Met G I_aex #[(.ref s1), (.ref s2)] h [] (Rt (fun x h' S' => ∃ a r s t, x = .ref a ∧ S' = [] ∧ Keep h h' [] ∧ Sta G.Z G.Z.heap "com/example/ilan/ilan/engine/BrokerException$Reason" "ALREADY_EXISTS" "Lcom/example/ilan/ilan/engine/BrokerException$Reason;" (.ref r) ∧ Exa G.Z h' a "com/example/ilan/ilan/engine/BrokerException" ∧ Fld G.Z h' a "com/example/ilan/ilan/engine/BrokerException" "reason" "Lcom/example/ilan/ilan/engine/BrokerException$Reason;" (.ref r) ∧ Fld G.Z h' a "java/lang/Throwable" "detailMessage" "Ljava/lang/String;" (.ref s) ∧ StrL G.Z h' s t (full xs ys))) := by
  refine Met.intro (ls := #[.val (.ref s1), .val (.ref s2)]) (plainFor_of_name pn_12) (fun m => by first | (simp [entryFrame, mkF, argsToLocals, Value.category, I_aex]; done) | (simp [entryFrame, mkF, argsToLocals, Value.category]; rfl) | rfl) ?_
  intro K
  obtain ⟨r, Sr⟩ := e.more.2.2.2
  have l1 := xlt T1.1; have l2 := alt T1.2.2.2.1; have l3 := xlt T2.1; have l4 := alt T2.2.2.2.1
  refine Ru.newU d_aex_0 (e.w 30 rfl) (e.w 31 rfl) (e.w 28 rfl) (Nat.le_of_ble_eq_true rfl) (Nat.le_of_ble_eq_true rfl) ?_
  intro h1 a ga E1 X1 U1 D1
  have FB := D1 (Or.inl (e.w 218 rfl)) (ty := .object "java/lang/Object") (by decide); have FM := D1 (Or.inl (e.w 217 rfl)) (ty := .object "java/lang/String") (by decide); have T1 := T1.keep (keepE E1) nin0 nin0; have T2 := T2.keep (keepE E1) nin0 nin0; have la := xlt X1
  refine Ru.dup d_aex_3 rfl ?_
  refine Ru.getstatic d_aex_4 (e.w 32 rfl) Sr ?_
  have l1 := xlt T1.1; have l2 := alt T1.2.2.2.1; have l3 := xlt T2.1; have l4 := alt T2.2.2.2.1
  refine Ru.new d_aex_7 (e.w 35 rfl) (e.w 36 rfl) (e.w 37 rfl) (Nat.le_of_ble_eq_true rfl) (Nat.le_of_ble_eq_true rfl) ?_
  intro h2 b gb E2 X2 D2
  refine Ru.dup d_aex_10 rfl ?_
  have X1 := X1.keep (keepE E2); have U1 := Unt.keep (keepE E2) nin0 U1; have FB := FB.keep (keepE E2) nin0; have FM := FM.keep (keepE E2) nin0
  have T1 := T1.keep (keepE E2) nin0 nin0; have T2 := T2.keep (keepE E2) nin0 nin0
  have n_a_b : a ≠ b := nne (by omega)
  have n_s1_b : s1 ≠ b := nne (by omega)
  have n_t1_b : t1 ≠ b := nne (by omega)
  have n_s2_b : s2 ≠ b := nne (by omega)
  have n_t2_b : t2 ≠ b := nne (by omega)
  have lb := xlt X2; have la := xlt X1; have l1 := xlt T1.1; have l2 := alt T1.2.2.2.1; have l3 := xlt T2.1; have l4 := alt T2.2.2.2.1
  refine Ru.callI0 (J := I_sbi) (c_sbi e ⟨X2, D2 (Or.inl (e.w 50 rfl)) (ty := (.array .byte)) (by decide), D2 (Or.inl (e.w 52 rfl)) (ty := .byte) (by decide), D2 (Or.inl (e.w 75 rfl)) (ty := .int) (by decide)⟩) d_aex_11 rfl rfl (e.w 38 rfl) (e.w 39 rfl) (e.w 37 rfl) (e.w 40 rfl) (by decide) np_sbi rfl (a := b) (argsL := []) (rest := [(.ref b), (.ref r), (.ref a), (.ref a)]) rfl rfl (by simp) (Nat.le_of_ble_eq_true rfl) (Nat.le_of_ble_eq_true rfl) (Nat.le_of_ble_eq_true rfl) (Nat.le_of_ble_eq_true rfl) (WP.rv ?_)
  rintro h3 S3 ⟨v0, gv, rfl, K3, D⟩
  have z0 : h.size ≤ v0 := by omega
  have n_a_v0 : a ≠ v0 := nne (by omega)
  have n_s1_v0 : s1 ≠ v0 := nne (by omega)
  have n_t1_v0 : t1 ≠ v0 := nne (by omega)
  have n_s2_v0 : s2 ≠ v0 := nne (by omega)
  have n_t2_v0 : t2 ≠ v0 := nne (by omega)
  have X1 := X1.keep K3; have U1 := Unt.keep K3 (ninS n_a_b nin0) U1; have FB := FB.keep K3 (ninS n_a_b nin0); have FM := FM.keep K3 (ninS n_a_b nin0)
  have T1 := T1.keep K3 (ninS n_s1_b nin0) (ninS n_t1_b nin0); have T2 := T2.keep K3 (ninS n_s2_b nin0) (ninS n_t2_b nin0)
  refine Ru.aloadN d_aex_14 rfl rfl ?_
  have la := xlt X1; have l1 := xlt T1.1; have l2 := alt T1.2.2.2.1; have l3 := xlt T2.1; have l4 := alt T2.2.2.2.1
  refine Ru.callV0 (J := I_sapp) (c_sapp e D T1 (by simp; omega) n_s1_b n_t1_b) d_aex_15 D.1.1 (e.w 53 rfl) (e.w 54 rfl) (nf_sel (e.w 56 rfl)) (e.w 56 rfl) (e.w 55 rfl) (e.w 37 rfl) (e.w 57 rfl) (by decide) np_sapp rfl (a := b) (argsL := [(.ref s1)]) (rest := [(.ref r), (.ref a), (.ref a)]) rfl rfl (by simp) (Nat.le_of_ble_eq_true rfl) (Nat.le_of_ble_eq_true rfl) (Nat.le_of_ble_eq_true rfl) (Nat.le_of_ble_eq_true rfl) (WP.rt ?_)
  rintro _ k0 Sa0 ⟨rfl, v1, cap0, rfl, r0, q0, w0, Ka0, D⟩
  have n_a_v1 : a ≠ v1 := w0.elim (fun z => nne (by omega)) (fun z => by rw [z]; exact n_a_v0)
  have n_s1_v1 : s1 ≠ v1 := w0.elim (fun z => nne (by omega)) (fun z => by rw [z]; exact n_s1_v0)
  have n_t1_v1 : t1 ≠ v1 := w0.elim (fun z => nne (by omega)) (fun z => by rw [z]; exact n_t1_v0)
  have n_s2_v1 : s2 ≠ v1 := w0.elim (fun z => nne (by omega)) (fun z => by rw [z]; exact n_s2_v0)
  have n_t2_v1 : t2 ≠ v1 := w0.elim (fun z => nne (by omega)) (fun z => by rw [z]; exact n_t2_v0)
  have z1 : h.size ≤ v1 := w0.elim (fun z => by omega) (fun z => by rw [z]; exact z0)
  have X1 := X1.keep Ka0; have U1 := Unt.keep Ka0 (ninS n_a_b (ninS n_a_v0 nin0)) U1; have FB := FB.keep Ka0 (ninS n_a_b (ninS n_a_v0 nin0)); have FM := FM.keep Ka0 (ninS n_a_b (ninS n_a_v0 nin0))
  have T1 := T1.keep Ka0 (ninS n_s1_b (ninS n_s1_v0 nin0)) (ninS n_t1_b (ninS n_t1_v0 nin0)); have T2 := T2.keep Ka0 (ninS n_s2_b (ninS n_s2_v0 nin0)) (ninS n_t2_b (ninS n_t2_v0 nin0))
  obtain rfl := r0 (by simp; omega)
  refine Ru.ldcStr (n := 8) (vs := [.int 32, .int 39]) e.nar d_aex_18 (e.el _ (by decide)) (e.w 101 rfl) e.sa (by decide) (by decide) (by decide) (by decide) (Nat.le_of_ble_eq_true rfl) (Nat.le_of_ble_eq_true rfl) ?_
  intro h5 p pt E5 X5 C5 V5 B5 N5
  have D := D.keep (keepE E5) nin0 nin0; have TP : StrL G.Z h5 p pt [32, 39] := ⟨X5, V5, C5, B5, by simp [IsL]⟩; have np := N5 b (by simp)
  have X1 := X1.keep (keepE E5); have U1 := Unt.keep (keepE E5) nin0 U1; have FB := FB.keep (keepE E5) nin0; have FM := FM.keep (keepE E5) nin0
  have T1 := T1.keep (keepE E5) nin0 nin0; have T2 := T2.keep (keepE E5) nin0 nin0
  have la := xlt X1; have l1 := xlt T1.1; have l2 := alt T1.2.2.2.1; have l3 := xlt T2.1; have l4 := alt T2.2.2.2.1
  refine Ru.callV0 (J := I_sapp) (c_sapp e D TP (by simp; omega) np.1.symm np.2.symm) d_aex_20 D.1.1 (e.w 53 rfl) (e.w 54 rfl) (nf_sel (e.w 56 rfl)) (e.w 56 rfl) (e.w 55 rfl) (e.w 37 rfl) (e.w 57 rfl) (by decide) np_sapp rfl (a := b) (argsL := [(.ref p)]) (rest := [(.ref r), (.ref a), (.ref a)]) rfl rfl (by simp) (Nat.le_of_ble_eq_true rfl) (Nat.le_of_ble_eq_true rfl) (Nat.le_of_ble_eq_true rfl) (Nat.le_of_ble_eq_true rfl) (WP.rt ?_)
  rintro _ k1 Sa1 ⟨rfl, v2, cap1, rfl, r1, q1, w1, Ka1, D⟩
  have n_a_v2 : a ≠ v2 := w1.elim (fun z => nne (by omega)) (fun z => by rw [z]; exact n_a_v1)
  have n_s1_v2 : s1 ≠ v2 := w1.elim (fun z => nne (by omega)) (fun z => by rw [z]; exact n_s1_v1)
  have n_t1_v2 : t1 ≠ v2 := w1.elim (fun z => nne (by omega)) (fun z => by rw [z]; exact n_t1_v1)
  have n_s2_v2 : s2 ≠ v2 := w1.elim (fun z => nne (by omega)) (fun z => by rw [z]; exact n_s2_v1)
  have n_t2_v2 : t2 ≠ v2 := w1.elim (fun z => nne (by omega)) (fun z => by rw [z]; exact n_t2_v1)
  have z2 : h.size ≤ v2 := w1.elim (fun z => by omega) (fun z => by rw [z]; exact z1)
  have X1 := X1.keep Ka1; have U1 := Unt.keep Ka1 (ninS n_a_b (ninS n_a_v1 nin0)) U1; have FB := FB.keep Ka1 (ninS n_a_b (ninS n_a_v1 nin0)); have FM := FM.keep Ka1 (ninS n_a_b (ninS n_a_v1 nin0))
  have T1 := T1.keep Ka1 (ninS n_s1_b (ninS n_s1_v1 nin0)) (ninS n_t1_b (ninS n_t1_v1 nin0)); have T2 := T2.keep Ka1 (ninS n_s2_b (ninS n_s2_v1 nin0)) (ninS n_t2_b (ninS n_t2_v1 nin0))
  obtain rfl := r1 (by simp; omega)
  refine Ru.aloadN d_aex_23 rfl rfl ?_
  have la := xlt X1; have l1 := xlt T1.1; have l2 := alt T1.2.2.2.1; have l3 := xlt T2.1; have l4 := alt T2.2.2.2.1
  refine Ru.callV0 (J := I_sapp) (c_sapp e D T2 (by simp; omega) n_s2_b n_t2_b) d_aex_24 D.1.1 (e.w 53 rfl) (e.w 54 rfl) (nf_sel (e.w 56 rfl)) (e.w 56 rfl) (e.w 55 rfl) (e.w 37 rfl) (e.w 57 rfl) (by decide) np_sapp rfl (a := b) (argsL := [(.ref s2)]) (rest := [(.ref r), (.ref a), (.ref a)]) rfl rfl (by simp) (Nat.le_of_ble_eq_true rfl) (Nat.le_of_ble_eq_true rfl) (Nat.le_of_ble_eq_true rfl) (Nat.le_of_ble_eq_true rfl) (WP.rt ?_)
  rintro _ k2 Sa2 ⟨rfl, v3, cap2, rfl, r2, q2, w2, Ka2, D⟩
  have n_a_v3 : a ≠ v3 := w2.elim (fun z => nne (by omega)) (fun z => by rw [z]; exact n_a_v2)
  have n_s1_v3 : s1 ≠ v3 := w2.elim (fun z => nne (by omega)) (fun z => by rw [z]; exact n_s1_v2)
  have n_t1_v3 : t1 ≠ v3 := w2.elim (fun z => nne (by omega)) (fun z => by rw [z]; exact n_t1_v2)
  have n_s2_v3 : s2 ≠ v3 := w2.elim (fun z => nne (by omega)) (fun z => by rw [z]; exact n_s2_v2)
  have n_t2_v3 : t2 ≠ v3 := w2.elim (fun z => nne (by omega)) (fun z => by rw [z]; exact n_t2_v2)
  have z3 : h.size ≤ v3 := w2.elim (fun z => by omega) (fun z => by rw [z]; exact z2)
  have X1 := X1.keep Ka2; have U1 := Unt.keep Ka2 (ninS n_a_b (ninS n_a_v2 nin0)) U1; have FB := FB.keep Ka2 (ninS n_a_b (ninS n_a_v2 nin0)); have FM := FM.keep Ka2 (ninS n_a_b (ninS n_a_v2 nin0))
  have T1 := T1.keep Ka2 (ninS n_s1_b (ninS n_s1_v2 nin0)) (ninS n_t1_b (ninS n_t1_v2 nin0)); have T2 := T2.keep Ka2 (ninS n_s2_b (ninS n_s2_v2 nin0)) (ninS n_t2_b (ninS n_t2_v2 nin0))
  obtain rfl := r2 (by simp; omega)
  refine Ru.ldcStr (n := 64) (vs := (LIT.map Value.int)) e.nar d_aex_27 (e.el _ (by decide)) (e.w 102 rfl) e.sa (by decide) (by decide) (by decide) (by decide) (Nat.le_of_ble_eq_true rfl) (Nat.le_of_ble_eq_true rfl) ?_
  intro h6 o ot E6 X6 C6 V6 B6 N6
  have D := D.keep (keepE E6) nin0 nin0; have TO : StrL G.Z h6 o ot LIT := ⟨X6, V6, C6, B6, by simp [LIT, IsL]⟩; have no := N6 b (by simp)
  have X1 := X1.keep (keepE E6); have U1 := Unt.keep (keepE E6) nin0 U1; have FB := FB.keep (keepE E6) nin0; have FM := FM.keep (keepE E6) nin0
  have T1 := T1.keep (keepE E6) nin0 nin0; have T2 := T2.keep (keepE E6) nin0 nin0
  have la := xlt X1; have l1 := xlt T1.1; have l2 := alt T1.2.2.2.1; have l3 := xlt T2.1; have l4 := alt T2.2.2.2.1
  refine Ru.callV0 (J := I_sapp) (c_sapp e D TO (by simp [LIT]; omega) no.1.symm no.2.symm) d_aex_29 D.1.1 (e.w 53 rfl) (e.w 54 rfl) (nf_sel (e.w 56 rfl)) (e.w 56 rfl) (e.w 55 rfl) (e.w 37 rfl) (e.w 57 rfl) (by decide) np_sapp rfl (a := b) (argsL := [(.ref o)]) (rest := [(.ref r), (.ref a), (.ref a)]) rfl rfl (by simp) (Nat.le_of_ble_eq_true rfl) (Nat.le_of_ble_eq_true rfl) (Nat.le_of_ble_eq_true rfl) (Nat.le_of_ble_eq_true rfl) (WP.rt ?_)
  rintro _ k3 Sa3 ⟨rfl, v4, cap3, rfl, r3, q3, w3, Ka3, D⟩
  have n_a_v4 : a ≠ v4 := w3.elim (fun z => nne (by omega)) (fun z => by rw [z]; exact n_a_v3)
  have n_s1_v4 : s1 ≠ v4 := w3.elim (fun z => nne (by omega)) (fun z => by rw [z]; exact n_s1_v3)
  have n_t1_v4 : t1 ≠ v4 := w3.elim (fun z => nne (by omega)) (fun z => by rw [z]; exact n_t1_v3)
  have n_s2_v4 : s2 ≠ v4 := w3.elim (fun z => nne (by omega)) (fun z => by rw [z]; exact n_s2_v3)
  have n_t2_v4 : t2 ≠ v4 := w3.elim (fun z => nne (by omega)) (fun z => by rw [z]; exact n_t2_v3)
  have z4 : h.size ≤ v4 := w3.elim (fun z => by omega) (fun z => by rw [z]; exact z3)
  have X1 := X1.keep Ka3; have U1 := Unt.keep Ka3 (ninS n_a_b (ninS n_a_v3 nin0)) U1; have FB := FB.keep Ka3 (ninS n_a_b (ninS n_a_v3 nin0)); have FM := FM.keep Ka3 (ninS n_a_b (ninS n_a_v3 nin0))
  have T1 := T1.keep Ka3 (ninS n_s1_b (ninS n_s1_v3 nin0)) (ninS n_t1_b (ninS n_t1_v3 nin0)); have T2 := T2.keep Ka3 (ninS n_s2_b (ninS n_s2_v3 nin0)) (ninS n_t2_b (ninS n_t2_v3 nin0))
  have ef : ((([] ++ xs) ++ [32, 39]) ++ ys) ++ LIT = full xs ys := by simp [full]
  rw [ef] at D
  have hD := D.2.2.2; rw [full_len] at hD; have fl := full_len xs ys
  have la := xlt X1
  refine Ru.callV0 (J := I_tos) (c_tos e D (by omega) (by omega)) d_aex_32 D.1.1 (e.w 126 rfl) (e.w 127 rfl) (nf_sel (e.w 129 rfl)) (e.w 129 rfl) (e.w 128 rfl) (e.w 37 rfl) (e.w 130 rfl) (by decide) np_tos rfl (a := b) (argsL := []) (rest := [(.ref r), (.ref a), (.ref a)]) rfl rfl (fun _ q => nomatch q) (Nat.le_of_ble_eq_true rfl) (Nat.le_of_ble_eq_true rfl) (Nat.le_of_ble_eq_true rfl) (Nat.le_of_ble_eq_true rfl) (WP.rt ?_)
  rintro _ h8 S8 ⟨s, t, rfl, gs, gt, rfl, K8, T8⟩
  have nsa : s ≠ a := nne (by omega); have nta : t ≠ a := nne (by omega)
  have X1 := X1.keep K8; have U1 := Unt.keep K8 nin0 U1; have FB := FB.keep K8 nin0; have FM := FM.keep K8 nin0
  refine Ru.callI0 (J := I_bei) (c_bei e X1 U1 FB) d_aex_35 rfl rfl (e.w 165 rfl) (e.w 166 rfl) (e.w 28 rfl) (e.w 167 rfl) (by decide) np_bei rfl (a := a) (argsL := [(.ref r), (.ref s)]) (rest := [(.ref a)]) rfl rfl (by simp) (Nat.le_of_ble_eq_true rfl) (Nat.le_of_ble_eq_true rfl) (Nat.le_of_ble_eq_true rfl) (Nat.le_of_ble_eq_true rfl) (WP.rv ?_)
  rintro h9 S9 ⟨rfl, K9, X9, F9, M9⟩
  have T9 := T8.keep K9 (ninS nsa nin0) (ninS nta nin0)
  have KK : Keep h h9 [] := ((((((((((keepE E1).trans (keepE E2) (by simp)).trans K3 (by simp; omega)).trans Ka0 (by simp; omega)).trans (keepE E5) (by simp)).trans Ka1 (by simp; omega)).trans Ka2 (by simp; omega)).trans (keepE E6) (by simp)).trans Ka3 (by simp; omega)).trans K8 (by simp)).trans K9 (by simp; omega)
  exact Ru.areturn (t := (.object "com/example/ilan/ilan/engine/BrokerException")) d_aex_38 rfl rfl rfl rfl [] (fun _ q => nomatch q) (Nat.le_of_ble_eq_true rfl) (Nat.le_of_ble_eq_true rfl) ⟨_, rfl, a, r, s, t, rfl, rfl, KK, Sr, X9, F9, M9, T9⟩
abbrev I_gre : Own.Inf := (⟨"com/example/ilan/ilan/engine/BrokerException", "getReason", "()Lcom/example/ilan/ilan/engine/BrokerException$Reason;"⟩, prog_1_method_2_code, 1, (Option.some (Jvm.ClassFile.FieldType.object "com/example/ilan/ilan/engine/BrokerException$Reason")), { frames := 0, cells := 0, slots := 0, locals := 0 }, [], [])
theorem d_gre_0 : Own.D1 prog_1_method_2_code 0 (.aload_n 0) 1 1 := ⟨by decide +kernel, rfl⟩
theorem d_gre_1 : Own.D1 prog_1_method_2_code 1 (.getfield 7) 3 4 := ⟨by decide +kernel, rfl⟩
theorem d_gre_4 : Own.D1 prog_1_method_2_code 4 .areturn 1 5 := ⟨by decide +kernel, rfl⟩
theorem np_gre : Own.npar "()Lcom/example/ilan/ilan/engine/BrokerException$Reason;" = some 0 := by decide +kernel
set_option maxRecDepth 65536 in
set_option maxHeartbeats 40000000 in
theorem c_gre {G : Own.Wd} {a0 : Array Value} (e : Ev G a0) {a v : Addr} {h : Heap} (F0 : Fld G.Z h a "com/example/ilan/ilan/engine/BrokerException" "reason" "Lcom/example/ilan/ilan/engine/BrokerException$Reason;" (.ref v)) : Met G I_gre #[(.ref a)] h [] (Rt (fun x h' S' => S' = [] ∧ h' = h ∧ x = .ref v)) := by
  refine Met.intro (ls := #[.val (.ref a)]) (plainFor_of_name pn_12) (fun m => by first | (simp [entryFrame, mkF, argsToLocals, Value.category, I_gre]; done) | (simp [entryFrame, mkF, argsToLocals, Value.category]; rfl) | rfl) ?_
  intro K
  refine Ru.aloadN d_gre_0 rfl rfl ?_
  refine Ru.getfield d_gre_1 (e.w 222 rfl) Via.refl F0 ?_
  exact Ru.areturn (t := (.object "com/example/ilan/ilan/engine/BrokerException$Reason")) d_gre_4 rfl rfl rfl rfl [] (fun _ q => nomatch q) (Nat.le_of_ble_eq_true rfl) (Nat.le_of_ble_eq_true rfl) ⟨_, rfl, rfl, rfl, rfl⟩
abbrev I_gme : Own.Inf := (⟨"java/lang/Throwable", "getMessage", "()Ljava/lang/String;"⟩, jdk_78_method_6_code, 1, (Option.some (Jvm.ClassFile.FieldType.object "java/lang/String")), { frames := 0, cells := 0, slots := 0, locals := 0 }, [], [])
theorem d_gme_0 : Own.D1 jdk_78_method_6_code 0 (.aload_n 0) 1 1 := ⟨by decide +kernel, rfl⟩
theorem d_gme_1 : Own.D1 jdk_78_method_6_code 1 (.getfield 31) 3 4 := ⟨by decide +kernel, rfl⟩
theorem d_gme_4 : Own.D1 jdk_78_method_6_code 4 .areturn 1 5 := ⟨by decide +kernel, rfl⟩
theorem np_gme : Own.npar "()Ljava/lang/String;" = some 0 := by decide +kernel
set_option maxRecDepth 65536 in
set_option maxHeartbeats 40000000 in
theorem c_gme {G : Own.Wd} {a0 : Array Value} (e : Ev G a0) {a v : Addr} {h : Heap} (F0 : Fld G.Z h a "java/lang/Throwable" "detailMessage" "Ljava/lang/String;" (.ref v)) : Met G I_gme #[(.ref a)] h [] (Rt (fun x h' S' => S' = [] ∧ h' = h ∧ x = .ref v)) := by
  refine Met.intro (ls := #[.val (.ref a)]) (plainFor_of_name pn_9) (fun m => by first | (simp [entryFrame, mkF, argsToLocals, Value.category, I_gme]; done) | (simp [entryFrame, mkF, argsToLocals, Value.category]; rfl) | rfl) ?_
  intro K
  refine Ru.aloadN d_gme_0 rfl rfl ?_
  refine Ru.getfield d_gme_1 (e.w 221 rfl) Via.refl F0 ?_
  exact Ru.areturn (t := (.object "java/lang/String")) d_gme_4 rfl rfl rfl rfl [] (fun _ q => nomatch q) (Nat.le_of_ble_eq_true rfl) (Nat.le_of_ble_eq_true rfl) ⟨_, rfl, rfl, rfl, rfl⟩
abbrev I_exp : Own.Inf := (⟨"com/example/ilan/ilan/engine/BrokerExceptionAlreadyExistsPinLaw", "exp", "(ILjava/lang/String;Ljava/lang/String;)C"⟩, method_4_code, 6, (Option.some Jvm.ClassFile.FieldType.char), { frames := 4, cells := 2, slots := 68, locals := 60 }, [], [])
theorem d_exp_0 : Own.D1 method_4_code 0 (.aload_n 1) 1 1 := ⟨by decide +kernel, rfl⟩
theorem d_exp_1 : Own.D1 method_4_code 1 (.invokevirtual 33) 3 4 := ⟨by decide +kernel, rfl⟩
theorem d_exp_4 : Own.D1 method_4_code 4 (.istore_n 3) 1 5 := ⟨by decide +kernel, rfl⟩
theorem d_exp_5 : Own.D1 method_4_code 5 (.aload_n 2) 1 6 := ⟨by decide +kernel, rfl⟩
theorem d_exp_6 : Own.D1 method_4_code 6 (.invokevirtual 33) 3 9 := ⟨by decide +kernel, rfl⟩
theorem d_exp_9 : Own.D1 method_4_code 9 (.istore 4) 2 11 := ⟨by decide +kernel, rfl⟩
theorem d_exp_11 : Own.D1 method_4_code 11 (.iload_n 0) 1 12 := ⟨by decide +kernel, rfl⟩
theorem d_exp_12 : Own.D1 method_4_code 12 (.iload_n 3) 1 13 := ⟨by decide +kernel, rfl⟩
theorem d_exp_13 : Own.DB method_4_code 13 (.if_icmp .ge 9) 3 (9) 16 22 := ⟨by decide +kernel, rfl, by decide, rfl⟩
theorem d_exp_16 : Own.D1 method_4_code 16 (.aload_n 1) 1 17 := ⟨by decide +kernel, rfl⟩
theorem d_exp_17 : Own.D1 method_4_code 17 (.iload_n 0) 1 18 := ⟨by decide +kernel, rfl⟩
theorem d_exp_18 : Own.D1 method_4_code 18 (.invokevirtual 53) 3 21 := ⟨by decide +kernel, rfl⟩
theorem d_exp_21 : Own.D1 method_4_code 21 .ireturn 1 22 := ⟨by decide +kernel, rfl⟩
theorem d_exp_22 : Own.D1 method_4_code 22 (.iload_n 0) 1 23 := ⟨by decide +kernel, rfl⟩
theorem d_exp_23 : Own.D1 method_4_code 23 (.iload_n 3) 1 24 := ⟨by decide +kernel, rfl⟩
theorem d_exp_24 : Own.DB method_4_code 24 (.if_icmp .ne 6) 3 (6) 27 30 := ⟨by decide +kernel, rfl, by decide, rfl⟩
theorem d_exp_27 : Own.D1 method_4_code 27 (.bipush 32) 2 29 := ⟨by decide +kernel, rfl⟩
theorem d_exp_29 : Own.D1 method_4_code 29 .ireturn 1 30 := ⟨by decide +kernel, rfl⟩
theorem d_exp_30 : Own.D1 method_4_code 30 (.iload_n 0) 1 31 := ⟨by decide +kernel, rfl⟩
theorem d_exp_31 : Own.D1 method_4_code 31 (.iload_n 3) 1 32 := ⟨by decide +kernel, rfl⟩
theorem d_exp_32 : Own.D1 method_4_code 32 (.iconst 1) 1 33 := ⟨by decide +kernel, rfl⟩
theorem d_exp_33 : Own.D1 method_4_code 33 .iadd 1 34 := ⟨by decide +kernel, rfl⟩
theorem d_exp_34 : Own.DB method_4_code 34 (.if_icmp .ne 6) 3 (6) 37 40 := ⟨by decide +kernel, rfl, by decide, rfl⟩
theorem d_exp_37 : Own.D1 method_4_code 37 (.bipush 39) 2 39 := ⟨by decide +kernel, rfl⟩
theorem d_exp_39 : Own.D1 method_4_code 39 .ireturn 1 40 := ⟨by decide +kernel, rfl⟩
theorem d_exp_40 : Own.D1 method_4_code 40 (.iload_n 0) 1 41 := ⟨by decide +kernel, rfl⟩
theorem d_exp_41 : Own.D1 method_4_code 41 (.iload_n 3) 1 42 := ⟨by decide +kernel, rfl⟩
theorem d_exp_42 : Own.D1 method_4_code 42 (.iconst 2) 1 43 := ⟨by decide +kernel, rfl⟩
theorem d_exp_43 : Own.D1 method_4_code 43 .iadd 1 44 := ⟨by decide +kernel, rfl⟩
theorem d_exp_44 : Own.D1 method_4_code 44 (.iload 4) 2 46 := ⟨by decide +kernel, rfl⟩
theorem d_exp_46 : Own.D1 method_4_code 46 .iadd 1 47 := ⟨by decide +kernel, rfl⟩
theorem d_exp_47 : Own.DB method_4_code 47 (.if_icmp .ge 13) 3 (13) 50 60 := ⟨by decide +kernel, rfl, by decide, rfl⟩
theorem d_exp_50 : Own.D1 method_4_code 50 (.aload_n 2) 1 51 := ⟨by decide +kernel, rfl⟩
theorem d_exp_51 : Own.D1 method_4_code 51 (.iload_n 0) 1 52 := ⟨by decide +kernel, rfl⟩
theorem d_exp_52 : Own.D1 method_4_code 52 (.iload_n 3) 1 53 := ⟨by decide +kernel, rfl⟩
theorem d_exp_53 : Own.D1 method_4_code 53 .isub 1 54 := ⟨by decide +kernel, rfl⟩
theorem d_exp_54 : Own.D1 method_4_code 54 (.iconst 2) 1 55 := ⟨by decide +kernel, rfl⟩
theorem d_exp_55 : Own.D1 method_4_code 55 .isub 1 56 := ⟨by decide +kernel, rfl⟩
theorem d_exp_56 : Own.D1 method_4_code 56 (.invokevirtual 53) 3 59 := ⟨by decide +kernel, rfl⟩
theorem d_exp_59 : Own.D1 method_4_code 59 .ireturn 1 60 := ⟨by decide +kernel, rfl⟩
theorem d_exp_60 : Own.D1 method_4_code 60 (.ldc 57) 2 62 := ⟨by decide +kernel, rfl⟩
theorem d_exp_62 : Own.D1 method_4_code 62 (.astore 5) 2 64 := ⟨by decide +kernel, rfl⟩
theorem d_exp_64 : Own.D1 method_4_code 64 (.aload 5) 2 66 := ⟨by decide +kernel, rfl⟩
theorem d_exp_66 : Own.D1 method_4_code 66 (.iload_n 0) 1 67 := ⟨by decide +kernel, rfl⟩
theorem d_exp_67 : Own.D1 method_4_code 67 (.iload_n 3) 1 68 := ⟨by decide +kernel, rfl⟩
theorem d_exp_68 : Own.D1 method_4_code 68 .isub 1 69 := ⟨by decide +kernel, rfl⟩
theorem d_exp_69 : Own.D1 method_4_code 69 (.iconst 2) 1 70 := ⟨by decide +kernel, rfl⟩
theorem d_exp_70 : Own.D1 method_4_code 70 .isub 1 71 := ⟨by decide +kernel, rfl⟩
theorem d_exp_71 : Own.D1 method_4_code 71 (.iload 4) 2 73 := ⟨by decide +kernel, rfl⟩
theorem d_exp_73 : Own.D1 method_4_code 73 .isub 1 74 := ⟨by decide +kernel, rfl⟩
theorem d_exp_74 : Own.D1 method_4_code 74 (.invokevirtual 53) 3 77 := ⟨by decide +kernel, rfl⟩
theorem d_exp_77 : Own.D1 method_4_code 77 .ireturn 1 78 := ⟨by decide +kernel, rfl⟩
theorem pn_13 : plainName "com/example/ilan/ilan/engine/BrokerExceptionAlreadyExistsPinLaw" = true := by first | (simp [plainName, overriddenIn]; done) | decide +kernel
theorem np_exp : Own.npar "(ILjava/lang/String;Ljava/lang/String;)C" = some 3 := by decide +kernel
abbrev I_ex0 : Own.Inf := (I_exp.1, I_exp.2.1, I_exp.2.2.1, I_exp.2.2.2.1, { frames := 4, cells := 0, slots := 0, locals := 60 }, [], [])
theorem np_ex0 : Own.npar "(ILjava/lang/String;Ljava/lang/String;)C" = some 3 := np_exp
abbrev I_exA : Own.Inf := (I_exp.1, I_exp.2.1, I_exp.2.2.1, I_exp.2.2.2.1, { frames := 4, cells := 2, slots := 68, locals := 60 }, [], [("com/example/ilan/ilan/engine/BrokerExceptionAlreadyExistsPinLaw", 57)])
theorem np_exA : Own.npar "(ILjava/lang/String;Ljava/lang/String;)C" = some 3 := np_exp
abbrev I_exB : Own.Inf := (I_exp.1, I_exp.2.1, I_exp.2.2.1, I_exp.2.2.2.1, { frames := 4, cells := 0, slots := 0, locals := 60 }, [("com/example/ilan/ilan/engine/BrokerExceptionAlreadyExistsPinLaw", 57)], [])
theorem np_exB : Own.npar "(ILjava/lang/String;Ljava/lang/String;)C" = some 3 := np_exp
set_option maxRecDepth 65536 in
set_option maxHeartbeats 40000000 in
theorem c_ex0 {G : Own.Wd} {a0 : Array Value} (e : Ev G a0) {k t1 n t2 : Addr} {xs ys : List Int32} {i : Nat} {c : Int32} {h : Heap} (T1 : StrL G.Z h k t1 xs) (T2 : StrL G.Z h n t2 ys) (hx : xs.length ≤ 3) (hy : ys.length ≤ 3) (hc : (full xs ys)[i]? = some c) (hi : i < xs.length + 2 + ys.length) : Met G I_ex0 #[(.int (n32 i)), (.ref k), (.ref n)] h [] (Rt (fun x h' S' => S' = [] ∧ h' = h ∧ x = .int c)) := by
  refine Met.intro (ls := #[.val (.int (n32 i)), .val (.ref k), .val (.ref n), .unset, .unset, .unset]) (plainFor_of_name pn_13) (fun m => by first | (simp [entryFrame, mkF, argsToLocals, Value.category, I_ex0]; done) | (simp [entryFrame, mkF, argsToLocals, Value.category]; rfl) | rfl) ?_
  intro K
  have hi24 := (List.getElem?_eq_some_iff.mp hc).1; have fl := full_len xs ys
  refine Ru.aloadN d_exp_0 rfl rfl ?_
  refine Ru.callV0 (J := I_slen) (c_slen e T1) d_exp_1 T1.1 (e.w 236 rfl) (e.w 64 rfl) (nf_sel (e.w 66 rfl)) (e.w 66 rfl) (e.w 65 rfl) (e.w 6 rfl) (e.w 67 rfl) (by decide) np_slen rfl (a := k) (argsL := []) (rest := []) rfl rfl (fun _ q => nomatch q) (Nat.le_of_ble_eq_true rfl) (Nat.le_of_ble_eq_true rfl) (Nat.le_of_ble_eq_true rfl) (Nat.le_of_ble_eq_true rfl) (WP.rt ?_)
  rintro _ h S1 ⟨rfl, rfl, rfl⟩
  refine Ru.istoreN d_exp_4 (ls' := #[.val (.int (n32 i)), .val (.ref k), .val (.ref n), .val (.int (n32 xs.length)), .unset, .unset]) rfl ?_
  refine Ru.aloadN d_exp_5 rfl rfl ?_
  refine Ru.callV0 (J := I_slen) (c_slen e T2) d_exp_6 T2.1 (e.w 236 rfl) (e.w 64 rfl) (nf_sel (e.w 66 rfl)) (e.w 66 rfl) (e.w 65 rfl) (e.w 6 rfl) (e.w 67 rfl) (by decide) np_slen rfl (a := n) (argsL := []) (rest := []) rfl rfl (fun _ q => nomatch q) (Nat.le_of_ble_eq_true rfl) (Nat.le_of_ble_eq_true rfl) (Nat.le_of_ble_eq_true rfl) (Nat.le_of_ble_eq_true rfl) (WP.rt ?_)
  rintro _ h S2 ⟨rfl, rfl, rfl⟩
  refine Ru.istore d_exp_9 (ls' := #[.val (.int (n32 i)), .val (.ref k), .val (.ref n), .val (.int (n32 xs.length)), .val (.int (n32 ys.length)), .unset]) rfl ?_
  refine Ru.iloadN d_exp_11 rfl ?_
  refine Ru.iloadN d_exp_12 rfl ?_
  refine Ru.icmp d_exp_13 (fun (u1 : ¬ (n32 i) < (n32 xs.length)) => ?_) (fun (u1 : (n32 i) < (n32 xs.length)) => ?_)
  · rw [n32_lt (by omega) (by omega)] at u1
    refine Ru.iloadN d_exp_22 rfl ?_
    refine Ru.iloadN d_exp_23 rfl ?_
    refine Ru.icmp d_exp_24 (fun (u2 : ¬ (n32 i) = (n32 xs.length)) => ?_) (fun (u2 : (n32 i) = (n32 xs.length)) => ?_)
    · rw [n32_eq (by omega) (by omega)] at u2
      refine Ru.iloadN d_exp_30 rfl ?_
      refine Ru.iloadN d_exp_31 rfl ?_
      refine Ru.iconst (x := 1) d_exp_32 rfl ?_
      refine Ru.iadd d_exp_33 ?_
      refine WP.topI (show ((n32 xs.length) + (1 : Int32)) = (n32 (xs.length + 1)) from (n32_succ _)) ?_
      refine Ru.icmp d_exp_34 (fun (u3 : ¬ (n32 i) = (n32 (xs.length + 1))) => ?_) (fun (u3 : (n32 i) = (n32 (xs.length + 1))) => ?_)
      · rw [n32_eq (by omega) (by omega)] at u3
        refine Ru.iloadN d_exp_40 rfl ?_
        refine Ru.iloadN d_exp_41 rfl ?_
        refine Ru.iconst (x := 2) d_exp_42 rfl ?_
        refine Ru.iadd d_exp_43 ?_
        refine Ru.iload d_exp_44 rfl ?_
        refine Ru.iadd d_exp_46 ?_
        refine WP.topI (show (((n32 xs.length) + (2 : Int32)) + (n32 ys.length)) = (n32 (xs.length + 2 + ys.length)) from (by rw [show (2 : Int32) = n32 2 from rfl, n32_add, n32_add])) ?_
        refine Ru.icmpN d_exp_47 (show (n32 i) < (n32 (xs.length + 2 + ys.length)) from ((n32_lt (by omega) (by omega)).mpr hi)) ?_
        refine Ru.aloadN d_exp_50 rfl rfl ?_
        refine Ru.iloadN d_exp_51 rfl ?_
        refine Ru.iloadN d_exp_52 rfl ?_
        refine Ru.isub d_exp_53 ?_
        refine Ru.iconst (x := 2) d_exp_54 rfl ?_
        refine Ru.isub d_exp_55 ?_
        refine WP.topI (show (((n32 i) - (n32 xs.length)) - (2 : Int32)) = (n32 (i - xs.length - 2)) from (by rw [n32_sub (by omega) (by omega), show (2 : Int32) = n32 2 from rfl, n32_sub (by omega) (by omega)])) ?_
        obtain ⟨d, hd⟩ : ∃ d, ys[i - xs.length - 2]? = some d := ⟨_, List.getElem?_eq_getElem (by omega)⟩
        have q := full4 (xs := xs) (by omega) hd
        rw [hc] at q
        obtain rfl := Option.some.inj q
        refine Ru.callV0 (J := I_schr) (c_schr e T2 hd) d_exp_56 T2.1 (e.w 243 rfl) (e.w 244 rfl) (nf_sel (e.w 246 rfl)) (e.w 246 rfl) (e.w 245 rfl) (e.w 6 rfl) (e.w 247 rfl) (by decide) np_schr rfl (a := n) (argsL := [(.int (n32 (i - xs.length - 2)))]) (rest := []) rfl rfl (fun _ q => nomatch q) (Nat.le_of_ble_eq_true rfl) (Nat.le_of_ble_eq_true rfl) (Nat.le_of_ble_eq_true rfl) (Nat.le_of_ble_eq_true rfl) (WP.rt ?_)
        rintro _ _ S3 ⟨rfl, rfl, rfl⟩
        exact Ru.ireturnN (t := .char) d_exp_59 rfl (by simp) (nar_c (T2.2.2.2.2 c (List.mem_of_getElem? hd)).c) [] (fun _ q => nomatch q) (Nat.le_of_ble_eq_true rfl) (Nat.le_of_ble_eq_true rfl) ⟨_, rfl, rfl, rfl, rfl⟩
      · rw [n32_eq (by omega) (by omega)] at u3
        have q := full3 xs ys
        rw [← u3, hc] at q
        obtain rfl := Option.some.inj q
        refine Ru.bipush (x := 39) d_exp_37 rfl ?_
        exact Ru.ireturnN (t := .char) (x' := (39 : Int32)) d_exp_39 rfl (by simp) rfl [] (fun _ q => nomatch q) (Nat.le_of_ble_eq_true rfl) (Nat.le_of_ble_eq_true rfl) ⟨_, rfl, rfl, rfl, rfl⟩
    · rw [n32_eq (by omega) (by omega)] at u2
      have q := full2 xs ys
      rw [← u2, hc] at q
      obtain rfl := Option.some.inj q
      refine Ru.bipush (x := 32) d_exp_27 rfl ?_
      exact Ru.ireturnN (t := .char) (x' := (32 : Int32)) d_exp_29 rfl (by simp) rfl [] (fun _ q => nomatch q) (Nat.le_of_ble_eq_true rfl) (Nat.le_of_ble_eq_true rfl) ⟨_, rfl, rfl, rfl, rfl⟩
  · rw [n32_lt (by omega) (by omega)] at u1
    obtain ⟨d, hd⟩ : ∃ d, xs[i]? = some d := ⟨_, List.getElem?_eq_getElem u1⟩
    have q := full1 (ys := ys) hd
    rw [hc] at q
    obtain rfl := Option.some.inj q
    refine Ru.aloadN d_exp_16 rfl rfl ?_
    refine Ru.iloadN d_exp_17 rfl ?_
    refine Ru.callV0 (J := I_schr) (c_schr e T1 hd) d_exp_18 T1.1 (e.w 243 rfl) (e.w 244 rfl) (nf_sel (e.w 246 rfl)) (e.w 246 rfl) (e.w 245 rfl) (e.w 6 rfl) (e.w 247 rfl) (by decide) np_schr rfl (a := k) (argsL := [(.int (n32 i))]) (rest := []) rfl rfl (fun _ q => nomatch q) (Nat.le_of_ble_eq_true rfl) (Nat.le_of_ble_eq_true rfl) (Nat.le_of_ble_eq_true rfl) (Nat.le_of_ble_eq_true rfl) (WP.rt ?_)
    rintro _ _ S3 ⟨rfl, rfl, rfl⟩
    exact Ru.ireturnN (t := .char) d_exp_21 rfl (by simp) (nar_c (T1.2.2.2.2 c (List.mem_of_getElem? hd)).c) [] (fun _ q => nomatch q) (Nat.le_of_ble_eq_true rfl) (Nat.le_of_ble_eq_true rfl) ⟨_, rfl, rfl, rfl, rfl⟩
set_option maxRecDepth 65536 in
set_option maxHeartbeats 40000000 in
theorem c_exA {G : Own.Wd} {a0 : Array Value} (e : Ev G a0) {k t1 n t2 : Addr} {xs ys : List Int32} {i : Nat} {c : Int32} {h : Heap} (T1 : StrL G.Z h k t1 xs) (T2 : StrL G.Z h n t2 ys) (hx : xs.length ≤ 3) (hy : ys.length ≤ 3) (hc : (full xs ys)[i]? = some c) (hi : xs.length + 2 + ys.length ≤ i) : Met G I_exA #[(.int (n32 i)), (.ref k), (.ref n)] h [] (Rt (fun x h' S' => S' = [] ∧ Keep h h' [] ∧ x = .int c)) := by
  refine Met.intro (ls := #[.val (.int (n32 i)), .val (.ref k), .val (.ref n), .unset, .unset, .unset]) (plainFor_of_name pn_13) (fun m => by first | (simp [entryFrame, mkF, argsToLocals, Value.category, I_exA]; done) | (simp [entryFrame, mkF, argsToLocals, Value.category]; rfl) | rfl) ?_
  intro K
  have hi24 := (List.getElem?_eq_some_iff.mp hc).1; have fl := full_len xs ys
  refine Ru.aloadN d_exp_0 rfl rfl ?_
  refine Ru.callV0 (J := I_slen) (c_slen e T1) d_exp_1 T1.1 (e.w 236 rfl) (e.w 64 rfl) (nf_sel (e.w 66 rfl)) (e.w 66 rfl) (e.w 65 rfl) (e.w 6 rfl) (e.w 67 rfl) (by decide) np_slen rfl (a := k) (argsL := []) (rest := []) rfl rfl (fun _ q => nomatch q) (Nat.le_of_ble_eq_true rfl) (Nat.le_of_ble_eq_true rfl) (Nat.le_of_ble_eq_true rfl) (Nat.le_of_ble_eq_true rfl) (WP.rt ?_)
  rintro _ h S1 ⟨rfl, rfl, rfl⟩
  refine Ru.istoreN d_exp_4 (ls' := #[.val (.int (n32 i)), .val (.ref k), .val (.ref n), .val (.int (n32 xs.length)), .unset, .unset]) rfl ?_
  refine Ru.aloadN d_exp_5 rfl rfl ?_
  refine Ru.callV0 (J := I_slen) (c_slen e T2) d_exp_6 T2.1 (e.w 236 rfl) (e.w 64 rfl) (nf_sel (e.w 66 rfl)) (e.w 66 rfl) (e.w 65 rfl) (e.w 6 rfl) (e.w 67 rfl) (by decide) np_slen rfl (a := n) (argsL := []) (rest := []) rfl rfl (fun _ q => nomatch q) (Nat.le_of_ble_eq_true rfl) (Nat.le_of_ble_eq_true rfl) (Nat.le_of_ble_eq_true rfl) (Nat.le_of_ble_eq_true rfl) (WP.rt ?_)
  rintro _ h S2 ⟨rfl, rfl, rfl⟩
  refine Ru.istore d_exp_9 (ls' := #[.val (.int (n32 i)), .val (.ref k), .val (.ref n), .val (.int (n32 xs.length)), .val (.int (n32 ys.length)), .unset]) rfl ?_
  refine Ru.iloadN d_exp_11 rfl ?_
  refine Ru.iloadN d_exp_12 rfl ?_
  refine Ru.icmpY d_exp_13 (show ¬ (n32 i) < (n32 xs.length) from (fun q => by rw [n32_lt (by omega) (by omega)] at q; omega)) ?_
  refine Ru.iloadN d_exp_22 rfl ?_
  refine Ru.iloadN d_exp_23 rfl ?_
  refine Ru.icmpY d_exp_24 (show ¬ (n32 i) = (n32 xs.length) from (fun q => by rw [n32_eq (by omega) (by omega)] at q; omega)) ?_
  refine Ru.iloadN d_exp_30 rfl ?_
  refine Ru.iloadN d_exp_31 rfl ?_
  refine Ru.iconst (x := 1) d_exp_32 rfl ?_
  refine Ru.iadd d_exp_33 ?_
  refine WP.topI (show ((n32 xs.length) + (1 : Int32)) = (n32 (xs.length + 1)) from (n32_succ _)) ?_
  refine Ru.icmpY d_exp_34 (show ¬ (n32 i) = (n32 (xs.length + 1)) from (fun q => by rw [n32_eq (by omega) (by omega)] at q; omega)) ?_
  refine Ru.iloadN d_exp_40 rfl ?_
  refine Ru.iloadN d_exp_41 rfl ?_
  refine Ru.iconst (x := 2) d_exp_42 rfl ?_
  refine Ru.iadd d_exp_43 ?_
  refine Ru.iload d_exp_44 rfl ?_
  refine Ru.iadd d_exp_46 ?_
  refine WP.topI (show (((n32 xs.length) + (2 : Int32)) + (n32 ys.length)) = (n32 (xs.length + 2 + ys.length)) from (by rw [show (2 : Int32) = n32 2 from rfl, n32_add, n32_add])) ?_
  refine Ru.icmpY d_exp_47 (show ¬ (n32 i) < (n32 (xs.length + 2 + ys.length)) from (fun q => by rw [n32_lt (by omega) (by omega)] at q; omega)) ?_
  refine Ru.ldcStrL (n := 64) (vs := (LIT.map Value.int)) e.nar d_exp_60 (e.el _ (by decide)) (e.w 268 rfl) e.sa (by decide) (by decide) (by decide) (by decide) (Nat.le_of_ble_eq_true rfl) (Nat.le_of_ble_eq_true rfl) ?_
  intro h6 o ot E6 X6 C6 V6 B6 N6
  have TO : StrL G.Z h6 o ot LIT := ⟨X6, V6, C6, B6, by simp [LIT, IsL]⟩
  refine Ru.astore d_exp_62 rfl (ls' := #[.val (.int (n32 i)), .val (.ref k), .val (.ref n), .val (.int (n32 xs.length)), .val (.int (n32 ys.length)), .val (.ref o)]) rfl ?_
  refine Ru.aload d_exp_64 rfl rfl ?_
  refine Ru.iloadN d_exp_66 rfl ?_
  refine Ru.iloadN d_exp_67 rfl ?_
  refine Ru.isub d_exp_68 ?_
  refine Ru.iconst (x := 2) d_exp_69 rfl ?_
  refine Ru.isub d_exp_70 ?_
  refine Ru.iload d_exp_71 rfl ?_
  refine Ru.isub d_exp_73 ?_
  refine WP.topI (show ((((n32 i) - (n32 xs.length)) - (2 : Int32)) - (n32 ys.length)) = (n32 (i - xs.length - 2 - ys.length)) from (by rw [n32_sub (by omega) (by omega), show (2 : Int32) = n32 2 from rfl, n32_sub (by omega) (by omega), n32_sub (by omega) (by omega)])) ?_
  obtain ⟨d, hd⟩ : ∃ d, LIT[i - xs.length - 2 - ys.length]? = some d := ⟨_, List.getElem?_eq_getElem (by show _ < 16; omega)⟩
  have q := full5 hi hd
  rw [hc] at q
  obtain rfl := Option.some.inj q
  refine Ru.callV0 (J := I_schr) (c_schr e TO hd) d_exp_74 TO.1 (e.w 243 rfl) (e.w 244 rfl) (nf_sel (e.w 246 rfl)) (e.w 246 rfl) (e.w 245 rfl) (e.w 6 rfl) (e.w 247 rfl) (by decide) np_schr rfl (a := o) (argsL := [(.int (n32 (i - xs.length - 2 - ys.length)))]) (rest := []) rfl rfl (fun _ q => nomatch q) (Nat.le_of_ble_eq_true rfl) (Nat.le_of_ble_eq_true rfl) (Nat.le_of_ble_eq_true rfl) (Nat.le_of_ble_eq_true rfl) (WP.rt ?_)
  rintro _ _ S3 ⟨rfl, rfl, rfl⟩
  exact Ru.ireturnN (t := .char) d_exp_77 rfl (by simp) (nar_c (TO.2.2.2.2 c (List.mem_of_getElem? hd)).c) [] (fun _ q => nomatch q) (Nat.le_of_ble_eq_true rfl) (Nat.le_of_ble_eq_true rfl) ⟨_, rfl, rfl, keepE E6, rfl⟩
set_option maxRecDepth 65536 in
set_option maxHeartbeats 40000000 in
theorem c_exB {G : Own.Wd} {a0 : Array Value} (e : Ev G a0) {k t1 n t2 : Addr} {xs ys : List Int32} {i : Nat} {c : Int32} {h : Heap} (T1 : StrL G.Z h k t1 xs) (T2 : StrL G.Z h n t2 ys) (hx : xs.length ≤ 3) (hy : ys.length ≤ 3) (hc : (full xs ys)[i]? = some c) (hi : xs.length + 2 + ys.length ≤ i) : Met G I_exB #[(.int (n32 i)), (.ref k), (.ref n)] h [] (Rt (fun x h' S' => S' = [] ∧ h' = h ∧ x = .int c)) := by
  refine Met.intro (ls := #[.val (.int (n32 i)), .val (.ref k), .val (.ref n), .unset, .unset, .unset]) (plainFor_of_name pn_13) (fun m => by first | (simp [entryFrame, mkF, argsToLocals, Value.category, I_exB]; done) | (simp [entryFrame, mkF, argsToLocals, Value.category]; rfl) | rfl) ?_
  intro K
  have hi24 := (List.getElem?_eq_some_iff.mp hc).1; have fl := full_len xs ys
  refine Ru.aloadN d_exp_0 rfl rfl ?_
  refine Ru.callV0 (J := I_slen) (c_slen e T1) d_exp_1 T1.1 (e.w 236 rfl) (e.w 64 rfl) (nf_sel (e.w 66 rfl)) (e.w 66 rfl) (e.w 65 rfl) (e.w 6 rfl) (e.w 67 rfl) (by decide) np_slen rfl (a := k) (argsL := []) (rest := []) rfl rfl (fun _ q => nomatch q) (Nat.le_of_ble_eq_true rfl) (Nat.le_of_ble_eq_true rfl) (Nat.le_of_ble_eq_true rfl) (Nat.le_of_ble_eq_true rfl) (WP.rt ?_)
  rintro _ h S1 ⟨rfl, rfl, rfl⟩
  refine Ru.istoreN d_exp_4 (ls' := #[.val (.int (n32 i)), .val (.ref k), .val (.ref n), .val (.int (n32 xs.length)), .unset, .unset]) rfl ?_
  refine Ru.aloadN d_exp_5 rfl rfl ?_
  refine Ru.callV0 (J := I_slen) (c_slen e T2) d_exp_6 T2.1 (e.w 236 rfl) (e.w 64 rfl) (nf_sel (e.w 66 rfl)) (e.w 66 rfl) (e.w 65 rfl) (e.w 6 rfl) (e.w 67 rfl) (by decide) np_slen rfl (a := n) (argsL := []) (rest := []) rfl rfl (fun _ q => nomatch q) (Nat.le_of_ble_eq_true rfl) (Nat.le_of_ble_eq_true rfl) (Nat.le_of_ble_eq_true rfl) (Nat.le_of_ble_eq_true rfl) (WP.rt ?_)
  rintro _ h S2 ⟨rfl, rfl, rfl⟩
  refine Ru.istore d_exp_9 (ls' := #[.val (.int (n32 i)), .val (.ref k), .val (.ref n), .val (.int (n32 xs.length)), .val (.int (n32 ys.length)), .unset]) rfl ?_
  refine Ru.iloadN d_exp_11 rfl ?_
  refine Ru.iloadN d_exp_12 rfl ?_
  refine Ru.icmpY d_exp_13 (show ¬ (n32 i) < (n32 xs.length) from (fun q => by rw [n32_lt (by omega) (by omega)] at q; omega)) ?_
  refine Ru.iloadN d_exp_22 rfl ?_
  refine Ru.iloadN d_exp_23 rfl ?_
  refine Ru.icmpY d_exp_24 (show ¬ (n32 i) = (n32 xs.length) from (fun q => by rw [n32_eq (by omega) (by omega)] at q; omega)) ?_
  refine Ru.iloadN d_exp_30 rfl ?_
  refine Ru.iloadN d_exp_31 rfl ?_
  refine Ru.iconst (x := 1) d_exp_32 rfl ?_
  refine Ru.iadd d_exp_33 ?_
  refine WP.topI (show ((n32 xs.length) + (1 : Int32)) = (n32 (xs.length + 1)) from (n32_succ _)) ?_
  refine Ru.icmpY d_exp_34 (show ¬ (n32 i) = (n32 (xs.length + 1)) from (fun q => by rw [n32_eq (by omega) (by omega)] at q; omega)) ?_
  refine Ru.iloadN d_exp_40 rfl ?_
  refine Ru.iloadN d_exp_41 rfl ?_
  refine Ru.iconst (x := 2) d_exp_42 rfl ?_
  refine Ru.iadd d_exp_43 ?_
  refine Ru.iload d_exp_44 rfl ?_
  refine Ru.iadd d_exp_46 ?_
  refine WP.topI (show (((n32 xs.length) + (2 : Int32)) + (n32 ys.length)) = (n32 (xs.length + 2 + ys.length)) from (by rw [show (2 : Int32) = n32 2 from rfl, n32_add, n32_add])) ?_
  refine Ru.icmpY d_exp_47 (show ¬ (n32 i) < (n32 (xs.length + 2 + ys.length)) from (fun q => by rw [n32_lt (by omega) (by omega)] at q; omega)) ?_
  refine Ru.ldcKnown (vs := (LIT.map Value.int)) d_exp_60 (by decide) (e.el _ (by decide)) (e.w 268 rfl) (by decide) (by decide) ?_
  intro o ot X6 C6 V6 B6
  have TO : StrL G.Z h o ot LIT := ⟨X6, V6, C6, B6, by simp [LIT, IsL]⟩
  refine Ru.astore d_exp_62 rfl (ls' := #[.val (.int (n32 i)), .val (.ref k), .val (.ref n), .val (.int (n32 xs.length)), .val (.int (n32 ys.length)), .val (.ref o)]) rfl ?_
  refine Ru.aload d_exp_64 rfl rfl ?_
  refine Ru.iloadN d_exp_66 rfl ?_
  refine Ru.iloadN d_exp_67 rfl ?_
  refine Ru.isub d_exp_68 ?_
  refine Ru.iconst (x := 2) d_exp_69 rfl ?_
  refine Ru.isub d_exp_70 ?_
  refine Ru.iload d_exp_71 rfl ?_
  refine Ru.isub d_exp_73 ?_
  refine WP.topI (show ((((n32 i) - (n32 xs.length)) - (2 : Int32)) - (n32 ys.length)) = (n32 (i - xs.length - 2 - ys.length)) from (by rw [n32_sub (by omega) (by omega), show (2 : Int32) = n32 2 from rfl, n32_sub (by omega) (by omega), n32_sub (by omega) (by omega)])) ?_
  obtain ⟨d, hd⟩ : ∃ d, LIT[i - xs.length - 2 - ys.length]? = some d := ⟨_, List.getElem?_eq_getElem (by show _ < 16; omega)⟩
  have q := full5 hi hd
  rw [hc] at q
  obtain rfl := Option.some.inj q
  refine Ru.callV0 (J := I_schr) (c_schr e TO hd) d_exp_74 TO.1 (e.w 243 rfl) (e.w 244 rfl) (nf_sel (e.w 246 rfl)) (e.w 246 rfl) (e.w 245 rfl) (e.w 6 rfl) (e.w 247 rfl) (by decide) np_schr rfl (a := o) (argsL := [(.int (n32 (i - xs.length - 2 - ys.length)))]) (rest := []) rfl rfl (fun _ q => nomatch q) (Nat.le_of_ble_eq_true rfl) (Nat.le_of_ble_eq_true rfl) (Nat.le_of_ble_eq_true rfl) (Nat.le_of_ble_eq_true rfl) (WP.rt ?_)
  rintro _ _ S3 ⟨rfl, rfl, rfl⟩
  exact Ru.ireturnN (t := .char) d_exp_77 rfl (by simp) (nar_c (TO.2.2.2.2 c (List.mem_of_getElem? hd)).c) [] (fun _ q => nomatch q) (Nat.le_of_ble_eq_true rfl) (Nat.le_of_ble_eq_true rfl) ⟨_, rfl, rfl, rfl, rfl⟩
abbrev I_at : Own.Inf := (⟨"com/example/ilan/ilan/engine/BrokerExceptionAlreadyExistsPinLaw", "at", "(Ljava/lang/String;ILjava/lang/String;Ljava/lang/String;)Z"⟩, method_5_code, 4, (Option.some Jvm.ClassFile.FieldType.boolean), { frames := 5, cells := 2, slots := 68, locals := 80 }, [], [])
theorem d_at_0 : Own.D1 method_5_code 0 (.iload_n 1) 1 1 := ⟨by decide +kernel, rfl⟩
theorem d_at_1 : Own.D1 method_5_code 1 (.aload_n 0) 1 2 := ⟨by decide +kernel, rfl⟩
theorem d_at_2 : Own.D1 method_5_code 2 (.invokevirtual 33) 3 5 := ⟨by decide +kernel, rfl⟩
theorem d_at_5 : Own.DB method_5_code 5 (.if_icmp .ge 17) 3 (17) 8 22 := ⟨by decide +kernel, rfl, by decide, rfl⟩
theorem d_at_8 : Own.D1 method_5_code 8 (.aload_n 0) 1 9 := ⟨by decide +kernel, rfl⟩
theorem d_at_9 : Own.D1 method_5_code 9 (.iload_n 1) 1 10 := ⟨by decide +kernel, rfl⟩
theorem d_at_10 : Own.D1 method_5_code 10 (.invokevirtual 53) 3 13 := ⟨by decide +kernel, rfl⟩
theorem d_at_13 : Own.D1 method_5_code 13 (.iload_n 1) 1 14 := ⟨by decide +kernel, rfl⟩
theorem d_at_14 : Own.D1 method_5_code 14 (.aload_n 2) 1 15 := ⟨by decide +kernel, rfl⟩
theorem d_at_15 : Own.D1 method_5_code 15 (.aload_n 3) 1 16 := ⟨by decide +kernel, rfl⟩
theorem d_at_16 : Own.D1 method_5_code 16 (.invokestatic 59) 3 19 := ⟨by decide +kernel, rfl⟩
theorem d_at_19 : Own.DB method_5_code 19 (.if_icmp .ne 7) 3 (7) 22 26 := ⟨by decide +kernel, rfl, by decide, rfl⟩
theorem d_at_22 : Own.D1 method_5_code 22 (.iconst 1) 1 23 := ⟨by decide +kernel, rfl⟩
theorem d_at_23 : Own.DB method_5_code 23 (.goto 4) 3 (4) 26 27 := ⟨by decide +kernel, rfl, by decide, rfl⟩
theorem d_at_26 : Own.D1 method_5_code 26 (.iconst 0) 1 27 := ⟨by decide +kernel, rfl⟩
theorem d_at_27 : Own.D1 method_5_code 27 .ireturn 1 28 := ⟨by decide +kernel, rfl⟩
theorem np_at : Own.npar "(Ljava/lang/String;ILjava/lang/String;Ljava/lang/String;)Z" = some 4 := by decide +kernel
abbrev I_at0 : Own.Inf := (I_at.1, I_at.2.1, I_at.2.2.1, I_at.2.2.2.1, { frames := 5, cells := 0, slots := 0, locals := 80 }, [], [])
theorem np_at0 : Own.npar "(Ljava/lang/String;ILjava/lang/String;Ljava/lang/String;)Z" = some 4 := np_at
abbrev I_atA : Own.Inf := (I_at.1, I_at.2.1, I_at.2.2.1, I_at.2.2.2.1, { frames := 5, cells := 2, slots := 68, locals := 80 }, [], [("com/example/ilan/ilan/engine/BrokerExceptionAlreadyExistsPinLaw", 57)])
theorem np_atA : Own.npar "(Ljava/lang/String;ILjava/lang/String;Ljava/lang/String;)Z" = some 4 := np_at
abbrev I_atB : Own.Inf := (I_at.1, I_at.2.1, I_at.2.2.1, I_at.2.2.2.1, { frames := 5, cells := 0, slots := 0, locals := 80 }, [("com/example/ilan/ilan/engine/BrokerExceptionAlreadyExistsPinLaw", 57)], [])
theorem np_atB : Own.npar "(Ljava/lang/String;ILjava/lang/String;Ljava/lang/String;)Z" = some 4 := np_at
set_option maxRecDepth 65536 in
set_option maxHeartbeats 40000000 in
theorem c_at0 {G : Own.Wd} {a0 : Array Value} (e : Ev G a0) {m tm k t1 n t2 : Addr} {xs ys : List Int32} {i : Nat} {h : Heap} (T0 : StrL G.Z h m tm (full xs ys)) (T1 : StrL G.Z h k t1 xs) (T2 : StrL G.Z h n t2 ys) (hx : xs.length ≤ 3) (hy : ys.length ≤ 3) (hi : i < xs.length + 2 + ys.length) : Met G I_at0 #[(.ref m), (.int (n32 i)), (.ref k), (.ref n)] h [] (Rt (fun x h' S' => S' = [] ∧ h' = h ∧ x = .int 1)) := by
  refine Met.intro (ls := #[.val (.ref m), .val (.int (n32 i)), .val (.ref k), .val (.ref n)]) (plainFor_of_name pn_13) (fun m => by first | (simp [entryFrame, mkF, argsToLocals, Value.category, I_at0]; done) | (simp [entryFrame, mkF, argsToLocals, Value.category]; rfl) | rfl) ?_
  intro K
  have fl := full_len xs ys
  refine Ru.iloadN d_at_0 rfl ?_
  refine Ru.aloadN d_at_1 rfl rfl ?_
  refine Ru.callV0 (J := I_slen) (c_slen e T0) d_at_2 T0.1 (e.w 236 rfl) (e.w 64 rfl) (nf_sel (e.w 66 rfl)) (e.w 66 rfl) (e.w 65 rfl) (e.w 6 rfl) (e.w 67 rfl) (by decide) np_slen rfl (a := m) (argsL := []) (rest := [(.int (n32 i))]) rfl rfl (fun _ q => nomatch q) (Nat.le_of_ble_eq_true rfl) (Nat.le_of_ble_eq_true rfl) (Nat.le_of_ble_eq_true rfl) (Nat.le_of_ble_eq_true rfl) (WP.rt ?_)
  rintro _ h S1 ⟨rfl, rfl, rfl⟩
  refine Ru.icmpN d_at_5 (show (n32 i) < (n32 (full xs ys).length) from ((n32_lt (by omega) (by omega)).mpr (by omega))) ?_
  obtain ⟨c, hc⟩ : ∃ c, (full xs ys)[i]? = some c := ⟨_, List.getElem?_eq_getElem (by omega)⟩
  refine Ru.aloadN d_at_8 rfl rfl ?_
  refine Ru.iloadN d_at_9 rfl ?_
  refine Ru.callV0 (J := I_schr) (c_schr e T0 hc) d_at_10 T0.1 (e.w 243 rfl) (e.w 244 rfl) (nf_sel (e.w 246 rfl)) (e.w 246 rfl) (e.w 245 rfl) (e.w 6 rfl) (e.w 247 rfl) (by decide) np_schr rfl (a := m) (argsL := [(.int (n32 i))]) (rest := []) rfl rfl (fun _ q => nomatch q) (Nat.le_of_ble_eq_true rfl) (Nat.le_of_ble_eq_true rfl) (Nat.le_of_ble_eq_true rfl) (Nat.le_of_ble_eq_true rfl) (WP.rt ?_)
  rintro _ h S2 ⟨rfl, rfl, rfl⟩
  refine Ru.iloadN d_at_13 rfl ?_
  refine Ru.aloadN d_at_14 rfl rfl ?_
  refine Ru.aloadN d_at_15 rfl rfl ?_
  refine Ru.callS0 (J := I_ex0) (c_ex0 e T1 T2 hx hy hc hi) d_at_16 (e.w 265 rfl) (e.w 266 rfl) (e.w 2 rfl) (e.w 267 rfl) (by decide) np_ex0 rfl (argsL := [(.int (n32 i)), (.ref k), (.ref n)]) (rest := [(.int c)]) rfl rfl (fun _ q => nomatch q) (Nat.le_of_ble_eq_true rfl) (Nat.le_of_ble_eq_true rfl) (Nat.le_of_ble_eq_true rfl) (Nat.le_of_ble_eq_true rfl) (WP.rt ?_)
  rintro _ h S3 ⟨rfl, rfl, rfl⟩
  refine Ru.icmpN d_at_19 (show c = c from rfl) ?_
  refine Ru.iconst (x := 1) d_at_22 rfl ?_
  refine Ru.goto d_at_23 ?_
  exact Ru.ireturnN (t := .boolean) (x' := (1 : Int32)) d_at_27 rfl (by simp) rfl [] (fun _ q => nomatch q) (Nat.le_of_ble_eq_true rfl) (Nat.le_of_ble_eq_true rfl) ⟨_, rfl, rfl, rfl, rfl⟩
set_option maxRecDepth 65536 in
set_option maxHeartbeats 40000000 in
theorem c_atA {G : Own.Wd} {a0 : Array Value} (e : Ev G a0) {m tm k t1 n t2 : Addr} {xs ys : List Int32} {i : Nat} {h : Heap} (T0 : StrL G.Z h m tm (full xs ys)) (T1 : StrL G.Z h k t1 xs) (T2 : StrL G.Z h n t2 ys) (hx : xs.length ≤ 3) (hy : ys.length ≤ 3) (hi : xs.length + 2 + ys.length ≤ i) (h16 : i < xs.length + 2 + ys.length + 16) : Met G I_atA #[(.ref m), (.int (n32 i)), (.ref k), (.ref n)] h [] (Rt (fun x h' S' => S' = [] ∧ Keep h h' [] ∧ x = .int 1)) := by
  refine Met.intro (ls := #[.val (.ref m), .val (.int (n32 i)), .val (.ref k), .val (.ref n)]) (plainFor_of_name pn_13) (fun m => by first | (simp [entryFrame, mkF, argsToLocals, Value.category, I_atA]; done) | (simp [entryFrame, mkF, argsToLocals, Value.category]; rfl) | rfl) ?_
  intro K
  have fl := full_len xs ys
  refine Ru.iloadN d_at_0 rfl ?_
  refine Ru.aloadN d_at_1 rfl rfl ?_
  refine Ru.callV0 (J := I_slen) (c_slen e T0) d_at_2 T0.1 (e.w 236 rfl) (e.w 64 rfl) (nf_sel (e.w 66 rfl)) (e.w 66 rfl) (e.w 65 rfl) (e.w 6 rfl) (e.w 67 rfl) (by decide) np_slen rfl (a := m) (argsL := []) (rest := [(.int (n32 i))]) rfl rfl (fun _ q => nomatch q) (Nat.le_of_ble_eq_true rfl) (Nat.le_of_ble_eq_true rfl) (Nat.le_of_ble_eq_true rfl) (Nat.le_of_ble_eq_true rfl) (WP.rt ?_)
  rintro _ h S1 ⟨rfl, rfl, rfl⟩
  refine Ru.icmpN d_at_5 (show (n32 i) < (n32 (full xs ys).length) from ((n32_lt (by omega) (by omega)).mpr (by omega))) ?_
  obtain ⟨c, hc⟩ : ∃ c, (full xs ys)[i]? = some c := ⟨_, List.getElem?_eq_getElem (by omega)⟩
  refine Ru.aloadN d_at_8 rfl rfl ?_
  refine Ru.iloadN d_at_9 rfl ?_
  refine Ru.callV0 (J := I_schr) (c_schr e T0 hc) d_at_10 T0.1 (e.w 243 rfl) (e.w 244 rfl) (nf_sel (e.w 246 rfl)) (e.w 246 rfl) (e.w 245 rfl) (e.w 6 rfl) (e.w 247 rfl) (by decide) np_schr rfl (a := m) (argsL := [(.int (n32 i))]) (rest := []) rfl rfl (fun _ q => nomatch q) (Nat.le_of_ble_eq_true rfl) (Nat.le_of_ble_eq_true rfl) (Nat.le_of_ble_eq_true rfl) (Nat.le_of_ble_eq_true rfl) (WP.rt ?_)
  rintro _ h S2 ⟨rfl, rfl, rfl⟩
  refine Ru.iloadN d_at_13 rfl ?_
  refine Ru.aloadN d_at_14 rfl rfl ?_
  refine Ru.aloadN d_at_15 rfl rfl ?_
  refine Ru.callSL (J := I_exA) (c_exA e T1 T2 hx hy hc hi) d_at_16 (e.w 265 rfl) (e.w 266 rfl) (e.w 2 rfl) (e.w 267 rfl) (by decide) np_exA rfl (argsL := [(.int (n32 i)), (.ref k), (.ref n)]) (rest := [(.int c)]) rfl rfl (fun _ q => nomatch q) (Nat.le_of_ble_eq_true rfl) (Nat.le_of_ble_eq_true rfl) (Nat.le_of_ble_eq_true rfl) (Nat.le_of_ble_eq_true rfl) (WP.rt ?_)
  rintro _ h1 S3 ⟨rfl, K1, rfl⟩
  refine Ru.icmpN d_at_19 (show c = c from rfl) ?_
  refine Ru.iconst (x := 1) d_at_22 rfl ?_
  refine Ru.goto d_at_23 ?_
  exact Ru.ireturnN (t := .boolean) (x' := (1 : Int32)) d_at_27 rfl (by simp) rfl [] (fun _ q => nomatch q) (Nat.le_of_ble_eq_true rfl) (Nat.le_of_ble_eq_true rfl) ⟨_, rfl, rfl, K1, rfl⟩
set_option maxRecDepth 65536 in
set_option maxHeartbeats 40000000 in
theorem c_atB {G : Own.Wd} {a0 : Array Value} (e : Ev G a0) {m tm k t1 n t2 : Addr} {xs ys : List Int32} {i : Nat} {h : Heap} (T0 : StrL G.Z h m tm (full xs ys)) (T1 : StrL G.Z h k t1 xs) (T2 : StrL G.Z h n t2 ys) (hx : xs.length ≤ 3) (hy : ys.length ≤ 3) (hi : xs.length + 2 + ys.length ≤ i) (h24 : i < 24) : Met G I_atB #[(.ref m), (.int (n32 i)), (.ref k), (.ref n)] h [] (Rt (fun x h' S' => S' = [] ∧ h' = h ∧ x = .int 1)) := by
  refine Met.intro (ls := #[.val (.ref m), .val (.int (n32 i)), .val (.ref k), .val (.ref n)]) (plainFor_of_name pn_13) (fun m => by first | (simp [entryFrame, mkF, argsToLocals, Value.category, I_atB]; done) | (simp [entryFrame, mkF, argsToLocals, Value.category]; rfl) | rfl) ?_
  intro K
  have fl := full_len xs ys
  refine Ru.iloadN d_at_0 rfl ?_
  refine Ru.aloadN d_at_1 rfl rfl ?_
  refine Ru.callV0 (J := I_slen) (c_slen e T0) d_at_2 T0.1 (e.w 236 rfl) (e.w 64 rfl) (nf_sel (e.w 66 rfl)) (e.w 66 rfl) (e.w 65 rfl) (e.w 6 rfl) (e.w 67 rfl) (by decide) np_slen rfl (a := m) (argsL := []) (rest := [(.int (n32 i))]) rfl rfl (fun _ q => nomatch q) (Nat.le_of_ble_eq_true rfl) (Nat.le_of_ble_eq_true rfl) (Nat.le_of_ble_eq_true rfl) (Nat.le_of_ble_eq_true rfl) (WP.rt ?_)
  rintro _ h S1 ⟨rfl, rfl, rfl⟩
  refine Ru.icmp d_at_5 (fun (u1 : ¬ (n32 i) < (n32 (full xs ys).length)) => ?_) (fun (u1 : (n32 i) < (n32 (full xs ys).length)) => ?_)
  · refine Ru.iconst (x := 1) d_at_22 rfl ?_
    refine Ru.goto d_at_23 ?_
    exact Ru.ireturnN (t := .boolean) (x' := (1 : Int32)) d_at_27 rfl (by simp) rfl [] (fun _ q => nomatch q) (Nat.le_of_ble_eq_true rfl) (Nat.le_of_ble_eq_true rfl) ⟨_, rfl, rfl, rfl, rfl⟩
  · rw [n32_lt (by omega) (by omega)] at u1
    obtain ⟨c, hc⟩ : ∃ c, (full xs ys)[i]? = some c := ⟨_, List.getElem?_eq_getElem (by omega)⟩
    refine Ru.aloadN d_at_8 rfl rfl ?_
    refine Ru.iloadN d_at_9 rfl ?_
    refine Ru.callV0 (J := I_schr) (c_schr e T0 hc) d_at_10 T0.1 (e.w 243 rfl) (e.w 244 rfl) (nf_sel (e.w 246 rfl)) (e.w 246 rfl) (e.w 245 rfl) (e.w 6 rfl) (e.w 247 rfl) (by decide) np_schr rfl (a := m) (argsL := [(.int (n32 i))]) (rest := []) rfl rfl (fun _ q => nomatch q) (Nat.le_of_ble_eq_true rfl) (Nat.le_of_ble_eq_true rfl) (Nat.le_of_ble_eq_true rfl) (Nat.le_of_ble_eq_true rfl) (WP.rt ?_)
    rintro _ h S2 ⟨rfl, rfl, rfl⟩
    refine Ru.iloadN d_at_13 rfl ?_
    refine Ru.aloadN d_at_14 rfl rfl ?_
    refine Ru.aloadN d_at_15 rfl rfl ?_
    refine Ru.callS0 (J := I_exB) (c_exB e T1 T2 hx hy hc hi) d_at_16 (e.w 265 rfl) (e.w 266 rfl) (e.w 2 rfl) (e.w 267 rfl) (by decide) np_exB rfl (argsL := [(.int (n32 i)), (.ref k), (.ref n)]) (rest := [(.int c)]) rfl rfl (fun _ q => nomatch q) (Nat.le_of_ble_eq_true rfl) (Nat.le_of_ble_eq_true rfl) (Nat.le_of_ble_eq_true rfl) (Nat.le_of_ble_eq_true rfl) (WP.rt ?_)
    rintro _ h S3 ⟨rfl, rfl, rfl⟩
    refine Ru.icmpN d_at_19 (show c = c from rfl) ?_
    refine Ru.iconst (x := 1) d_at_22 rfl ?_
    refine Ru.goto d_at_23 ?_
    exact Ru.ireturnN (t := .boolean) (x' := (1 : Int32)) d_at_27 rfl (by simp) rfl [] (fun _ q => nomatch q) (Nat.le_of_ble_eq_true rfl) (Nat.le_of_ble_eq_true rfl) ⟨_, rfl, rfl, rfl, rfl⟩
abbrev I_fh0 : Own.Inf := (⟨"com/example/ilan/ilan/engine/BrokerExceptionAlreadyExistsPinLaw", "firstHalf", "(Ljava/lang/String;Ljava/lang/String;Ljava/lang/String;)Z"⟩, method_6_code, 3, (Option.some Jvm.ClassFile.FieldType.boolean), { frames := 6, cells := 2, slots := 68, locals := 100 }, [], [])
theorem d_fh0_0 : Own.D1 method_6_code 0 (.aload_n 0) 1 1 := ⟨by decide +kernel, rfl⟩
theorem d_fh0_1 : Own.D1 method_6_code 1 (.iconst 0) 1 2 := ⟨by decide +kernel, rfl⟩
theorem d_fh0_2 : Own.D1 method_6_code 2 (.aload_n 1) 1 3 := ⟨by decide +kernel, rfl⟩
theorem d_fh0_3 : Own.D1 method_6_code 3 (.aload_n 2) 1 4 := ⟨by decide +kernel, rfl⟩
theorem d_fh0_4 : Own.D1 method_6_code 4 (.invokestatic 63) 3 7 := ⟨by decide +kernel, rfl⟩
theorem d_fh0_7 : Own.DB method_6_code 7 (.ifCond .eq 123) 3 (123) 10 130 := ⟨by decide +kernel, rfl, by decide, rfl⟩
theorem d_fh0_10 : Own.D1 method_6_code 10 (.aload_n 0) 1 11 := ⟨by decide +kernel, rfl⟩
theorem d_fh0_11 : Own.D1 method_6_code 11 (.iconst 1) 1 12 := ⟨by decide +kernel, rfl⟩
theorem d_fh0_12 : Own.D1 method_6_code 12 (.aload_n 1) 1 13 := ⟨by decide +kernel, rfl⟩
theorem d_fh0_13 : Own.D1 method_6_code 13 (.aload_n 2) 1 14 := ⟨by decide +kernel, rfl⟩
theorem d_fh0_14 : Own.D1 method_6_code 14 (.invokestatic 63) 3 17 := ⟨by decide +kernel, rfl⟩
theorem d_fh0_17 : Own.DB method_6_code 17 (.ifCond .eq 113) 3 (113) 20 130 := ⟨by decide +kernel, rfl, by decide, rfl⟩
theorem d_fh0_20 : Own.D1 method_6_code 20 (.aload_n 0) 1 21 := ⟨by decide +kernel, rfl⟩
theorem d_fh0_21 : Own.D1 method_6_code 21 (.iconst 2) 1 22 := ⟨by decide +kernel, rfl⟩
theorem d_fh0_22 : Own.D1 method_6_code 22 (.aload_n 1) 1 23 := ⟨by decide +kernel, rfl⟩
theorem d_fh0_23 : Own.D1 method_6_code 23 (.aload_n 2) 1 24 := ⟨by decide +kernel, rfl⟩
theorem d_fh0_24 : Own.D1 method_6_code 24 (.invokestatic 63) 3 27 := ⟨by decide +kernel, rfl⟩
theorem d_fh0_27 : Own.DB method_6_code 27 (.ifCond .eq 103) 3 (103) 30 130 := ⟨by decide +kernel, rfl, by decide, rfl⟩
theorem d_fh0_30 : Own.D1 method_6_code 30 (.aload_n 0) 1 31 := ⟨by decide +kernel, rfl⟩
theorem d_fh0_31 : Own.D1 method_6_code 31 (.iconst 3) 1 32 := ⟨by decide +kernel, rfl⟩
theorem d_fh0_32 : Own.D1 method_6_code 32 (.aload_n 1) 1 33 := ⟨by decide +kernel, rfl⟩
theorem d_fh0_33 : Own.D1 method_6_code 33 (.aload_n 2) 1 34 := ⟨by decide +kernel, rfl⟩
theorem d_fh0_34 : Own.D1 method_6_code 34 (.invokestatic 63) 3 37 := ⟨by decide +kernel, rfl⟩
theorem d_fh0_37 : Own.DB method_6_code 37 (.ifCond .eq 93) 3 (93) 40 130 := ⟨by decide +kernel, rfl, by decide, rfl⟩
theorem d_fh0_40 : Own.D1 method_6_code 40 (.aload_n 0) 1 41 := ⟨by decide +kernel, rfl⟩
theorem d_fh0_41 : Own.D1 method_6_code 41 (.iconst 4) 1 42 := ⟨by decide +kernel, rfl⟩
theorem d_fh0_42 : Own.D1 method_6_code 42 (.aload_n 1) 1 43 := ⟨by decide +kernel, rfl⟩
theorem d_fh0_43 : Own.D1 method_6_code 43 (.aload_n 2) 1 44 := ⟨by decide +kernel, rfl⟩
theorem d_fh0_44 : Own.D1 method_6_code 44 (.invokestatic 63) 3 47 := ⟨by decide +kernel, rfl⟩
theorem d_fh0_47 : Own.DB method_6_code 47 (.ifCond .eq 83) 3 (83) 50 130 := ⟨by decide +kernel, rfl, by decide, rfl⟩
theorem d_fh0_50 : Own.D1 method_6_code 50 (.aload_n 0) 1 51 := ⟨by decide +kernel, rfl⟩
theorem d_fh0_51 : Own.D1 method_6_code 51 (.iconst 5) 1 52 := ⟨by decide +kernel, rfl⟩
theorem d_fh0_52 : Own.D1 method_6_code 52 (.aload_n 1) 1 53 := ⟨by decide +kernel, rfl⟩
theorem d_fh0_53 : Own.D1 method_6_code 53 (.aload_n 2) 1 54 := ⟨by decide +kernel, rfl⟩
theorem d_fh0_54 : Own.D1 method_6_code 54 (.invokestatic 63) 3 57 := ⟨by decide +kernel, rfl⟩
theorem d_fh0_57 : Own.DB method_6_code 57 (.ifCond .eq 73) 3 (73) 60 130 := ⟨by decide +kernel, rfl, by decide, rfl⟩
theorem d_fh0_60 : Own.D1 method_6_code 60 (.aload_n 0) 1 61 := ⟨by decide +kernel, rfl⟩
theorem d_fh0_61 : Own.D1 method_6_code 61 (.bipush 6) 2 63 := ⟨by decide +kernel, rfl⟩
theorem d_fh0_63 : Own.D1 method_6_code 63 (.aload_n 1) 1 64 := ⟨by decide +kernel, rfl⟩
theorem d_fh0_64 : Own.D1 method_6_code 64 (.aload_n 2) 1 65 := ⟨by decide +kernel, rfl⟩
theorem d_fh0_65 : Own.D1 method_6_code 65 (.invokestatic 63) 3 68 := ⟨by decide +kernel, rfl⟩
theorem d_fh0_68 : Own.DB method_6_code 68 (.ifCond .eq 62) 3 (62) 71 130 := ⟨by decide +kernel, rfl, by decide, rfl⟩
theorem d_fh0_71 : Own.D1 method_6_code 71 (.aload_n 0) 1 72 := ⟨by decide +kernel, rfl⟩
theorem d_fh0_72 : Own.D1 method_6_code 72 (.bipush 7) 2 74 := ⟨by decide +kernel, rfl⟩
theorem d_fh0_74 : Own.D1 method_6_code 74 (.aload_n 1) 1 75 := ⟨by decide +kernel, rfl⟩
theorem d_fh0_75 : Own.D1 method_6_code 75 (.aload_n 2) 1 76 := ⟨by decide +kernel, rfl⟩
theorem d_fh0_76 : Own.D1 method_6_code 76 (.invokestatic 63) 3 79 := ⟨by decide +kernel, rfl⟩
theorem d_fh0_79 : Own.DB method_6_code 79 (.ifCond .eq 51) 3 (51) 82 130 := ⟨by decide +kernel, rfl, by decide, rfl⟩
theorem d_fh0_82 : Own.D1 method_6_code 82 (.aload_n 0) 1 83 := ⟨by decide +kernel, rfl⟩
theorem d_fh0_83 : Own.D1 method_6_code 83 (.bipush 8) 2 85 := ⟨by decide +kernel, rfl⟩
theorem d_fh0_85 : Own.D1 method_6_code 85 (.aload_n 1) 1 86 := ⟨by decide +kernel, rfl⟩
theorem d_fh0_86 : Own.D1 method_6_code 86 (.aload_n 2) 1 87 := ⟨by decide +kernel, rfl⟩
theorem d_fh0_87 : Own.D1 method_6_code 87 (.invokestatic 63) 3 90 := ⟨by decide +kernel, rfl⟩
theorem d_fh0_90 : Own.DB method_6_code 90 (.ifCond .eq 40) 3 (40) 93 130 := ⟨by decide +kernel, rfl, by decide, rfl⟩
theorem d_fh0_93 : Own.D1 method_6_code 93 (.aload_n 0) 1 94 := ⟨by decide +kernel, rfl⟩
theorem d_fh0_94 : Own.D1 method_6_code 94 (.bipush 9) 2 96 := ⟨by decide +kernel, rfl⟩
theorem d_fh0_96 : Own.D1 method_6_code 96 (.aload_n 1) 1 97 := ⟨by decide +kernel, rfl⟩
theorem d_fh0_97 : Own.D1 method_6_code 97 (.aload_n 2) 1 98 := ⟨by decide +kernel, rfl⟩
theorem d_fh0_98 : Own.D1 method_6_code 98 (.invokestatic 63) 3 101 := ⟨by decide +kernel, rfl⟩
theorem d_fh0_101 : Own.DB method_6_code 101 (.ifCond .eq 29) 3 (29) 104 130 := ⟨by decide +kernel, rfl, by decide, rfl⟩
theorem d_fh0_104 : Own.D1 method_6_code 104 (.aload_n 0) 1 105 := ⟨by decide +kernel, rfl⟩
theorem d_fh0_105 : Own.D1 method_6_code 105 (.bipush 10) 2 107 := ⟨by decide +kernel, rfl⟩
theorem d_fh0_107 : Own.D1 method_6_code 107 (.aload_n 1) 1 108 := ⟨by decide +kernel, rfl⟩
theorem d_fh0_108 : Own.D1 method_6_code 108 (.aload_n 2) 1 109 := ⟨by decide +kernel, rfl⟩
theorem d_fh0_109 : Own.D1 method_6_code 109 (.invokestatic 63) 3 112 := ⟨by decide +kernel, rfl⟩
theorem d_fh0_112 : Own.DB method_6_code 112 (.ifCond .eq 18) 3 (18) 115 130 := ⟨by decide +kernel, rfl, by decide, rfl⟩
theorem d_fh0_115 : Own.D1 method_6_code 115 (.aload_n 0) 1 116 := ⟨by decide +kernel, rfl⟩
theorem d_fh0_116 : Own.D1 method_6_code 116 (.bipush 11) 2 118 := ⟨by decide +kernel, rfl⟩
theorem d_fh0_118 : Own.D1 method_6_code 118 (.aload_n 1) 1 119 := ⟨by decide +kernel, rfl⟩
theorem d_fh0_119 : Own.D1 method_6_code 119 (.aload_n 2) 1 120 := ⟨by decide +kernel, rfl⟩
theorem d_fh0_120 : Own.D1 method_6_code 120 (.invokestatic 63) 3 123 := ⟨by decide +kernel, rfl⟩
theorem d_fh0_123 : Own.DB method_6_code 123 (.ifCond .eq 7) 3 (7) 126 130 := ⟨by decide +kernel, rfl, by decide, rfl⟩
theorem d_fh0_126 : Own.D1 method_6_code 126 (.iconst 1) 1 127 := ⟨by decide +kernel, rfl⟩
theorem d_fh0_127 : Own.DB method_6_code 127 (.goto 4) 3 (4) 130 131 := ⟨by decide +kernel, rfl, by decide, rfl⟩
theorem d_fh0_130 : Own.D1 method_6_code 130 (.iconst 0) 1 131 := ⟨by decide +kernel, rfl⟩
theorem d_fh0_131 : Own.D1 method_6_code 131 .ireturn 1 132 := ⟨by decide +kernel, rfl⟩
theorem np_fh0 : Own.npar "(Ljava/lang/String;Ljava/lang/String;Ljava/lang/String;)Z" = some 3 := by decide +kernel
abbrev I_fh : Own.Inf := (I_fh0.1, I_fh0.2.1, I_fh0.2.2.1, I_fh0.2.2.2.1, { frames := 6, cells := 2, slots := 68, locals := 100 }, [], [("com/example/ilan/ilan/engine/BrokerExceptionAlreadyExistsPinLaw", 57)])
theorem np_fh : Own.npar "(Ljava/lang/String;Ljava/lang/String;Ljava/lang/String;)Z" = some 3 := np_fh0
set_option maxRecDepth 65536 in
set_option maxHeartbeats 40000000 in
theorem c_fh {G : Own.Wd} {a0 : Array Value} (e : Ev G a0) {m tm k t1 n t2 : Addr} {xs ys : List Int32} {h : Heap} (T0 : StrL G.Z h m tm (full xs ys)) (T1 : StrL G.Z h k t1 xs) (T2 : StrL G.Z h n t2 ys) (hx : xs.length ≤ 3) (hy : ys.length ≤ 3)  : Met G I_fh #[(.ref m), (.ref k), (.ref n)] h [] (Rt (fun x h' S' => S' = [] ∧ Keep h h' [] ∧ x = .int 1)) := by
  refine Met.intro (ls := #[.val (.ref m), .val (.ref k), .val (.ref n)]) (plainFor_of_name pn_13) (fun m => by first | (simp [entryFrame, mkF, argsToLocals, Value.category, I_fh]; done) | (simp [entryFrame, mkF, argsToLocals, Value.category]; rfl) | rfl) ?_
  intro K
  rcases (show xs.length + 2 + ys.length = 2 ∨ xs.length + 2 + ys.length = 3 ∨ xs.length + 2 + ys.length = 4 ∨ xs.length + 2 + ys.length = 5 ∨ xs.length + 2 + ys.length = 6 ∨ xs.length + 2 + ys.length = 7 ∨ xs.length + 2 + ys.length = 8 by omega) with ej | ej | ej | ej | ej | ej | ej
  · refine Ru.aloadN d_fh0_0 rfl rfl ?_
    refine Ru.iconst (x := 0) d_fh0_1 rfl ?_
    refine WP.topI (show (0 : Int32) = (n32 0) from rfl) ?_
    refine Ru.aloadN d_fh0_2 rfl rfl ?_
    refine Ru.aloadN d_fh0_3 rfl rfl ?_
    refine Ru.callS0 (J := I_at0) (c_at0 e (i := 0) T0 T1 T2 hx hy (by omega)) d_fh0_4 (e.w 240 rfl) (e.w 241 rfl) (e.w 2 rfl) (e.w 242 rfl) (by decide) np_at0 rfl (argsL := [(.ref m), (.int (n32 0)), (.ref k), (.ref n)]) (rest := []) rfl rfl (fun _ q => nomatch q) (Nat.le_of_ble_eq_true rfl) (Nat.le_of_ble_eq_true rfl) (Nat.le_of_ble_eq_true rfl) (Nat.le_of_ble_eq_true rfl) (WP.rt ?_)
    rintro _ h S0 ⟨rfl, rfl, rfl⟩
    refine Ru.ifN d_fh0_7 (show ¬ (1 : Int32) = (0 : Int32) from (by decide)) ?_
    refine Ru.aloadN d_fh0_10 rfl rfl ?_
    refine Ru.iconst (x := 1) d_fh0_11 rfl ?_
    refine WP.topI (show (1 : Int32) = (n32 1) from rfl) ?_
    refine Ru.aloadN d_fh0_12 rfl rfl ?_
    refine Ru.aloadN d_fh0_13 rfl rfl ?_
    refine Ru.callS0 (J := I_at0) (c_at0 e (i := 1) T0 T1 T2 hx hy (by omega)) d_fh0_14 (e.w 240 rfl) (e.w 241 rfl) (e.w 2 rfl) (e.w 242 rfl) (by decide) np_at0 rfl (argsL := [(.ref m), (.int (n32 1)), (.ref k), (.ref n)]) (rest := []) rfl rfl (fun _ q => nomatch q) (Nat.le_of_ble_eq_true rfl) (Nat.le_of_ble_eq_true rfl) (Nat.le_of_ble_eq_true rfl) (Nat.le_of_ble_eq_true rfl) (WP.rt ?_)
    rintro _ h S1 ⟨rfl, rfl, rfl⟩
    refine Ru.ifN d_fh0_17 (show ¬ (1 : Int32) = (0 : Int32) from (by decide)) ?_
    refine Ru.aloadN d_fh0_20 rfl rfl ?_
    refine Ru.iconst (x := 2) d_fh0_21 rfl ?_
    refine WP.topI (show (2 : Int32) = (n32 2) from rfl) ?_
    refine Ru.aloadN d_fh0_22 rfl rfl ?_
    refine Ru.aloadN d_fh0_23 rfl rfl ?_
    refine Ru.callSL (J := I_atA) (c_atA e (i := 2) T0 T1 T2 hx hy (by omega) (by omega)) d_fh0_24 (e.w 240 rfl) (e.w 241 rfl) (e.w 2 rfl) (e.w 242 rfl) (by decide) np_atA rfl (argsL := [(.ref m), (.int (n32 2)), (.ref k), (.ref n)]) (rest := []) rfl rfl (fun _ q => nomatch q) (Nat.le_of_ble_eq_true rfl) (Nat.le_of_ble_eq_true rfl) (Nat.le_of_ble_eq_true rfl) (Nat.le_of_ble_eq_true rfl) (WP.rt ?_)
    rintro _ k1 S2 ⟨rfl, K1, rfl⟩
    have T0 := T0.keep K1 nin0 nin0; have T1 := T1.keep K1 nin0 nin0; have T2 := T2.keep K1 nin0 nin0
    refine Ru.ifN d_fh0_27 (show ¬ (1 : Int32) = (0 : Int32) from (by decide)) ?_
    refine Ru.aloadN d_fh0_30 rfl rfl ?_
    refine Ru.iconst (x := 3) d_fh0_31 rfl ?_
    refine WP.topI (show (3 : Int32) = (n32 3) from rfl) ?_
    refine Ru.aloadN d_fh0_32 rfl rfl ?_
    refine Ru.aloadN d_fh0_33 rfl rfl ?_
    refine Ru.callS0 (J := I_atB) (c_atB e (i := 3) T0 T1 T2 hx hy (by omega) (by omega)) d_fh0_34 (e.w 240 rfl) (e.w 241 rfl) (e.w 2 rfl) (e.w 242 rfl) (by decide) np_atB rfl (argsL := [(.ref m), (.int (n32 3)), (.ref k), (.ref n)]) (rest := []) rfl rfl (fun _ q => nomatch q) (Nat.le_of_ble_eq_true rfl) (Nat.le_of_ble_eq_true rfl) (Nat.le_of_ble_eq_true rfl) (Nat.le_of_ble_eq_true rfl) (WP.rt ?_)
    rintro _ k1 S3 ⟨rfl, rfl, rfl⟩
    refine Ru.ifN d_fh0_37 (show ¬ (1 : Int32) = (0 : Int32) from (by decide)) ?_
    refine Ru.aloadN d_fh0_40 rfl rfl ?_
    refine Ru.iconst (x := 4) d_fh0_41 rfl ?_
    refine WP.topI (show (4 : Int32) = (n32 4) from rfl) ?_
    refine Ru.aloadN d_fh0_42 rfl rfl ?_
    refine Ru.aloadN d_fh0_43 rfl rfl ?_
    refine Ru.callS0 (J := I_atB) (c_atB e (i := 4) T0 T1 T2 hx hy (by omega) (by omega)) d_fh0_44 (e.w 240 rfl) (e.w 241 rfl) (e.w 2 rfl) (e.w 242 rfl) (by decide) np_atB rfl (argsL := [(.ref m), (.int (n32 4)), (.ref k), (.ref n)]) (rest := []) rfl rfl (fun _ q => nomatch q) (Nat.le_of_ble_eq_true rfl) (Nat.le_of_ble_eq_true rfl) (Nat.le_of_ble_eq_true rfl) (Nat.le_of_ble_eq_true rfl) (WP.rt ?_)
    rintro _ k1 S4 ⟨rfl, rfl, rfl⟩
    refine Ru.ifN d_fh0_47 (show ¬ (1 : Int32) = (0 : Int32) from (by decide)) ?_
    refine Ru.aloadN d_fh0_50 rfl rfl ?_
    refine Ru.iconst (x := 5) d_fh0_51 rfl ?_
    refine WP.topI (show (5 : Int32) = (n32 5) from rfl) ?_
    refine Ru.aloadN d_fh0_52 rfl rfl ?_
    refine Ru.aloadN d_fh0_53 rfl rfl ?_
    refine Ru.callS0 (J := I_atB) (c_atB e (i := 5) T0 T1 T2 hx hy (by omega) (by omega)) d_fh0_54 (e.w 240 rfl) (e.w 241 rfl) (e.w 2 rfl) (e.w 242 rfl) (by decide) np_atB rfl (argsL := [(.ref m), (.int (n32 5)), (.ref k), (.ref n)]) (rest := []) rfl rfl (fun _ q => nomatch q) (Nat.le_of_ble_eq_true rfl) (Nat.le_of_ble_eq_true rfl) (Nat.le_of_ble_eq_true rfl) (Nat.le_of_ble_eq_true rfl) (WP.rt ?_)
    rintro _ k1 S5 ⟨rfl, rfl, rfl⟩
    refine Ru.ifN d_fh0_57 (show ¬ (1 : Int32) = (0 : Int32) from (by decide)) ?_
    refine Ru.aloadN d_fh0_60 rfl rfl ?_
    refine Ru.bipush (x := 6) d_fh0_61 rfl ?_
    refine WP.topI (show (6 : Int32) = (n32 6) from rfl) ?_
    refine Ru.aloadN d_fh0_63 rfl rfl ?_
    refine Ru.aloadN d_fh0_64 rfl rfl ?_
    refine Ru.callS0 (J := I_atB) (c_atB e (i := 6) T0 T1 T2 hx hy (by omega) (by omega)) d_fh0_65 (e.w 240 rfl) (e.w 241 rfl) (e.w 2 rfl) (e.w 242 rfl) (by decide) np_atB rfl (argsL := [(.ref m), (.int (n32 6)), (.ref k), (.ref n)]) (rest := []) rfl rfl (fun _ q => nomatch q) (Nat.le_of_ble_eq_true rfl) (Nat.le_of_ble_eq_true rfl) (Nat.le_of_ble_eq_true rfl) (Nat.le_of_ble_eq_true rfl) (WP.rt ?_)
    rintro _ k1 S6 ⟨rfl, rfl, rfl⟩
    refine Ru.ifN d_fh0_68 (show ¬ (1 : Int32) = (0 : Int32) from (by decide)) ?_
    refine Ru.aloadN d_fh0_71 rfl rfl ?_
    refine Ru.bipush (x := 7) d_fh0_72 rfl ?_
    refine WP.topI (show (7 : Int32) = (n32 7) from rfl) ?_
    refine Ru.aloadN d_fh0_74 rfl rfl ?_
    refine Ru.aloadN d_fh0_75 rfl rfl ?_
    refine Ru.callS0 (J := I_atB) (c_atB e (i := 7) T0 T1 T2 hx hy (by omega) (by omega)) d_fh0_76 (e.w 240 rfl) (e.w 241 rfl) (e.w 2 rfl) (e.w 242 rfl) (by decide) np_atB rfl (argsL := [(.ref m), (.int (n32 7)), (.ref k), (.ref n)]) (rest := []) rfl rfl (fun _ q => nomatch q) (Nat.le_of_ble_eq_true rfl) (Nat.le_of_ble_eq_true rfl) (Nat.le_of_ble_eq_true rfl) (Nat.le_of_ble_eq_true rfl) (WP.rt ?_)
    rintro _ k1 S7 ⟨rfl, rfl, rfl⟩
    refine Ru.ifN d_fh0_79 (show ¬ (1 : Int32) = (0 : Int32) from (by decide)) ?_
    refine Ru.aloadN d_fh0_82 rfl rfl ?_
    refine Ru.bipush (x := 8) d_fh0_83 rfl ?_
    refine WP.topI (show (8 : Int32) = (n32 8) from rfl) ?_
    refine Ru.aloadN d_fh0_85 rfl rfl ?_
    refine Ru.aloadN d_fh0_86 rfl rfl ?_
    refine Ru.callS0 (J := I_atB) (c_atB e (i := 8) T0 T1 T2 hx hy (by omega) (by omega)) d_fh0_87 (e.w 240 rfl) (e.w 241 rfl) (e.w 2 rfl) (e.w 242 rfl) (by decide) np_atB rfl (argsL := [(.ref m), (.int (n32 8)), (.ref k), (.ref n)]) (rest := []) rfl rfl (fun _ q => nomatch q) (Nat.le_of_ble_eq_true rfl) (Nat.le_of_ble_eq_true rfl) (Nat.le_of_ble_eq_true rfl) (Nat.le_of_ble_eq_true rfl) (WP.rt ?_)
    rintro _ k1 S8 ⟨rfl, rfl, rfl⟩
    refine Ru.ifN d_fh0_90 (show ¬ (1 : Int32) = (0 : Int32) from (by decide)) ?_
    refine Ru.aloadN d_fh0_93 rfl rfl ?_
    refine Ru.bipush (x := 9) d_fh0_94 rfl ?_
    refine WP.topI (show (9 : Int32) = (n32 9) from rfl) ?_
    refine Ru.aloadN d_fh0_96 rfl rfl ?_
    refine Ru.aloadN d_fh0_97 rfl rfl ?_
    refine Ru.callS0 (J := I_atB) (c_atB e (i := 9) T0 T1 T2 hx hy (by omega) (by omega)) d_fh0_98 (e.w 240 rfl) (e.w 241 rfl) (e.w 2 rfl) (e.w 242 rfl) (by decide) np_atB rfl (argsL := [(.ref m), (.int (n32 9)), (.ref k), (.ref n)]) (rest := []) rfl rfl (fun _ q => nomatch q) (Nat.le_of_ble_eq_true rfl) (Nat.le_of_ble_eq_true rfl) (Nat.le_of_ble_eq_true rfl) (Nat.le_of_ble_eq_true rfl) (WP.rt ?_)
    rintro _ k1 S9 ⟨rfl, rfl, rfl⟩
    refine Ru.ifN d_fh0_101 (show ¬ (1 : Int32) = (0 : Int32) from (by decide)) ?_
    refine Ru.aloadN d_fh0_104 rfl rfl ?_
    refine Ru.bipush (x := 10) d_fh0_105 rfl ?_
    refine WP.topI (show (10 : Int32) = (n32 10) from rfl) ?_
    refine Ru.aloadN d_fh0_107 rfl rfl ?_
    refine Ru.aloadN d_fh0_108 rfl rfl ?_
    refine Ru.callS0 (J := I_atB) (c_atB e (i := 10) T0 T1 T2 hx hy (by omega) (by omega)) d_fh0_109 (e.w 240 rfl) (e.w 241 rfl) (e.w 2 rfl) (e.w 242 rfl) (by decide) np_atB rfl (argsL := [(.ref m), (.int (n32 10)), (.ref k), (.ref n)]) (rest := []) rfl rfl (fun _ q => nomatch q) (Nat.le_of_ble_eq_true rfl) (Nat.le_of_ble_eq_true rfl) (Nat.le_of_ble_eq_true rfl) (Nat.le_of_ble_eq_true rfl) (WP.rt ?_)
    rintro _ k1 S10 ⟨rfl, rfl, rfl⟩
    refine Ru.ifN d_fh0_112 (show ¬ (1 : Int32) = (0 : Int32) from (by decide)) ?_
    refine Ru.aloadN d_fh0_115 rfl rfl ?_
    refine Ru.bipush (x := 11) d_fh0_116 rfl ?_
    refine WP.topI (show (11 : Int32) = (n32 11) from rfl) ?_
    refine Ru.aloadN d_fh0_118 rfl rfl ?_
    refine Ru.aloadN d_fh0_119 rfl rfl ?_
    refine Ru.callS0 (J := I_atB) (c_atB e (i := 11) T0 T1 T2 hx hy (by omega) (by omega)) d_fh0_120 (e.w 240 rfl) (e.w 241 rfl) (e.w 2 rfl) (e.w 242 rfl) (by decide) np_atB rfl (argsL := [(.ref m), (.int (n32 11)), (.ref k), (.ref n)]) (rest := []) rfl rfl (fun _ q => nomatch q) (Nat.le_of_ble_eq_true rfl) (Nat.le_of_ble_eq_true rfl) (Nat.le_of_ble_eq_true rfl) (Nat.le_of_ble_eq_true rfl) (WP.rt ?_)
    rintro _ k1 S11 ⟨rfl, rfl, rfl⟩
    refine Ru.ifN d_fh0_123 (show ¬ (1 : Int32) = (0 : Int32) from (by decide)) ?_
    refine Ru.iconst (x := 1) d_fh0_126 rfl ?_
    refine Ru.goto d_fh0_127 ?_
    exact Ru.ireturnN (t := .boolean) (x' := (1 : Int32)) d_fh0_131 rfl (by simp) rfl [] (fun _ q => nomatch q) (Nat.le_of_ble_eq_true rfl) (Nat.le_of_ble_eq_true rfl) ⟨_, rfl, rfl, K1, rfl⟩
  · refine Ru.aloadN d_fh0_0 rfl rfl ?_
    refine Ru.iconst (x := 0) d_fh0_1 rfl ?_
    refine WP.topI (show (0 : Int32) = (n32 0) from rfl) ?_
    refine Ru.aloadN d_fh0_2 rfl rfl ?_
    refine Ru.aloadN d_fh0_3 rfl rfl ?_
    refine Ru.callS0 (J := I_at0) (c_at0 e (i := 0) T0 T1 T2 hx hy (by omega)) d_fh0_4 (e.w 240 rfl) (e.w 241 rfl) (e.w 2 rfl) (e.w 242 rfl) (by decide) np_at0 rfl (argsL := [(.ref m), (.int (n32 0)), (.ref k), (.ref n)]) (rest := []) rfl rfl (fun _ q => nomatch q) (Nat.le_of_ble_eq_true rfl) (Nat.le_of_ble_eq_true rfl) (Nat.le_of_ble_eq_true rfl) (Nat.le_of_ble_eq_true rfl) (WP.rt ?_)
    rintro _ h S0 ⟨rfl, rfl, rfl⟩
    refine Ru.ifN d_fh0_7 (show ¬ (1 : Int32) = (0 : Int32) from (by decide)) ?_
    refine Ru.aloadN d_fh0_10 rfl rfl ?_
    refine Ru.iconst (x := 1) d_fh0_11 rfl ?_
    refine WP.topI (show (1 : Int32) = (n32 1) from rfl) ?_
    refine Ru.aloadN d_fh0_12 rfl rfl ?_
    refine Ru.aloadN d_fh0_13 rfl rfl ?_
    refine Ru.callS0 (J := I_at0) (c_at0 e (i := 1) T0 T1 T2 hx hy (by omega)) d_fh0_14 (e.w 240 rfl) (e.w 241 rfl) (e.w 2 rfl) (e.w 242 rfl) (by decide) np_at0 rfl (argsL := [(.ref m), (.int (n32 1)), (.ref k), (.ref n)]) (rest := []) rfl rfl (fun _ q => nomatch q) (Nat.le_of_ble_eq_true rfl) (Nat.le_of_ble_eq_true rfl) (Nat.le_of_ble_eq_true rfl) (Nat.le_of_ble_eq_true rfl) (WP.rt ?_)
    rintro _ h S1 ⟨rfl, rfl, rfl⟩
    refine Ru.ifN d_fh0_17 (show ¬ (1 : Int32) = (0 : Int32) from (by decide)) ?_
    refine Ru.aloadN d_fh0_20 rfl rfl ?_
    refine Ru.iconst (x := 2) d_fh0_21 rfl ?_
    refine WP.topI (show (2 : Int32) = (n32 2) from rfl) ?_
    refine Ru.aloadN d_fh0_22 rfl rfl ?_
    refine Ru.aloadN d_fh0_23 rfl rfl ?_
    refine Ru.callS0 (J := I_at0) (c_at0 e (i := 2) T0 T1 T2 hx hy (by omega)) d_fh0_24 (e.w 240 rfl) (e.w 241 rfl) (e.w 2 rfl) (e.w 242 rfl) (by decide) np_at0 rfl (argsL := [(.ref m), (.int (n32 2)), (.ref k), (.ref n)]) (rest := []) rfl rfl (fun _ q => nomatch q) (Nat.le_of_ble_eq_true rfl) (Nat.le_of_ble_eq_true rfl) (Nat.le_of_ble_eq_true rfl) (Nat.le_of_ble_eq_true rfl) (WP.rt ?_)
    rintro _ h S2 ⟨rfl, rfl, rfl⟩
    refine Ru.ifN d_fh0_27 (show ¬ (1 : Int32) = (0 : Int32) from (by decide)) ?_
    refine Ru.aloadN d_fh0_30 rfl rfl ?_
    refine Ru.iconst (x := 3) d_fh0_31 rfl ?_
    refine WP.topI (show (3 : Int32) = (n32 3) from rfl) ?_
    refine Ru.aloadN d_fh0_32 rfl rfl ?_
    refine Ru.aloadN d_fh0_33 rfl rfl ?_
    refine Ru.callSL (J := I_atA) (c_atA e (i := 3) T0 T1 T2 hx hy (by omega) (by omega)) d_fh0_34 (e.w 240 rfl) (e.w 241 rfl) (e.w 2 rfl) (e.w 242 rfl) (by decide) np_atA rfl (argsL := [(.ref m), (.int (n32 3)), (.ref k), (.ref n)]) (rest := []) rfl rfl (fun _ q => nomatch q) (Nat.le_of_ble_eq_true rfl) (Nat.le_of_ble_eq_true rfl) (Nat.le_of_ble_eq_true rfl) (Nat.le_of_ble_eq_true rfl) (WP.rt ?_)
    rintro _ k1 S3 ⟨rfl, K1, rfl⟩
    have T0 := T0.keep K1 nin0 nin0; have T1 := T1.keep K1 nin0 nin0; have T2 := T2.keep K1 nin0 nin0
    refine Ru.ifN d_fh0_37 (show ¬ (1 : Int32) = (0 : Int32) from (by decide)) ?_
    refine Ru.aloadN d_fh0_40 rfl rfl ?_
    refine Ru.iconst (x := 4) d_fh0_41 rfl ?_
    refine WP.topI (show (4 : Int32) = (n32 4) from rfl) ?_
    refine Ru.aloadN d_fh0_42 rfl rfl ?_
    refine Ru.aloadN d_fh0_43 rfl rfl ?_
    refine Ru.callS0 (J := I_atB) (c_atB e (i := 4) T0 T1 T2 hx hy (by omega) (by omega)) d_fh0_44 (e.w 240 rfl) (e.w 241 rfl) (e.w 2 rfl) (e.w 242 rfl) (by decide) np_atB rfl (argsL := [(.ref m), (.int (n32 4)), (.ref k), (.ref n)]) (rest := []) rfl rfl (fun _ q => nomatch q) (Nat.le_of_ble_eq_true rfl) (Nat.le_of_ble_eq_true rfl) (Nat.le_of_ble_eq_true rfl) (Nat.le_of_ble_eq_true rfl) (WP.rt ?_)
    rintro _ k1 S4 ⟨rfl, rfl, rfl⟩
    refine Ru.ifN d_fh0_47 (show ¬ (1 : Int32) = (0 : Int32) from (by decide)) ?_
    refine Ru.aloadN d_fh0_50 rfl rfl ?_
    refine Ru.iconst (x := 5) d_fh0_51 rfl ?_
    refine WP.topI (show (5 : Int32) = (n32 5) from rfl) ?_
    refine Ru.aloadN d_fh0_52 rfl rfl ?_
    refine Ru.aloadN d_fh0_53 rfl rfl ?_
    refine Ru.callS0 (J := I_atB) (c_atB e (i := 5) T0 T1 T2 hx hy (by omega) (by omega)) d_fh0_54 (e.w 240 rfl) (e.w 241 rfl) (e.w 2 rfl) (e.w 242 rfl) (by decide) np_atB rfl (argsL := [(.ref m), (.int (n32 5)), (.ref k), (.ref n)]) (rest := []) rfl rfl (fun _ q => nomatch q) (Nat.le_of_ble_eq_true rfl) (Nat.le_of_ble_eq_true rfl) (Nat.le_of_ble_eq_true rfl) (Nat.le_of_ble_eq_true rfl) (WP.rt ?_)
    rintro _ k1 S5 ⟨rfl, rfl, rfl⟩
    refine Ru.ifN d_fh0_57 (show ¬ (1 : Int32) = (0 : Int32) from (by decide)) ?_
    refine Ru.aloadN d_fh0_60 rfl rfl ?_
    refine Ru.bipush (x := 6) d_fh0_61 rfl ?_
    refine WP.topI (show (6 : Int32) = (n32 6) from rfl) ?_
    refine Ru.aloadN d_fh0_63 rfl rfl ?_
    refine Ru.aloadN d_fh0_64 rfl rfl ?_
    refine Ru.callS0 (J := I_atB) (c_atB e (i := 6) T0 T1 T2 hx hy (by omega) (by omega)) d_fh0_65 (e.w 240 rfl) (e.w 241 rfl) (e.w 2 rfl) (e.w 242 rfl) (by decide) np_atB rfl (argsL := [(.ref m), (.int (n32 6)), (.ref k), (.ref n)]) (rest := []) rfl rfl (fun _ q => nomatch q) (Nat.le_of_ble_eq_true rfl) (Nat.le_of_ble_eq_true rfl) (Nat.le_of_ble_eq_true rfl) (Nat.le_of_ble_eq_true rfl) (WP.rt ?_)
    rintro _ k1 S6 ⟨rfl, rfl, rfl⟩
    refine Ru.ifN d_fh0_68 (show ¬ (1 : Int32) = (0 : Int32) from (by decide)) ?_
    refine Ru.aloadN d_fh0_71 rfl rfl ?_
    refine Ru.bipush (x := 7) d_fh0_72 rfl ?_
    refine WP.topI (show (7 : Int32) = (n32 7) from rfl) ?_
    refine Ru.aloadN d_fh0_74 rfl rfl ?_
    refine Ru.aloadN d_fh0_75 rfl rfl ?_
    refine Ru.callS0 (J := I_atB) (c_atB e (i := 7) T0 T1 T2 hx hy (by omega) (by omega)) d_fh0_76 (e.w 240 rfl) (e.w 241 rfl) (e.w 2 rfl) (e.w 242 rfl) (by decide) np_atB rfl (argsL := [(.ref m), (.int (n32 7)), (.ref k), (.ref n)]) (rest := []) rfl rfl (fun _ q => nomatch q) (Nat.le_of_ble_eq_true rfl) (Nat.le_of_ble_eq_true rfl) (Nat.le_of_ble_eq_true rfl) (Nat.le_of_ble_eq_true rfl) (WP.rt ?_)
    rintro _ k1 S7 ⟨rfl, rfl, rfl⟩
    refine Ru.ifN d_fh0_79 (show ¬ (1 : Int32) = (0 : Int32) from (by decide)) ?_
    refine Ru.aloadN d_fh0_82 rfl rfl ?_
    refine Ru.bipush (x := 8) d_fh0_83 rfl ?_
    refine WP.topI (show (8 : Int32) = (n32 8) from rfl) ?_
    refine Ru.aloadN d_fh0_85 rfl rfl ?_
    refine Ru.aloadN d_fh0_86 rfl rfl ?_
    refine Ru.callS0 (J := I_atB) (c_atB e (i := 8) T0 T1 T2 hx hy (by omega) (by omega)) d_fh0_87 (e.w 240 rfl) (e.w 241 rfl) (e.w 2 rfl) (e.w 242 rfl) (by decide) np_atB rfl (argsL := [(.ref m), (.int (n32 8)), (.ref k), (.ref n)]) (rest := []) rfl rfl (fun _ q => nomatch q) (Nat.le_of_ble_eq_true rfl) (Nat.le_of_ble_eq_true rfl) (Nat.le_of_ble_eq_true rfl) (Nat.le_of_ble_eq_true rfl) (WP.rt ?_)
    rintro _ k1 S8 ⟨rfl, rfl, rfl⟩
    refine Ru.ifN d_fh0_90 (show ¬ (1 : Int32) = (0 : Int32) from (by decide)) ?_
    refine Ru.aloadN d_fh0_93 rfl rfl ?_
    refine Ru.bipush (x := 9) d_fh0_94 rfl ?_
    refine WP.topI (show (9 : Int32) = (n32 9) from rfl) ?_
    refine Ru.aloadN d_fh0_96 rfl rfl ?_
    refine Ru.aloadN d_fh0_97 rfl rfl ?_
    refine Ru.callS0 (J := I_atB) (c_atB e (i := 9) T0 T1 T2 hx hy (by omega) (by omega)) d_fh0_98 (e.w 240 rfl) (e.w 241 rfl) (e.w 2 rfl) (e.w 242 rfl) (by decide) np_atB rfl (argsL := [(.ref m), (.int (n32 9)), (.ref k), (.ref n)]) (rest := []) rfl rfl (fun _ q => nomatch q) (Nat.le_of_ble_eq_true rfl) (Nat.le_of_ble_eq_true rfl) (Nat.le_of_ble_eq_true rfl) (Nat.le_of_ble_eq_true rfl) (WP.rt ?_)
    rintro _ k1 S9 ⟨rfl, rfl, rfl⟩
    refine Ru.ifN d_fh0_101 (show ¬ (1 : Int32) = (0 : Int32) from (by decide)) ?_
    refine Ru.aloadN d_fh0_104 rfl rfl ?_
    refine Ru.bipush (x := 10) d_fh0_105 rfl ?_
    refine WP.topI (show (10 : Int32) = (n32 10) from rfl) ?_
    refine Ru.aloadN d_fh0_107 rfl rfl ?_
    refine Ru.aloadN d_fh0_108 rfl rfl ?_
    refine Ru.callS0 (J := I_atB) (c_atB e (i := 10) T0 T1 T2 hx hy (by omega) (by omega)) d_fh0_109 (e.w 240 rfl) (e.w 241 rfl) (e.w 2 rfl) (e.w 242 rfl) (by decide) np_atB rfl (argsL := [(.ref m), (.int (n32 10)), (.ref k), (.ref n)]) (rest := []) rfl rfl (fun _ q => nomatch q) (Nat.le_of_ble_eq_true rfl) (Nat.le_of_ble_eq_true rfl) (Nat.le_of_ble_eq_true rfl) (Nat.le_of_ble_eq_true rfl) (WP.rt ?_)
    rintro _ k1 S10 ⟨rfl, rfl, rfl⟩
    refine Ru.ifN d_fh0_112 (show ¬ (1 : Int32) = (0 : Int32) from (by decide)) ?_
    refine Ru.aloadN d_fh0_115 rfl rfl ?_
    refine Ru.bipush (x := 11) d_fh0_116 rfl ?_
    refine WP.topI (show (11 : Int32) = (n32 11) from rfl) ?_
    refine Ru.aloadN d_fh0_118 rfl rfl ?_
    refine Ru.aloadN d_fh0_119 rfl rfl ?_
    refine Ru.callS0 (J := I_atB) (c_atB e (i := 11) T0 T1 T2 hx hy (by omega) (by omega)) d_fh0_120 (e.w 240 rfl) (e.w 241 rfl) (e.w 2 rfl) (e.w 242 rfl) (by decide) np_atB rfl (argsL := [(.ref m), (.int (n32 11)), (.ref k), (.ref n)]) (rest := []) rfl rfl (fun _ q => nomatch q) (Nat.le_of_ble_eq_true rfl) (Nat.le_of_ble_eq_true rfl) (Nat.le_of_ble_eq_true rfl) (Nat.le_of_ble_eq_true rfl) (WP.rt ?_)
    rintro _ k1 S11 ⟨rfl, rfl, rfl⟩
    refine Ru.ifN d_fh0_123 (show ¬ (1 : Int32) = (0 : Int32) from (by decide)) ?_
    refine Ru.iconst (x := 1) d_fh0_126 rfl ?_
    refine Ru.goto d_fh0_127 ?_
    exact Ru.ireturnN (t := .boolean) (x' := (1 : Int32)) d_fh0_131 rfl (by simp) rfl [] (fun _ q => nomatch q) (Nat.le_of_ble_eq_true rfl) (Nat.le_of_ble_eq_true rfl) ⟨_, rfl, rfl, K1, rfl⟩
  · refine Ru.aloadN d_fh0_0 rfl rfl ?_
    refine Ru.iconst (x := 0) d_fh0_1 rfl ?_
    refine WP.topI (show (0 : Int32) = (n32 0) from rfl) ?_
    refine Ru.aloadN d_fh0_2 rfl rfl ?_
    refine Ru.aloadN d_fh0_3 rfl rfl ?_
    refine Ru.callS0 (J := I_at0) (c_at0 e (i := 0) T0 T1 T2 hx hy (by omega)) d_fh0_4 (e.w 240 rfl) (e.w 241 rfl) (e.w 2 rfl) (e.w 242 rfl) (by decide) np_at0 rfl (argsL := [(.ref m), (.int (n32 0)), (.ref k), (.ref n)]) (rest := []) rfl rfl (fun _ q => nomatch q) (Nat.le_of_ble_eq_true rfl) (Nat.le_of_ble_eq_true rfl) (Nat.le_of_ble_eq_true rfl) (Nat.le_of_ble_eq_true rfl) (WP.rt ?_)
    rintro _ h S0 ⟨rfl, rfl, rfl⟩
    refine Ru.ifN d_fh0_7 (show ¬ (1 : Int32) = (0 : Int32) from (by decide)) ?_
    refine Ru.aloadN d_fh0_10 rfl rfl ?_
    refine Ru.iconst (x := 1) d_fh0_11 rfl ?_
    refine WP.topI (show (1 : Int32) = (n32 1) from rfl) ?_
    refine Ru.aloadN d_fh0_12 rfl rfl ?_
    refine Ru.aloadN d_fh0_13 rfl rfl ?_
    refine Ru.callS0 (J := I_at0) (c_at0 e (i := 1) T0 T1 T2 hx hy (by omega)) d_fh0_14 (e.w 240 rfl) (e.w 241 rfl) (e.w 2 rfl) (e.w 242 rfl) (by decide) np_at0 rfl (argsL := [(.ref m), (.int (n32 1)), (.ref k), (.ref n)]) (rest := []) rfl rfl (fun _ q => nomatch q) (Nat.le_of_ble_eq_true rfl) (Nat.le_of_ble_eq_true rfl) (Nat.le_of_ble_eq_true rfl) (Nat.le_of_ble_eq_true rfl) (WP.rt ?_)
    rintro _ h S1 ⟨rfl, rfl, rfl⟩
    refine Ru.ifN d_fh0_17 (show ¬ (1 : Int32) = (0 : Int32) from (by decide)) ?_
    refine Ru.aloadN d_fh0_20 rfl rfl ?_
    refine Ru.iconst (x := 2) d_fh0_21 rfl ?_
    refine WP.topI (show (2 : Int32) = (n32 2) from rfl) ?_
    refine Ru.aloadN d_fh0_22 rfl rfl ?_
    refine Ru.aloadN d_fh0_23 rfl rfl ?_
    refine Ru.callS0 (J := I_at0) (c_at0 e (i := 2) T0 T1 T2 hx hy (by omega)) d_fh0_24 (e.w 240 rfl) (e.w 241 rfl) (e.w 2 rfl) (e.w 242 rfl) (by decide) np_at0 rfl (argsL := [(.ref m), (.int (n32 2)), (.ref k), (.ref n)]) (rest := []) rfl rfl (fun _ q => nomatch q) (Nat.le_of_ble_eq_true rfl) (Nat.le_of_ble_eq_true rfl) (Nat.le_of_ble_eq_true rfl) (Nat.le_of_ble_eq_true rfl) (WP.rt ?_)
    rintro _ h S2 ⟨rfl, rfl, rfl⟩
    refine Ru.ifN d_fh0_27 (show ¬ (1 : Int32) = (0 : Int32) from (by decide)) ?_
    refine Ru.aloadN d_fh0_30 rfl rfl ?_
    refine Ru.iconst (x := 3) d_fh0_31 rfl ?_
    refine WP.topI (show (3 : Int32) = (n32 3) from rfl) ?_
    refine Ru.aloadN d_fh0_32 rfl rfl ?_
    refine Ru.aloadN d_fh0_33 rfl rfl ?_
    refine Ru.callS0 (J := I_at0) (c_at0 e (i := 3) T0 T1 T2 hx hy (by omega)) d_fh0_34 (e.w 240 rfl) (e.w 241 rfl) (e.w 2 rfl) (e.w 242 rfl) (by decide) np_at0 rfl (argsL := [(.ref m), (.int (n32 3)), (.ref k), (.ref n)]) (rest := []) rfl rfl (fun _ q => nomatch q) (Nat.le_of_ble_eq_true rfl) (Nat.le_of_ble_eq_true rfl) (Nat.le_of_ble_eq_true rfl) (Nat.le_of_ble_eq_true rfl) (WP.rt ?_)
    rintro _ h S3 ⟨rfl, rfl, rfl⟩
    refine Ru.ifN d_fh0_37 (show ¬ (1 : Int32) = (0 : Int32) from (by decide)) ?_
    refine Ru.aloadN d_fh0_40 rfl rfl ?_
    refine Ru.iconst (x := 4) d_fh0_41 rfl ?_
    refine WP.topI (show (4 : Int32) = (n32 4) from rfl) ?_
    refine Ru.aloadN d_fh0_42 rfl rfl ?_
    refine Ru.aloadN d_fh0_43 rfl rfl ?_
    refine Ru.callSL (J := I_atA) (c_atA e (i := 4) T0 T1 T2 hx hy (by omega) (by omega)) d_fh0_44 (e.w 240 rfl) (e.w 241 rfl) (e.w 2 rfl) (e.w 242 rfl) (by decide) np_atA rfl (argsL := [(.ref m), (.int (n32 4)), (.ref k), (.ref n)]) (rest := []) rfl rfl (fun _ q => nomatch q) (Nat.le_of_ble_eq_true rfl) (Nat.le_of_ble_eq_true rfl) (Nat.le_of_ble_eq_true rfl) (Nat.le_of_ble_eq_true rfl) (WP.rt ?_)
    rintro _ k1 S4 ⟨rfl, K1, rfl⟩
    have T0 := T0.keep K1 nin0 nin0; have T1 := T1.keep K1 nin0 nin0; have T2 := T2.keep K1 nin0 nin0
    refine Ru.ifN d_fh0_47 (show ¬ (1 : Int32) = (0 : Int32) from (by decide)) ?_
    refine Ru.aloadN d_fh0_50 rfl rfl ?_
    refine Ru.iconst (x := 5) d_fh0_51 rfl ?_
    refine WP.topI (show (5 : Int32) = (n32 5) from rfl) ?_
    refine Ru.aloadN d_fh0_52 rfl rfl ?_
    refine Ru.aloadN d_fh0_53 rfl rfl ?_
    refine Ru.callS0 (J := I_atB) (c_atB e (i := 5) T0 T1 T2 hx hy (by omega) (by omega)) d_fh0_54 (e.w 240 rfl) (e.w 241 rfl) (e.w 2 rfl) (e.w 242 rfl) (by decide) np_atB rfl (argsL := [(.ref m), (.int (n32 5)), (.ref k), (.ref n)]) (rest := []) rfl rfl (fun _ q => nomatch q) (Nat.le_of_ble_eq_true rfl) (Nat.le_of_ble_eq_true rfl) (Nat.le_of_ble_eq_true rfl) (Nat.le_of_ble_eq_true rfl) (WP.rt ?_)
    rintro _ k1 S5 ⟨rfl, rfl, rfl⟩
    refine Ru.ifN d_fh0_57 (show ¬ (1 : Int32) = (0 : Int32) from (by decide)) ?_
    refine Ru.aloadN d_fh0_60 rfl rfl ?_
    refine Ru.bipush (x := 6) d_fh0_61 rfl ?_
    refine WP.topI (show (6 : Int32) = (n32 6) from rfl) ?_
    refine Ru.aloadN d_fh0_63 rfl rfl ?_
    refine Ru.aloadN d_fh0_64 rfl rfl ?_
    refine Ru.callS0 (J := I_atB) (c_atB e (i := 6) T0 T1 T2 hx hy (by omega) (by omega)) d_fh0_65 (e.w 240 rfl) (e.w 241 rfl) (e.w 2 rfl) (e.w 242 rfl) (by decide) np_atB rfl (argsL := [(.ref m), (.int (n32 6)), (.ref k), (.ref n)]) (rest := []) rfl rfl (fun _ q => nomatch q) (Nat.le_of_ble_eq_true rfl) (Nat.le_of_ble_eq_true rfl) (Nat.le_of_ble_eq_true rfl) (Nat.le_of_ble_eq_true rfl) (WP.rt ?_)
    rintro _ k1 S6 ⟨rfl, rfl, rfl⟩
    refine Ru.ifN d_fh0_68 (show ¬ (1 : Int32) = (0 : Int32) from (by decide)) ?_
    refine Ru.aloadN d_fh0_71 rfl rfl ?_
    refine Ru.bipush (x := 7) d_fh0_72 rfl ?_
    refine WP.topI (show (7 : Int32) = (n32 7) from rfl) ?_
    refine Ru.aloadN d_fh0_74 rfl rfl ?_
    refine Ru.aloadN d_fh0_75 rfl rfl ?_
    refine Ru.callS0 (J := I_atB) (c_atB e (i := 7) T0 T1 T2 hx hy (by omega) (by omega)) d_fh0_76 (e.w 240 rfl) (e.w 241 rfl) (e.w 2 rfl) (e.w 242 rfl) (by decide) np_atB rfl (argsL := [(.ref m), (.int (n32 7)), (.ref k), (.ref n)]) (rest := []) rfl rfl (fun _ q => nomatch q) (Nat.le_of_ble_eq_true rfl) (Nat.le_of_ble_eq_true rfl) (Nat.le_of_ble_eq_true rfl) (Nat.le_of_ble_eq_true rfl) (WP.rt ?_)
    rintro _ k1 S7 ⟨rfl, rfl, rfl⟩
    refine Ru.ifN d_fh0_79 (show ¬ (1 : Int32) = (0 : Int32) from (by decide)) ?_
    refine Ru.aloadN d_fh0_82 rfl rfl ?_
    refine Ru.bipush (x := 8) d_fh0_83 rfl ?_
    refine WP.topI (show (8 : Int32) = (n32 8) from rfl) ?_
    refine Ru.aloadN d_fh0_85 rfl rfl ?_
    refine Ru.aloadN d_fh0_86 rfl rfl ?_
    refine Ru.callS0 (J := I_atB) (c_atB e (i := 8) T0 T1 T2 hx hy (by omega) (by omega)) d_fh0_87 (e.w 240 rfl) (e.w 241 rfl) (e.w 2 rfl) (e.w 242 rfl) (by decide) np_atB rfl (argsL := [(.ref m), (.int (n32 8)), (.ref k), (.ref n)]) (rest := []) rfl rfl (fun _ q => nomatch q) (Nat.le_of_ble_eq_true rfl) (Nat.le_of_ble_eq_true rfl) (Nat.le_of_ble_eq_true rfl) (Nat.le_of_ble_eq_true rfl) (WP.rt ?_)
    rintro _ k1 S8 ⟨rfl, rfl, rfl⟩
    refine Ru.ifN d_fh0_90 (show ¬ (1 : Int32) = (0 : Int32) from (by decide)) ?_
    refine Ru.aloadN d_fh0_93 rfl rfl ?_
    refine Ru.bipush (x := 9) d_fh0_94 rfl ?_
    refine WP.topI (show (9 : Int32) = (n32 9) from rfl) ?_
    refine Ru.aloadN d_fh0_96 rfl rfl ?_
    refine Ru.aloadN d_fh0_97 rfl rfl ?_
    refine Ru.callS0 (J := I_atB) (c_atB e (i := 9) T0 T1 T2 hx hy (by omega) (by omega)) d_fh0_98 (e.w 240 rfl) (e.w 241 rfl) (e.w 2 rfl) (e.w 242 rfl) (by decide) np_atB rfl (argsL := [(.ref m), (.int (n32 9)), (.ref k), (.ref n)]) (rest := []) rfl rfl (fun _ q => nomatch q) (Nat.le_of_ble_eq_true rfl) (Nat.le_of_ble_eq_true rfl) (Nat.le_of_ble_eq_true rfl) (Nat.le_of_ble_eq_true rfl) (WP.rt ?_)
    rintro _ k1 S9 ⟨rfl, rfl, rfl⟩
    refine Ru.ifN d_fh0_101 (show ¬ (1 : Int32) = (0 : Int32) from (by decide)) ?_
    refine Ru.aloadN d_fh0_104 rfl rfl ?_
    refine Ru.bipush (x := 10) d_fh0_105 rfl ?_
    refine WP.topI (show (10 : Int32) = (n32 10) from rfl) ?_
    refine Ru.aloadN d_fh0_107 rfl rfl ?_
    refine Ru.aloadN d_fh0_108 rfl rfl ?_
    refine Ru.callS0 (J := I_atB) (c_atB e (i := 10) T0 T1 T2 hx hy (by omega) (by omega)) d_fh0_109 (e.w 240 rfl) (e.w 241 rfl) (e.w 2 rfl) (e.w 242 rfl) (by decide) np_atB rfl (argsL := [(.ref m), (.int (n32 10)), (.ref k), (.ref n)]) (rest := []) rfl rfl (fun _ q => nomatch q) (Nat.le_of_ble_eq_true rfl) (Nat.le_of_ble_eq_true rfl) (Nat.le_of_ble_eq_true rfl) (Nat.le_of_ble_eq_true rfl) (WP.rt ?_)
    rintro _ k1 S10 ⟨rfl, rfl, rfl⟩
    refine Ru.ifN d_fh0_112 (show ¬ (1 : Int32) = (0 : Int32) from (by decide)) ?_
    refine Ru.aloadN d_fh0_115 rfl rfl ?_
    refine Ru.bipush (x := 11) d_fh0_116 rfl ?_
    refine WP.topI (show (11 : Int32) = (n32 11) from rfl) ?_
    refine Ru.aloadN d_fh0_118 rfl rfl ?_
    refine Ru.aloadN d_fh0_119 rfl rfl ?_
    refine Ru.callS0 (J := I_atB) (c_atB e (i := 11) T0 T1 T2 hx hy (by omega) (by omega)) d_fh0_120 (e.w 240 rfl) (e.w 241 rfl) (e.w 2 rfl) (e.w 242 rfl) (by decide) np_atB rfl (argsL := [(.ref m), (.int (n32 11)), (.ref k), (.ref n)]) (rest := []) rfl rfl (fun _ q => nomatch q) (Nat.le_of_ble_eq_true rfl) (Nat.le_of_ble_eq_true rfl) (Nat.le_of_ble_eq_true rfl) (Nat.le_of_ble_eq_true rfl) (WP.rt ?_)
    rintro _ k1 S11 ⟨rfl, rfl, rfl⟩
    refine Ru.ifN d_fh0_123 (show ¬ (1 : Int32) = (0 : Int32) from (by decide)) ?_
    refine Ru.iconst (x := 1) d_fh0_126 rfl ?_
    refine Ru.goto d_fh0_127 ?_
    exact Ru.ireturnN (t := .boolean) (x' := (1 : Int32)) d_fh0_131 rfl (by simp) rfl [] (fun _ q => nomatch q) (Nat.le_of_ble_eq_true rfl) (Nat.le_of_ble_eq_true rfl) ⟨_, rfl, rfl, K1, rfl⟩
  · refine Ru.aloadN d_fh0_0 rfl rfl ?_
    refine Ru.iconst (x := 0) d_fh0_1 rfl ?_
    refine WP.topI (show (0 : Int32) = (n32 0) from rfl) ?_
    refine Ru.aloadN d_fh0_2 rfl rfl ?_
    refine Ru.aloadN d_fh0_3 rfl rfl ?_
    refine Ru.callS0 (J := I_at0) (c_at0 e (i := 0) T0 T1 T2 hx hy (by omega)) d_fh0_4 (e.w 240 rfl) (e.w 241 rfl) (e.w 2 rfl) (e.w 242 rfl) (by decide) np_at0 rfl (argsL := [(.ref m), (.int (n32 0)), (.ref k), (.ref n)]) (rest := []) rfl rfl (fun _ q => nomatch q) (Nat.le_of_ble_eq_true rfl) (Nat.le_of_ble_eq_true rfl) (Nat.le_of_ble_eq_true rfl) (Nat.le_of_ble_eq_true rfl) (WP.rt ?_)
    rintro _ h S0 ⟨rfl, rfl, rfl⟩
    refine Ru.ifN d_fh0_7 (show ¬ (1 : Int32) = (0 : Int32) from (by decide)) ?_
    refine Ru.aloadN d_fh0_10 rfl rfl ?_
    refine Ru.iconst (x := 1) d_fh0_11 rfl ?_
    refine WP.topI (show (1 : Int32) = (n32 1) from rfl) ?_
    refine Ru.aloadN d_fh0_12 rfl rfl ?_
    refine Ru.aloadN d_fh0_13 rfl rfl ?_
    refine Ru.callS0 (J := I_at0) (c_at0 e (i := 1) T0 T1 T2 hx hy (by omega)) d_fh0_14 (e.w 240 rfl) (e.w 241 rfl) (e.w 2 rfl) (e.w 242 rfl) (by decide) np_at0 rfl (argsL := [(.ref m), (.int (n32 1)), (.ref k), (.ref n)]) (rest := []) rfl rfl (fun _ q => nomatch q) (Nat.le_of_ble_eq_true rfl) (Nat.le_of_ble_eq_true rfl) (Nat.le_of_ble_eq_true rfl) (Nat.le_of_ble_eq_true rfl) (WP.rt ?_)
    rintro _ h S1 ⟨rfl, rfl, rfl⟩
    refine Ru.ifN d_fh0_17 (show ¬ (1 : Int32) = (0 : Int32) from (by decide)) ?_
    refine Ru.aloadN d_fh0_20 rfl rfl ?_
    refine Ru.iconst (x := 2) d_fh0_21 rfl ?_
    refine WP.topI (show (2 : Int32) = (n32 2) from rfl) ?_
    refine Ru.aloadN d_fh0_22 rfl rfl ?_
    refine Ru.aloadN d_fh0_23 rfl rfl ?_
    refine Ru.callS0 (J := I_at0) (c_at0 e (i := 2) T0 T1 T2 hx hy (by omega)) d_fh0_24 (e.w 240 rfl) (e.w 241 rfl) (e.w 2 rfl) (e.w 242 rfl) (by decide) np_at0 rfl (argsL := [(.ref m), (.int (n32 2)), (.ref k), (.ref n)]) (rest := []) rfl rfl (fun _ q => nomatch q) (Nat.le_of_ble_eq_true rfl) (Nat.le_of_ble_eq_true rfl) (Nat.le_of_ble_eq_true rfl) (Nat.le_of_ble_eq_true rfl) (WP.rt ?_)
    rintro _ h S2 ⟨rfl, rfl, rfl⟩
    refine Ru.ifN d_fh0_27 (show ¬ (1 : Int32) = (0 : Int32) from (by decide)) ?_
    refine Ru.aloadN d_fh0_30 rfl rfl ?_
    refine Ru.iconst (x := 3) d_fh0_31 rfl ?_
    refine WP.topI (show (3 : Int32) = (n32 3) from rfl) ?_
    refine Ru.aloadN d_fh0_32 rfl rfl ?_
    refine Ru.aloadN d_fh0_33 rfl rfl ?_
    refine Ru.callS0 (J := I_at0) (c_at0 e (i := 3) T0 T1 T2 hx hy (by omega)) d_fh0_34 (e.w 240 rfl) (e.w 241 rfl) (e.w 2 rfl) (e.w 242 rfl) (by decide) np_at0 rfl (argsL := [(.ref m), (.int (n32 3)), (.ref k), (.ref n)]) (rest := []) rfl rfl (fun _ q => nomatch q) (Nat.le_of_ble_eq_true rfl) (Nat.le_of_ble_eq_true rfl) (Nat.le_of_ble_eq_true rfl) (Nat.le_of_ble_eq_true rfl) (WP.rt ?_)
    rintro _ h S3 ⟨rfl, rfl, rfl⟩
    refine Ru.ifN d_fh0_37 (show ¬ (1 : Int32) = (0 : Int32) from (by decide)) ?_
    refine Ru.aloadN d_fh0_40 rfl rfl ?_
    refine Ru.iconst (x := 4) d_fh0_41 rfl ?_
    refine WP.topI (show (4 : Int32) = (n32 4) from rfl) ?_
    refine Ru.aloadN d_fh0_42 rfl rfl ?_
    refine Ru.aloadN d_fh0_43 rfl rfl ?_
    refine Ru.callS0 (J := I_at0) (c_at0 e (i := 4) T0 T1 T2 hx hy (by omega)) d_fh0_44 (e.w 240 rfl) (e.w 241 rfl) (e.w 2 rfl) (e.w 242 rfl) (by decide) np_at0 rfl (argsL := [(.ref m), (.int (n32 4)), (.ref k), (.ref n)]) (rest := []) rfl rfl (fun _ q => nomatch q) (Nat.le_of_ble_eq_true rfl) (Nat.le_of_ble_eq_true rfl) (Nat.le_of_ble_eq_true rfl) (Nat.le_of_ble_eq_true rfl) (WP.rt ?_)
    rintro _ h S4 ⟨rfl, rfl, rfl⟩
    refine Ru.ifN d_fh0_47 (show ¬ (1 : Int32) = (0 : Int32) from (by decide)) ?_
    refine Ru.aloadN d_fh0_50 rfl rfl ?_
    refine Ru.iconst (x := 5) d_fh0_51 rfl ?_
    refine WP.topI (show (5 : Int32) = (n32 5) from rfl) ?_
    refine Ru.aloadN d_fh0_52 rfl rfl ?_
    refine Ru.aloadN d_fh0_53 rfl rfl ?_
    refine Ru.callSL (J := I_atA) (c_atA e (i := 5) T0 T1 T2 hx hy (by omega) (by omega)) d_fh0_54 (e.w 240 rfl) (e.w 241 rfl) (e.w 2 rfl) (e.w 242 rfl) (by decide) np_atA rfl (argsL := [(.ref m), (.int (n32 5)), (.ref k), (.ref n)]) (rest := []) rfl rfl (fun _ q => nomatch q) (Nat.le_of_ble_eq_true rfl) (Nat.le_of_ble_eq_true rfl) (Nat.le_of_ble_eq_true rfl) (Nat.le_of_ble_eq_true rfl) (WP.rt ?_)
    rintro _ k1 S5 ⟨rfl, K1, rfl⟩
    have T0 := T0.keep K1 nin0 nin0; have T1 := T1.keep K1 nin0 nin0; have T2 := T2.keep K1 nin0 nin0
    refine Ru.ifN d_fh0_57 (show ¬ (1 : Int32) = (0 : Int32) from (by decide)) ?_
    refine Ru.aloadN d_fh0_60 rfl rfl ?_
    refine Ru.bipush (x := 6) d_fh0_61 rfl ?_
    refine WP.topI (show (6 : Int32) = (n32 6) from rfl) ?_
    refine Ru.aloadN d_fh0_63 rfl rfl ?_
    refine Ru.aloadN d_fh0_64 rfl rfl ?_
    refine Ru.callS0 (J := I_atB) (c_atB e (i := 6) T0 T1 T2 hx hy (by omega) (by omega)) d_fh0_65 (e.w 240 rfl) (e.w 241 rfl) (e.w 2 rfl) (e.w 242 rfl) (by decide) np_atB rfl (argsL := [(.ref m), (.int (n32 6)), (.ref k), (.ref n)]) (rest := []) rfl rfl (fun _ q => nomatch q) (Nat.le_of_ble_eq_true rfl) (Nat.le_of_ble_eq_true rfl) (Nat.le_of_ble_eq_true rfl) (Nat.le_of_ble_eq_true rfl) (WP.rt ?_)
    rintro _ k1 S6 ⟨rfl, rfl, rfl⟩
    refine Ru.ifN d_fh0_68 (show ¬ (1 : Int32) = (0 : Int32) from (by decide)) ?_
    refine Ru.aloadN d_fh0_71 rfl rfl ?_
    refine Ru.bipush (x := 7) d_fh0_72 rfl ?_
    refine WP.topI (show (7 : Int32) = (n32 7) from rfl) ?_
    refine Ru.aloadN d_fh0_74 rfl rfl ?_
    refine Ru.aloadN d_fh0_75 rfl rfl ?_
    refine Ru.callS0 (J := I_atB) (c_atB e (i := 7) T0 T1 T2 hx hy (by omega) (by omega)) d_fh0_76 (e.w 240 rfl) (e.w 241 rfl) (e.w 2 rfl) (e.w 242 rfl) (by decide) np_atB rfl (argsL := [(.ref m), (.int (n32 7)), (.ref k), (.ref n)]) (rest := []) rfl rfl (fun _ q => nomatch q) (Nat.le_of_ble_eq_true rfl) (Nat.le_of_ble_eq_true rfl) (Nat.le_of_ble_eq_true rfl) (Nat.le_of_ble_eq_true rfl) (WP.rt ?_)
    rintro _ k1 S7 ⟨rfl, rfl, rfl⟩
    refine Ru.ifN d_fh0_79 (show ¬ (1 : Int32) = (0 : Int32) from (by decide)) ?_
    refine Ru.aloadN d_fh0_82 rfl rfl ?_
    refine Ru.bipush (x := 8) d_fh0_83 rfl ?_
    refine WP.topI (show (8 : Int32) = (n32 8) from rfl) ?_
    refine Ru.aloadN d_fh0_85 rfl rfl ?_
    refine Ru.aloadN d_fh0_86 rfl rfl ?_
    refine Ru.callS0 (J := I_atB) (c_atB e (i := 8) T0 T1 T2 hx hy (by omega) (by omega)) d_fh0_87 (e.w 240 rfl) (e.w 241 rfl) (e.w 2 rfl) (e.w 242 rfl) (by decide) np_atB rfl (argsL := [(.ref m), (.int (n32 8)), (.ref k), (.ref n)]) (rest := []) rfl rfl (fun _ q => nomatch q) (Nat.le_of_ble_eq_true rfl) (Nat.le_of_ble_eq_true rfl) (Nat.le_of_ble_eq_true rfl) (Nat.le_of_ble_eq_true rfl) (WP.rt ?_)
    rintro _ k1 S8 ⟨rfl, rfl, rfl⟩
    refine Ru.ifN d_fh0_90 (show ¬ (1 : Int32) = (0 : Int32) from (by decide)) ?_
    refine Ru.aloadN d_fh0_93 rfl rfl ?_
    refine Ru.bipush (x := 9) d_fh0_94 rfl ?_
    refine WP.topI (show (9 : Int32) = (n32 9) from rfl) ?_
    refine Ru.aloadN d_fh0_96 rfl rfl ?_
    refine Ru.aloadN d_fh0_97 rfl rfl ?_
    refine Ru.callS0 (J := I_atB) (c_atB e (i := 9) T0 T1 T2 hx hy (by omega) (by omega)) d_fh0_98 (e.w 240 rfl) (e.w 241 rfl) (e.w 2 rfl) (e.w 242 rfl) (by decide) np_atB rfl (argsL := [(.ref m), (.int (n32 9)), (.ref k), (.ref n)]) (rest := []) rfl rfl (fun _ q => nomatch q) (Nat.le_of_ble_eq_true rfl) (Nat.le_of_ble_eq_true rfl) (Nat.le_of_ble_eq_true rfl) (Nat.le_of_ble_eq_true rfl) (WP.rt ?_)
    rintro _ k1 S9 ⟨rfl, rfl, rfl⟩
    refine Ru.ifN d_fh0_101 (show ¬ (1 : Int32) = (0 : Int32) from (by decide)) ?_
    refine Ru.aloadN d_fh0_104 rfl rfl ?_
    refine Ru.bipush (x := 10) d_fh0_105 rfl ?_
    refine WP.topI (show (10 : Int32) = (n32 10) from rfl) ?_
    refine Ru.aloadN d_fh0_107 rfl rfl ?_
    refine Ru.aloadN d_fh0_108 rfl rfl ?_
    refine Ru.callS0 (J := I_atB) (c_atB e (i := 10) T0 T1 T2 hx hy (by omega) (by omega)) d_fh0_109 (e.w 240 rfl) (e.w 241 rfl) (e.w 2 rfl) (e.w 242 rfl) (by decide) np_atB rfl (argsL := [(.ref m), (.int (n32 10)), (.ref k), (.ref n)]) (rest := []) rfl rfl (fun _ q => nomatch q) (Nat.le_of_ble_eq_true rfl) (Nat.le_of_ble_eq_true rfl) (Nat.le_of_ble_eq_true rfl) (Nat.le_of_ble_eq_true rfl) (WP.rt ?_)
    rintro _ k1 S10 ⟨rfl, rfl, rfl⟩
    refine Ru.ifN d_fh0_112 (show ¬ (1 : Int32) = (0 : Int32) from (by decide)) ?_
    refine Ru.aloadN d_fh0_115 rfl rfl ?_
    refine Ru.bipush (x := 11) d_fh0_116 rfl ?_
    refine WP.topI (show (11 : Int32) = (n32 11) from rfl) ?_
    refine Ru.aloadN d_fh0_118 rfl rfl ?_
    refine Ru.aloadN d_fh0_119 rfl rfl ?_
    refine Ru.callS0 (J := I_atB) (c_atB e (i := 11) T0 T1 T2 hx hy (by omega) (by omega)) d_fh0_120 (e.w 240 rfl) (e.w 241 rfl) (e.w 2 rfl) (e.w 242 rfl) (by decide) np_atB rfl (argsL := [(.ref m), (.int (n32 11)), (.ref k), (.ref n)]) (rest := []) rfl rfl (fun _ q => nomatch q) (Nat.le_of_ble_eq_true rfl) (Nat.le_of_ble_eq_true rfl) (Nat.le_of_ble_eq_true rfl) (Nat.le_of_ble_eq_true rfl) (WP.rt ?_)
    rintro _ k1 S11 ⟨rfl, rfl, rfl⟩
    refine Ru.ifN d_fh0_123 (show ¬ (1 : Int32) = (0 : Int32) from (by decide)) ?_
    refine Ru.iconst (x := 1) d_fh0_126 rfl ?_
    refine Ru.goto d_fh0_127 ?_
    exact Ru.ireturnN (t := .boolean) (x' := (1 : Int32)) d_fh0_131 rfl (by simp) rfl [] (fun _ q => nomatch q) (Nat.le_of_ble_eq_true rfl) (Nat.le_of_ble_eq_true rfl) ⟨_, rfl, rfl, K1, rfl⟩
  · refine Ru.aloadN d_fh0_0 rfl rfl ?_
    refine Ru.iconst (x := 0) d_fh0_1 rfl ?_
    refine WP.topI (show (0 : Int32) = (n32 0) from rfl) ?_
    refine Ru.aloadN d_fh0_2 rfl rfl ?_
    refine Ru.aloadN d_fh0_3 rfl rfl ?_
    refine Ru.callS0 (J := I_at0) (c_at0 e (i := 0) T0 T1 T2 hx hy (by omega)) d_fh0_4 (e.w 240 rfl) (e.w 241 rfl) (e.w 2 rfl) (e.w 242 rfl) (by decide) np_at0 rfl (argsL := [(.ref m), (.int (n32 0)), (.ref k), (.ref n)]) (rest := []) rfl rfl (fun _ q => nomatch q) (Nat.le_of_ble_eq_true rfl) (Nat.le_of_ble_eq_true rfl) (Nat.le_of_ble_eq_true rfl) (Nat.le_of_ble_eq_true rfl) (WP.rt ?_)
    rintro _ h S0 ⟨rfl, rfl, rfl⟩
    refine Ru.ifN d_fh0_7 (show ¬ (1 : Int32) = (0 : Int32) from (by decide)) ?_
    refine Ru.aloadN d_fh0_10 rfl rfl ?_
    refine Ru.iconst (x := 1) d_fh0_11 rfl ?_
    refine WP.topI (show (1 : Int32) = (n32 1) from rfl) ?_
    refine Ru.aloadN d_fh0_12 rfl rfl ?_
    refine Ru.aloadN d_fh0_13 rfl rfl ?_
    refine Ru.callS0 (J := I_at0) (c_at0 e (i := 1) T0 T1 T2 hx hy (by omega)) d_fh0_14 (e.w 240 rfl) (e.w 241 rfl) (e.w 2 rfl) (e.w 242 rfl) (by decide) np_at0 rfl (argsL := [(.ref m), (.int (n32 1)), (.ref k), (.ref n)]) (rest := []) rfl rfl (fun _ q => nomatch q) (Nat.le_of_ble_eq_true rfl) (Nat.le_of_ble_eq_true rfl) (Nat.le_of_ble_eq_true rfl) (Nat.le_of_ble_eq_true rfl) (WP.rt ?_)
    rintro _ h S1 ⟨rfl, rfl, rfl⟩
    refine Ru.ifN d_fh0_17 (show ¬ (1 : Int32) = (0 : Int32) from (by decide)) ?_
    refine Ru.aloadN d_fh0_20 rfl rfl ?_
    refine Ru.iconst (x := 2) d_fh0_21 rfl ?_
    refine WP.topI (show (2 : Int32) = (n32 2) from rfl) ?_
    refine Ru.aloadN d_fh0_22 rfl rfl ?_
    refine Ru.aloadN d_fh0_23 rfl rfl ?_
    refine Ru.callS0 (J := I_at0) (c_at0 e (i := 2) T0 T1 T2 hx hy (by omega)) d_fh0_24 (e.w 240 rfl) (e.w 241 rfl) (e.w 2 rfl) (e.w 242 rfl) (by decide) np_at0 rfl (argsL := [(.ref m), (.int (n32 2)), (.ref k), (.ref n)]) (rest := []) rfl rfl (fun _ q => nomatch q) (Nat.le_of_ble_eq_true rfl) (Nat.le_of_ble_eq_true rfl) (Nat.le_of_ble_eq_true rfl) (Nat.le_of_ble_eq_true rfl) (WP.rt ?_)
    rintro _ h S2 ⟨rfl, rfl, rfl⟩
    refine Ru.ifN d_fh0_27 (show ¬ (1 : Int32) = (0 : Int32) from (by decide)) ?_
    refine Ru.aloadN d_fh0_30 rfl rfl ?_
    refine Ru.iconst (x := 3) d_fh0_31 rfl ?_
    refine WP.topI (show (3 : Int32) = (n32 3) from rfl) ?_
    refine Ru.aloadN d_fh0_32 rfl rfl ?_
    refine Ru.aloadN d_fh0_33 rfl rfl ?_
    refine Ru.callS0 (J := I_at0) (c_at0 e (i := 3) T0 T1 T2 hx hy (by omega)) d_fh0_34 (e.w 240 rfl) (e.w 241 rfl) (e.w 2 rfl) (e.w 242 rfl) (by decide) np_at0 rfl (argsL := [(.ref m), (.int (n32 3)), (.ref k), (.ref n)]) (rest := []) rfl rfl (fun _ q => nomatch q) (Nat.le_of_ble_eq_true rfl) (Nat.le_of_ble_eq_true rfl) (Nat.le_of_ble_eq_true rfl) (Nat.le_of_ble_eq_true rfl) (WP.rt ?_)
    rintro _ h S3 ⟨rfl, rfl, rfl⟩
    refine Ru.ifN d_fh0_37 (show ¬ (1 : Int32) = (0 : Int32) from (by decide)) ?_
    refine Ru.aloadN d_fh0_40 rfl rfl ?_
    refine Ru.iconst (x := 4) d_fh0_41 rfl ?_
    refine WP.topI (show (4 : Int32) = (n32 4) from rfl) ?_
    refine Ru.aloadN d_fh0_42 rfl rfl ?_
    refine Ru.aloadN d_fh0_43 rfl rfl ?_
    refine Ru.callS0 (J := I_at0) (c_at0 e (i := 4) T0 T1 T2 hx hy (by omega)) d_fh0_44 (e.w 240 rfl) (e.w 241 rfl) (e.w 2 rfl) (e.w 242 rfl) (by decide) np_at0 rfl (argsL := [(.ref m), (.int (n32 4)), (.ref k), (.ref n)]) (rest := []) rfl rfl (fun _ q => nomatch q) (Nat.le_of_ble_eq_true rfl) (Nat.le_of_ble_eq_true rfl) (Nat.le_of_ble_eq_true rfl) (Nat.le_of_ble_eq_true rfl) (WP.rt ?_)
    rintro _ h S4 ⟨rfl, rfl, rfl⟩
    refine Ru.ifN d_fh0_47 (show ¬ (1 : Int32) = (0 : Int32) from (by decide)) ?_
    refine Ru.aloadN d_fh0_50 rfl rfl ?_
    refine Ru.iconst (x := 5) d_fh0_51 rfl ?_
    refine WP.topI (show (5 : Int32) = (n32 5) from rfl) ?_
    refine Ru.aloadN d_fh0_52 rfl rfl ?_
    refine Ru.aloadN d_fh0_53 rfl rfl ?_
    refine Ru.callS0 (J := I_at0) (c_at0 e (i := 5) T0 T1 T2 hx hy (by omega)) d_fh0_54 (e.w 240 rfl) (e.w 241 rfl) (e.w 2 rfl) (e.w 242 rfl) (by decide) np_at0 rfl (argsL := [(.ref m), (.int (n32 5)), (.ref k), (.ref n)]) (rest := []) rfl rfl (fun _ q => nomatch q) (Nat.le_of_ble_eq_true rfl) (Nat.le_of_ble_eq_true rfl) (Nat.le_of_ble_eq_true rfl) (Nat.le_of_ble_eq_true rfl) (WP.rt ?_)
    rintro _ h S5 ⟨rfl, rfl, rfl⟩
    refine Ru.ifN d_fh0_57 (show ¬ (1 : Int32) = (0 : Int32) from (by decide)) ?_
    refine Ru.aloadN d_fh0_60 rfl rfl ?_
    refine Ru.bipush (x := 6) d_fh0_61 rfl ?_
    refine WP.topI (show (6 : Int32) = (n32 6) from rfl) ?_
    refine Ru.aloadN d_fh0_63 rfl rfl ?_
    refine Ru.aloadN d_fh0_64 rfl rfl ?_
    refine Ru.callSL (J := I_atA) (c_atA e (i := 6) T0 T1 T2 hx hy (by omega) (by omega)) d_fh0_65 (e.w 240 rfl) (e.w 241 rfl) (e.w 2 rfl) (e.w 242 rfl) (by decide) np_atA rfl (argsL := [(.ref m), (.int (n32 6)), (.ref k), (.ref n)]) (rest := []) rfl rfl (fun _ q => nomatch q) (Nat.le_of_ble_eq_true rfl) (Nat.le_of_ble_eq_true rfl) (Nat.le_of_ble_eq_true rfl) (Nat.le_of_ble_eq_true rfl) (WP.rt ?_)
    rintro _ k1 S6 ⟨rfl, K1, rfl⟩
    have T0 := T0.keep K1 nin0 nin0; have T1 := T1.keep K1 nin0 nin0; have T2 := T2.keep K1 nin0 nin0
    refine Ru.ifN d_fh0_68 (show ¬ (1 : Int32) = (0 : Int32) from (by decide)) ?_
    refine Ru.aloadN d_fh0_71 rfl rfl ?_
    refine Ru.bipush (x := 7) d_fh0_72 rfl ?_
    refine WP.topI (show (7 : Int32) = (n32 7) from rfl) ?_
    refine Ru.aloadN d_fh0_74 rfl rfl ?_
    refine Ru.aloadN d_fh0_75 rfl rfl ?_
    refine Ru.callS0 (J := I_atB) (c_atB e (i := 7) T0 T1 T2 hx hy (by omega) (by omega)) d_fh0_76 (e.w 240 rfl) (e.w 241 rfl) (e.w 2 rfl) (e.w 242 rfl) (by decide) np_atB rfl (argsL := [(.ref m), (.int (n32 7)), (.ref k), (.ref n)]) (rest := []) rfl rfl (fun _ q => nomatch q) (Nat.le_of_ble_eq_true rfl) (Nat.le_of_ble_eq_true rfl) (Nat.le_of_ble_eq_true rfl) (Nat.le_of_ble_eq_true rfl) (WP.rt ?_)
    rintro _ k1 S7 ⟨rfl, rfl, rfl⟩
    refine Ru.ifN d_fh0_79 (show ¬ (1 : Int32) = (0 : Int32) from (by decide)) ?_
    refine Ru.aloadN d_fh0_82 rfl rfl ?_
    refine Ru.bipush (x := 8) d_fh0_83 rfl ?_
    refine WP.topI (show (8 : Int32) = (n32 8) from rfl) ?_
    refine Ru.aloadN d_fh0_85 rfl rfl ?_
    refine Ru.aloadN d_fh0_86 rfl rfl ?_
    refine Ru.callS0 (J := I_atB) (c_atB e (i := 8) T0 T1 T2 hx hy (by omega) (by omega)) d_fh0_87 (e.w 240 rfl) (e.w 241 rfl) (e.w 2 rfl) (e.w 242 rfl) (by decide) np_atB rfl (argsL := [(.ref m), (.int (n32 8)), (.ref k), (.ref n)]) (rest := []) rfl rfl (fun _ q => nomatch q) (Nat.le_of_ble_eq_true rfl) (Nat.le_of_ble_eq_true rfl) (Nat.le_of_ble_eq_true rfl) (Nat.le_of_ble_eq_true rfl) (WP.rt ?_)
    rintro _ k1 S8 ⟨rfl, rfl, rfl⟩
    refine Ru.ifN d_fh0_90 (show ¬ (1 : Int32) = (0 : Int32) from (by decide)) ?_
    refine Ru.aloadN d_fh0_93 rfl rfl ?_
    refine Ru.bipush (x := 9) d_fh0_94 rfl ?_
    refine WP.topI (show (9 : Int32) = (n32 9) from rfl) ?_
    refine Ru.aloadN d_fh0_96 rfl rfl ?_
    refine Ru.aloadN d_fh0_97 rfl rfl ?_
    refine Ru.callS0 (J := I_atB) (c_atB e (i := 9) T0 T1 T2 hx hy (by omega) (by omega)) d_fh0_98 (e.w 240 rfl) (e.w 241 rfl) (e.w 2 rfl) (e.w 242 rfl) (by decide) np_atB rfl (argsL := [(.ref m), (.int (n32 9)), (.ref k), (.ref n)]) (rest := []) rfl rfl (fun _ q => nomatch q) (Nat.le_of_ble_eq_true rfl) (Nat.le_of_ble_eq_true rfl) (Nat.le_of_ble_eq_true rfl) (Nat.le_of_ble_eq_true rfl) (WP.rt ?_)
    rintro _ k1 S9 ⟨rfl, rfl, rfl⟩
    refine Ru.ifN d_fh0_101 (show ¬ (1 : Int32) = (0 : Int32) from (by decide)) ?_
    refine Ru.aloadN d_fh0_104 rfl rfl ?_
    refine Ru.bipush (x := 10) d_fh0_105 rfl ?_
    refine WP.topI (show (10 : Int32) = (n32 10) from rfl) ?_
    refine Ru.aloadN d_fh0_107 rfl rfl ?_
    refine Ru.aloadN d_fh0_108 rfl rfl ?_
    refine Ru.callS0 (J := I_atB) (c_atB e (i := 10) T0 T1 T2 hx hy (by omega) (by omega)) d_fh0_109 (e.w 240 rfl) (e.w 241 rfl) (e.w 2 rfl) (e.w 242 rfl) (by decide) np_atB rfl (argsL := [(.ref m), (.int (n32 10)), (.ref k), (.ref n)]) (rest := []) rfl rfl (fun _ q => nomatch q) (Nat.le_of_ble_eq_true rfl) (Nat.le_of_ble_eq_true rfl) (Nat.le_of_ble_eq_true rfl) (Nat.le_of_ble_eq_true rfl) (WP.rt ?_)
    rintro _ k1 S10 ⟨rfl, rfl, rfl⟩
    refine Ru.ifN d_fh0_112 (show ¬ (1 : Int32) = (0 : Int32) from (by decide)) ?_
    refine Ru.aloadN d_fh0_115 rfl rfl ?_
    refine Ru.bipush (x := 11) d_fh0_116 rfl ?_
    refine WP.topI (show (11 : Int32) = (n32 11) from rfl) ?_
    refine Ru.aloadN d_fh0_118 rfl rfl ?_
    refine Ru.aloadN d_fh0_119 rfl rfl ?_
    refine Ru.callS0 (J := I_atB) (c_atB e (i := 11) T0 T1 T2 hx hy (by omega) (by omega)) d_fh0_120 (e.w 240 rfl) (e.w 241 rfl) (e.w 2 rfl) (e.w 242 rfl) (by decide) np_atB rfl (argsL := [(.ref m), (.int (n32 11)), (.ref k), (.ref n)]) (rest := []) rfl rfl (fun _ q => nomatch q) (Nat.le_of_ble_eq_true rfl) (Nat.le_of_ble_eq_true rfl) (Nat.le_of_ble_eq_true rfl) (Nat.le_of_ble_eq_true rfl) (WP.rt ?_)
    rintro _ k1 S11 ⟨rfl, rfl, rfl⟩
    refine Ru.ifN d_fh0_123 (show ¬ (1 : Int32) = (0 : Int32) from (by decide)) ?_
    refine Ru.iconst (x := 1) d_fh0_126 rfl ?_
    refine Ru.goto d_fh0_127 ?_
    exact Ru.ireturnN (t := .boolean) (x' := (1 : Int32)) d_fh0_131 rfl (by simp) rfl [] (fun _ q => nomatch q) (Nat.le_of_ble_eq_true rfl) (Nat.le_of_ble_eq_true rfl) ⟨_, rfl, rfl, K1, rfl⟩
  · refine Ru.aloadN d_fh0_0 rfl rfl ?_
    refine Ru.iconst (x := 0) d_fh0_1 rfl ?_
    refine WP.topI (show (0 : Int32) = (n32 0) from rfl) ?_
    refine Ru.aloadN d_fh0_2 rfl rfl ?_
    refine Ru.aloadN d_fh0_3 rfl rfl ?_
    refine Ru.callS0 (J := I_at0) (c_at0 e (i := 0) T0 T1 T2 hx hy (by omega)) d_fh0_4 (e.w 240 rfl) (e.w 241 rfl) (e.w 2 rfl) (e.w 242 rfl) (by decide) np_at0 rfl (argsL := [(.ref m), (.int (n32 0)), (.ref k), (.ref n)]) (rest := []) rfl rfl (fun _ q => nomatch q) (Nat.le_of_ble_eq_true rfl) (Nat.le_of_ble_eq_true rfl) (Nat.le_of_ble_eq_true rfl) (Nat.le_of_ble_eq_true rfl) (WP.rt ?_)
    rintro _ h S0 ⟨rfl, rfl, rfl⟩
    refine Ru.ifN d_fh0_7 (show ¬ (1 : Int32) = (0 : Int32) from (by decide)) ?_
    refine Ru.aloadN d_fh0_10 rfl rfl ?_
    refine Ru.iconst (x := 1) d_fh0_11 rfl ?_
    refine WP.topI (show (1 : Int32) = (n32 1) from rfl) ?_
    refine Ru.aloadN d_fh0_12 rfl rfl ?_
    refine Ru.aloadN d_fh0_13 rfl rfl ?_
    refine Ru.callS0 (J := I_at0) (c_at0 e (i := 1) T0 T1 T2 hx hy (by omega)) d_fh0_14 (e.w 240 rfl) (e.w 241 rfl) (e.w 2 rfl) (e.w 242 rfl) (by decide) np_at0 rfl (argsL := [(.ref m), (.int (n32 1)), (.ref k), (.ref n)]) (rest := []) rfl rfl (fun _ q => nomatch q) (Nat.le_of_ble_eq_true rfl) (Nat.le_of_ble_eq_true rfl) (Nat.le_of_ble_eq_true rfl) (Nat.le_of_ble_eq_true rfl) (WP.rt ?_)
    rintro _ h S1 ⟨rfl, rfl, rfl⟩
    refine Ru.ifN d_fh0_17 (show ¬ (1 : Int32) = (0 : Int32) from (by decide)) ?_
    refine Ru.aloadN d_fh0_20 rfl rfl ?_
    refine Ru.iconst (x := 2) d_fh0_21 rfl ?_
    refine WP.topI (show (2 : Int32) = (n32 2) from rfl) ?_
    refine Ru.aloadN d_fh0_22 rfl rfl ?_
    refine Ru.aloadN d_fh0_23 rfl rfl ?_
    refine Ru.callS0 (J := I_at0) (c_at0 e (i := 2) T0 T1 T2 hx hy (by omega)) d_fh0_24 (e.w 240 rfl) (e.w 241 rfl) (e.w 2 rfl) (e.w 242 rfl) (by decide) np_at0 rfl (argsL := [(.ref m), (.int (n32 2)), (.ref k), (.ref n)]) (rest := []) rfl rfl (fun _ q => nomatch q) (Nat.le_of_ble_eq_true rfl) (Nat.le_of_ble_eq_true rfl) (Nat.le_of_ble_eq_true rfl) (Nat.le_of_ble_eq_true rfl) (WP.rt ?_)
    rintro _ h S2 ⟨rfl, rfl, rfl⟩
    refine Ru.ifN d_fh0_27 (show ¬ (1 : Int32) = (0 : Int32) from (by decide)) ?_
    refine Ru.aloadN d_fh0_30 rfl rfl ?_
    refine Ru.iconst (x := 3) d_fh0_31 rfl ?_
    refine WP.topI (show (3 : Int32) = (n32 3) from rfl) ?_
    refine Ru.aloadN d_fh0_32 rfl rfl ?_
    refine Ru.aloadN d_fh0_33 rfl rfl ?_
    refine Ru.callS0 (J := I_at0) (c_at0 e (i := 3) T0 T1 T2 hx hy (by omega)) d_fh0_34 (e.w 240 rfl) (e.w 241 rfl) (e.w 2 rfl) (e.w 242 rfl) (by decide) np_at0 rfl (argsL := [(.ref m), (.int (n32 3)), (.ref k), (.ref n)]) (rest := []) rfl rfl (fun _ q => nomatch q) (Nat.le_of_ble_eq_true rfl) (Nat.le_of_ble_eq_true rfl) (Nat.le_of_ble_eq_true rfl) (Nat.le_of_ble_eq_true rfl) (WP.rt ?_)
    rintro _ h S3 ⟨rfl, rfl, rfl⟩
    refine Ru.ifN d_fh0_37 (show ¬ (1 : Int32) = (0 : Int32) from (by decide)) ?_
    refine Ru.aloadN d_fh0_40 rfl rfl ?_
    refine Ru.iconst (x := 4) d_fh0_41 rfl ?_
    refine WP.topI (show (4 : Int32) = (n32 4) from rfl) ?_
    refine Ru.aloadN d_fh0_42 rfl rfl ?_
    refine Ru.aloadN d_fh0_43 rfl rfl ?_
    refine Ru.callS0 (J := I_at0) (c_at0 e (i := 4) T0 T1 T2 hx hy (by omega)) d_fh0_44 (e.w 240 rfl) (e.w 241 rfl) (e.w 2 rfl) (e.w 242 rfl) (by decide) np_at0 rfl (argsL := [(.ref m), (.int (n32 4)), (.ref k), (.ref n)]) (rest := []) rfl rfl (fun _ q => nomatch q) (Nat.le_of_ble_eq_true rfl) (Nat.le_of_ble_eq_true rfl) (Nat.le_of_ble_eq_true rfl) (Nat.le_of_ble_eq_true rfl) (WP.rt ?_)
    rintro _ h S4 ⟨rfl, rfl, rfl⟩
    refine Ru.ifN d_fh0_47 (show ¬ (1 : Int32) = (0 : Int32) from (by decide)) ?_
    refine Ru.aloadN d_fh0_50 rfl rfl ?_
    refine Ru.iconst (x := 5) d_fh0_51 rfl ?_
    refine WP.topI (show (5 : Int32) = (n32 5) from rfl) ?_
    refine Ru.aloadN d_fh0_52 rfl rfl ?_
    refine Ru.aloadN d_fh0_53 rfl rfl ?_
    refine Ru.callS0 (J := I_at0) (c_at0 e (i := 5) T0 T1 T2 hx hy (by omega)) d_fh0_54 (e.w 240 rfl) (e.w 241 rfl) (e.w 2 rfl) (e.w 242 rfl) (by decide) np_at0 rfl (argsL := [(.ref m), (.int (n32 5)), (.ref k), (.ref n)]) (rest := []) rfl rfl (fun _ q => nomatch q) (Nat.le_of_ble_eq_true rfl) (Nat.le_of_ble_eq_true rfl) (Nat.le_of_ble_eq_true rfl) (Nat.le_of_ble_eq_true rfl) (WP.rt ?_)
    rintro _ h S5 ⟨rfl, rfl, rfl⟩
    refine Ru.ifN d_fh0_57 (show ¬ (1 : Int32) = (0 : Int32) from (by decide)) ?_
    refine Ru.aloadN d_fh0_60 rfl rfl ?_
    refine Ru.bipush (x := 6) d_fh0_61 rfl ?_
    refine WP.topI (show (6 : Int32) = (n32 6) from rfl) ?_
    refine Ru.aloadN d_fh0_63 rfl rfl ?_
    refine Ru.aloadN d_fh0_64 rfl rfl ?_
    refine Ru.callS0 (J := I_at0) (c_at0 e (i := 6) T0 T1 T2 hx hy (by omega)) d_fh0_65 (e.w 240 rfl) (e.w 241 rfl) (e.w 2 rfl) (e.w 242 rfl) (by decide) np_at0 rfl (argsL := [(.ref m), (.int (n32 6)), (.ref k), (.ref n)]) (rest := []) rfl rfl (fun _ q => nomatch q) (Nat.le_of_ble_eq_true rfl) (Nat.le_of_ble_eq_true rfl) (Nat.le_of_ble_eq_true rfl) (Nat.le_of_ble_eq_true rfl) (WP.rt ?_)
    rintro _ h S6 ⟨rfl, rfl, rfl⟩
    refine Ru.ifN d_fh0_68 (show ¬ (1 : Int32) = (0 : Int32) from (by decide)) ?_
    refine Ru.aloadN d_fh0_71 rfl rfl ?_
    refine Ru.bipush (x := 7) d_fh0_72 rfl ?_
    refine WP.topI (show (7 : Int32) = (n32 7) from rfl) ?_
    refine Ru.aloadN d_fh0_74 rfl rfl ?_
    refine Ru.aloadN d_fh0_75 rfl rfl ?_
    refine Ru.callSL (J := I_atA) (c_atA e (i := 7) T0 T1 T2 hx hy (by omega) (by omega)) d_fh0_76 (e.w 240 rfl) (e.w 241 rfl) (e.w 2 rfl) (e.w 242 rfl) (by decide) np_atA rfl (argsL := [(.ref m), (.int (n32 7)), (.ref k), (.ref n)]) (rest := []) rfl rfl (fun _ q => nomatch q) (Nat.le_of_ble_eq_true rfl) (Nat.le_of_ble_eq_true rfl) (Nat.le_of_ble_eq_true rfl) (Nat.le_of_ble_eq_true rfl) (WP.rt ?_)
    rintro _ k1 S7 ⟨rfl, K1, rfl⟩
    have T0 := T0.keep K1 nin0 nin0; have T1 := T1.keep K1 nin0 nin0; have T2 := T2.keep K1 nin0 nin0
    refine Ru.ifN d_fh0_79 (show ¬ (1 : Int32) = (0 : Int32) from (by decide)) ?_
    refine Ru.aloadN d_fh0_82 rfl rfl ?_
    refine Ru.bipush (x := 8) d_fh0_83 rfl ?_
    refine WP.topI (show (8 : Int32) = (n32 8) from rfl) ?_
    refine Ru.aloadN d_fh0_85 rfl rfl ?_
    refine Ru.aloadN d_fh0_86 rfl rfl ?_
    refine Ru.callS0 (J := I_atB) (c_atB e (i := 8) T0 T1 T2 hx hy (by omega) (by omega)) d_fh0_87 (e.w 240 rfl) (e.w 241 rfl) (e.w 2 rfl) (e.w 242 rfl) (by decide) np_atB rfl (argsL := [(.ref m), (.int (n32 8)), (.ref k), (.ref n)]) (rest := []) rfl rfl (fun _ q => nomatch q) (Nat.le_of_ble_eq_true rfl) (Nat.le_of_ble_eq_true rfl) (Nat.le_of_ble_eq_true rfl) (Nat.le_of_ble_eq_true rfl) (WP.rt ?_)
    rintro _ k1 S8 ⟨rfl, rfl, rfl⟩
    refine Ru.ifN d_fh0_90 (show ¬ (1 : Int32) = (0 : Int32) from (by decide)) ?_
    refine Ru.aloadN d_fh0_93 rfl rfl ?_
    refine Ru.bipush (x := 9) d_fh0_94 rfl ?_
    refine WP.topI (show (9 : Int32) = (n32 9) from rfl) ?_
    refine Ru.aloadN d_fh0_96 rfl rfl ?_
    refine Ru.aloadN d_fh0_97 rfl rfl ?_
    refine Ru.callS0 (J := I_atB) (c_atB e (i := 9) T0 T1 T2 hx hy (by omega) (by omega)) d_fh0_98 (e.w 240 rfl) (e.w 241 rfl) (e.w 2 rfl) (e.w 242 rfl) (by decide) np_atB rfl (argsL := [(.ref m), (.int (n32 9)), (.ref k), (.ref n)]) (rest := []) rfl rfl (fun _ q => nomatch q) (Nat.le_of_ble_eq_true rfl) (Nat.le_of_ble_eq_true rfl) (Nat.le_of_ble_eq_true rfl) (Nat.le_of_ble_eq_true rfl) (WP.rt ?_)
    rintro _ k1 S9 ⟨rfl, rfl, rfl⟩
    refine Ru.ifN d_fh0_101 (show ¬ (1 : Int32) = (0 : Int32) from (by decide)) ?_
    refine Ru.aloadN d_fh0_104 rfl rfl ?_
    refine Ru.bipush (x := 10) d_fh0_105 rfl ?_
    refine WP.topI (show (10 : Int32) = (n32 10) from rfl) ?_
    refine Ru.aloadN d_fh0_107 rfl rfl ?_
    refine Ru.aloadN d_fh0_108 rfl rfl ?_
    refine Ru.callS0 (J := I_atB) (c_atB e (i := 10) T0 T1 T2 hx hy (by omega) (by omega)) d_fh0_109 (e.w 240 rfl) (e.w 241 rfl) (e.w 2 rfl) (e.w 242 rfl) (by decide) np_atB rfl (argsL := [(.ref m), (.int (n32 10)), (.ref k), (.ref n)]) (rest := []) rfl rfl (fun _ q => nomatch q) (Nat.le_of_ble_eq_true rfl) (Nat.le_of_ble_eq_true rfl) (Nat.le_of_ble_eq_true rfl) (Nat.le_of_ble_eq_true rfl) (WP.rt ?_)
    rintro _ k1 S10 ⟨rfl, rfl, rfl⟩
    refine Ru.ifN d_fh0_112 (show ¬ (1 : Int32) = (0 : Int32) from (by decide)) ?_
    refine Ru.aloadN d_fh0_115 rfl rfl ?_
    refine Ru.bipush (x := 11) d_fh0_116 rfl ?_
    refine WP.topI (show (11 : Int32) = (n32 11) from rfl) ?_
    refine Ru.aloadN d_fh0_118 rfl rfl ?_
    refine Ru.aloadN d_fh0_119 rfl rfl ?_
    refine Ru.callS0 (J := I_atB) (c_atB e (i := 11) T0 T1 T2 hx hy (by omega) (by omega)) d_fh0_120 (e.w 240 rfl) (e.w 241 rfl) (e.w 2 rfl) (e.w 242 rfl) (by decide) np_atB rfl (argsL := [(.ref m), (.int (n32 11)), (.ref k), (.ref n)]) (rest := []) rfl rfl (fun _ q => nomatch q) (Nat.le_of_ble_eq_true rfl) (Nat.le_of_ble_eq_true rfl) (Nat.le_of_ble_eq_true rfl) (Nat.le_of_ble_eq_true rfl) (WP.rt ?_)
    rintro _ k1 S11 ⟨rfl, rfl, rfl⟩
    refine Ru.ifN d_fh0_123 (show ¬ (1 : Int32) = (0 : Int32) from (by decide)) ?_
    refine Ru.iconst (x := 1) d_fh0_126 rfl ?_
    refine Ru.goto d_fh0_127 ?_
    exact Ru.ireturnN (t := .boolean) (x' := (1 : Int32)) d_fh0_131 rfl (by simp) rfl [] (fun _ q => nomatch q) (Nat.le_of_ble_eq_true rfl) (Nat.le_of_ble_eq_true rfl) ⟨_, rfl, rfl, K1, rfl⟩
  · refine Ru.aloadN d_fh0_0 rfl rfl ?_
    refine Ru.iconst (x := 0) d_fh0_1 rfl ?_
    refine WP.topI (show (0 : Int32) = (n32 0) from rfl) ?_
    refine Ru.aloadN d_fh0_2 rfl rfl ?_
    refine Ru.aloadN d_fh0_3 rfl rfl ?_
    refine Ru.callS0 (J := I_at0) (c_at0 e (i := 0) T0 T1 T2 hx hy (by omega)) d_fh0_4 (e.w 240 rfl) (e.w 241 rfl) (e.w 2 rfl) (e.w 242 rfl) (by decide) np_at0 rfl (argsL := [(.ref m), (.int (n32 0)), (.ref k), (.ref n)]) (rest := []) rfl rfl (fun _ q => nomatch q) (Nat.le_of_ble_eq_true rfl) (Nat.le_of_ble_eq_true rfl) (Nat.le_of_ble_eq_true rfl) (Nat.le_of_ble_eq_true rfl) (WP.rt ?_)
    rintro _ h S0 ⟨rfl, rfl, rfl⟩
    refine Ru.ifN d_fh0_7 (show ¬ (1 : Int32) = (0 : Int32) from (by decide)) ?_
    refine Ru.aloadN d_fh0_10 rfl rfl ?_
    refine Ru.iconst (x := 1) d_fh0_11 rfl ?_
    refine WP.topI (show (1 : Int32) = (n32 1) from rfl) ?_
    refine Ru.aloadN d_fh0_12 rfl rfl ?_
    refine Ru.aloadN d_fh0_13 rfl rfl ?_
    refine Ru.callS0 (J := I_at0) (c_at0 e (i := 1) T0 T1 T2 hx hy (by omega)) d_fh0_14 (e.w 240 rfl) (e.w 241 rfl) (e.w 2 rfl) (e.w 242 rfl) (by decide) np_at0 rfl (argsL := [(.ref m), (.int (n32 1)), (.ref k), (.ref n)]) (rest := []) rfl rfl (fun _ q => nomatch q) (Nat.le_of_ble_eq_true rfl) (Nat.le_of_ble_eq_true rfl) (Nat.le_of_ble_eq_true rfl) (Nat.le_of_ble_eq_true rfl) (WP.rt ?_)
    rintro _ h S1 ⟨rfl, rfl, rfl⟩
    refine Ru.ifN d_fh0_17 (show ¬ (1 : Int32) = (0 : Int32) from (by decide)) ?_
    refine Ru.aloadN d_fh0_20 rfl rfl ?_
    refine Ru.iconst (x := 2) d_fh0_21 rfl ?_
    refine WP.topI (show (2 : Int32) = (n32 2) from rfl) ?_
    refine Ru.aloadN d_fh0_22 rfl rfl ?_
    refine Ru.aloadN d_fh0_23 rfl rfl ?_
    refine Ru.callS0 (J := I_at0) (c_at0 e (i := 2) T0 T1 T2 hx hy (by omega)) d_fh0_24 (e.w 240 rfl) (e.w 241 rfl) (e.w 2 rfl) (e.w 242 rfl) (by decide) np_at0 rfl (argsL := [(.ref m), (.int (n32 2)), (.ref k), (.ref n)]) (rest := []) rfl rfl (fun _ q => nomatch q) (Nat.le_of_ble_eq_true rfl) (Nat.le_of_ble_eq_true rfl) (Nat.le_of_ble_eq_true rfl) (Nat.le_of_ble_eq_true rfl) (WP.rt ?_)
    rintro _ h S2 ⟨rfl, rfl, rfl⟩
    refine Ru.ifN d_fh0_27 (show ¬ (1 : Int32) = (0 : Int32) from (by decide)) ?_
    refine Ru.aloadN d_fh0_30 rfl rfl ?_
    refine Ru.iconst (x := 3) d_fh0_31 rfl ?_
    refine WP.topI (show (3 : Int32) = (n32 3) from rfl) ?_
    refine Ru.aloadN d_fh0_32 rfl rfl ?_
    refine Ru.aloadN d_fh0_33 rfl rfl ?_
    refine Ru.callS0 (J := I_at0) (c_at0 e (i := 3) T0 T1 T2 hx hy (by omega)) d_fh0_34 (e.w 240 rfl) (e.w 241 rfl) (e.w 2 rfl) (e.w 242 rfl) (by decide) np_at0 rfl (argsL := [(.ref m), (.int (n32 3)), (.ref k), (.ref n)]) (rest := []) rfl rfl (fun _ q => nomatch q) (Nat.le_of_ble_eq_true rfl) (Nat.le_of_ble_eq_true rfl) (Nat.le_of_ble_eq_true rfl) (Nat.le_of_ble_eq_true rfl) (WP.rt ?_)
    rintro _ h S3 ⟨rfl, rfl, rfl⟩
    refine Ru.ifN d_fh0_37 (show ¬ (1 : Int32) = (0 : Int32) from (by decide)) ?_
    refine Ru.aloadN d_fh0_40 rfl rfl ?_
    refine Ru.iconst (x := 4) d_fh0_41 rfl ?_
    refine WP.topI (show (4 : Int32) = (n32 4) from rfl) ?_
    refine Ru.aloadN d_fh0_42 rfl rfl ?_
    refine Ru.aloadN d_fh0_43 rfl rfl ?_
    refine Ru.callS0 (J := I_at0) (c_at0 e (i := 4) T0 T1 T2 hx hy (by omega)) d_fh0_44 (e.w 240 rfl) (e.w 241 rfl) (e.w 2 rfl) (e.w 242 rfl) (by decide) np_at0 rfl (argsL := [(.ref m), (.int (n32 4)), (.ref k), (.ref n)]) (rest := []) rfl rfl (fun _ q => nomatch q) (Nat.le_of_ble_eq_true rfl) (Nat.le_of_ble_eq_true rfl) (Nat.le_of_ble_eq_true rfl) (Nat.le_of_ble_eq_true rfl) (WP.rt ?_)
    rintro _ h S4 ⟨rfl, rfl, rfl⟩
    refine Ru.ifN d_fh0_47 (show ¬ (1 : Int32) = (0 : Int32) from (by decide)) ?_
    refine Ru.aloadN d_fh0_50 rfl rfl ?_
    refine Ru.iconst (x := 5) d_fh0_51 rfl ?_
    refine WP.topI (show (5 : Int32) = (n32 5) from rfl) ?_
    refine Ru.aloadN d_fh0_52 rfl rfl ?_
    refine Ru.aloadN d_fh0_53 rfl rfl ?_
    refine Ru.callS0 (J := I_at0) (c_at0 e (i := 5) T0 T1 T2 hx hy (by omega)) d_fh0_54 (e.w 240 rfl) (e.w 241 rfl) (e.w 2 rfl) (e.w 242 rfl) (by decide) np_at0 rfl (argsL := [(.ref m), (.int (n32 5)), (.ref k), (.ref n)]) (rest := []) rfl rfl (fun _ q => nomatch q) (Nat.le_of_ble_eq_true rfl) (Nat.le_of_ble_eq_true rfl) (Nat.le_of_ble_eq_true rfl) (Nat.le_of_ble_eq_true rfl) (WP.rt ?_)
    rintro _ h S5 ⟨rfl, rfl, rfl⟩
    refine Ru.ifN d_fh0_57 (show ¬ (1 : Int32) = (0 : Int32) from (by decide)) ?_
    refine Ru.aloadN d_fh0_60 rfl rfl ?_
    refine Ru.bipush (x := 6) d_fh0_61 rfl ?_
    refine WP.topI (show (6 : Int32) = (n32 6) from rfl) ?_
    refine Ru.aloadN d_fh0_63 rfl rfl ?_
    refine Ru.aloadN d_fh0_64 rfl rfl ?_
    refine Ru.callS0 (J := I_at0) (c_at0 e (i := 6) T0 T1 T2 hx hy (by omega)) d_fh0_65 (e.w 240 rfl) (e.w 241 rfl) (e.w 2 rfl) (e.w 242 rfl) (by decide) np_at0 rfl (argsL := [(.ref m), (.int (n32 6)), (.ref k), (.ref n)]) (rest := []) rfl rfl (fun _ q => nomatch q) (Nat.le_of_ble_eq_true rfl) (Nat.le_of_ble_eq_true rfl) (Nat.le_of_ble_eq_true rfl) (Nat.le_of_ble_eq_true rfl) (WP.rt ?_)
    rintro _ h S6 ⟨rfl, rfl, rfl⟩
    refine Ru.ifN d_fh0_68 (show ¬ (1 : Int32) = (0 : Int32) from (by decide)) ?_
    refine Ru.aloadN d_fh0_71 rfl rfl ?_
    refine Ru.bipush (x := 7) d_fh0_72 rfl ?_
    refine WP.topI (show (7 : Int32) = (n32 7) from rfl) ?_
    refine Ru.aloadN d_fh0_74 rfl rfl ?_
    refine Ru.aloadN d_fh0_75 rfl rfl ?_
    refine Ru.callS0 (J := I_at0) (c_at0 e (i := 7) T0 T1 T2 hx hy (by omega)) d_fh0_76 (e.w 240 rfl) (e.w 241 rfl) (e.w 2 rfl) (e.w 242 rfl) (by decide) np_at0 rfl (argsL := [(.ref m), (.int (n32 7)), (.ref k), (.ref n)]) (rest := []) rfl rfl (fun _ q => nomatch q) (Nat.le_of_ble_eq_true rfl) (Nat.le_of_ble_eq_true rfl) (Nat.le_of_ble_eq_true rfl) (Nat.le_of_ble_eq_true rfl) (WP.rt ?_)
    rintro _ h S7 ⟨rfl, rfl, rfl⟩
    refine Ru.ifN d_fh0_79 (show ¬ (1 : Int32) = (0 : Int32) from (by decide)) ?_
    refine Ru.aloadN d_fh0_82 rfl rfl ?_
    refine Ru.bipush (x := 8) d_fh0_83 rfl ?_
    refine WP.topI (show (8 : Int32) = (n32 8) from rfl) ?_
    refine Ru.aloadN d_fh0_85 rfl rfl ?_
    refine Ru.aloadN d_fh0_86 rfl rfl ?_
    refine Ru.callSL (J := I_atA) (c_atA e (i := 8) T0 T1 T2 hx hy (by omega) (by omega)) d_fh0_87 (e.w 240 rfl) (e.w 241 rfl) (e.w 2 rfl) (e.w 242 rfl) (by decide) np_atA rfl (argsL := [(.ref m), (.int (n32 8)), (.ref k), (.ref n)]) (rest := []) rfl rfl (fun _ q => nomatch q) (Nat.le_of_ble_eq_true rfl) (Nat.le_of_ble_eq_true rfl) (Nat.le_of_ble_eq_true rfl) (Nat.le_of_ble_eq_true rfl) (WP.rt ?_)
    rintro _ k1 S8 ⟨rfl, K1, rfl⟩
    have T0 := T0.keep K1 nin0 nin0; have T1 := T1.keep K1 nin0 nin0; have T2 := T2.keep K1 nin0 nin0
    refine Ru.ifN d_fh0_90 (show ¬ (1 : Int32) = (0 : Int32) from (by decide)) ?_
    refine Ru.aloadN d_fh0_93 rfl rfl ?_
    refine Ru.bipush (x := 9) d_fh0_94 rfl ?_
    refine WP.topI (show (9 : Int32) = (n32 9) from rfl) ?_
    refine Ru.aloadN d_fh0_96 rfl rfl ?_
    refine Ru.aloadN d_fh0_97 rfl rfl ?_
    refine Ru.callS0 (J := I_atB) (c_atB e (i := 9) T0 T1 T2 hx hy (by omega) (by omega)) d_fh0_98 (e.w 240 rfl) (e.w 241 rfl) (e.w 2 rfl) (e.w 242 rfl) (by decide) np_atB rfl (argsL := [(.ref m), (.int (n32 9)), (.ref k), (.ref n)]) (rest := []) rfl rfl (fun _ q => nomatch q) (Nat.le_of_ble_eq_true rfl) (Nat.le_of_ble_eq_true rfl) (Nat.le_of_ble_eq_true rfl) (Nat.le_of_ble_eq_true rfl) (WP.rt ?_)
    rintro _ k1 S9 ⟨rfl, rfl, rfl⟩
    refine Ru.ifN d_fh0_101 (show ¬ (1 : Int32) = (0 : Int32) from (by decide)) ?_
    refine Ru.aloadN d_fh0_104 rfl rfl ?_
    refine Ru.bipush (x := 10) d_fh0_105 rfl ?_
    refine WP.topI (show (10 : Int32) = (n32 10) from rfl) ?_
    refine Ru.aloadN d_fh0_107 rfl rfl ?_
    refine Ru.aloadN d_fh0_108 rfl rfl ?_
    refine Ru.callS0 (J := I_atB) (c_atB e (i := 10) T0 T1 T2 hx hy (by omega) (by omega)) d_fh0_109 (e.w 240 rfl) (e.w 241 rfl) (e.w 2 rfl) (e.w 242 rfl) (by decide) np_atB rfl (argsL := [(.ref m), (.int (n32 10)), (.ref k), (.ref n)]) (rest := []) rfl rfl (fun _ q => nomatch q) (Nat.le_of_ble_eq_true rfl) (Nat.le_of_ble_eq_true rfl) (Nat.le_of_ble_eq_true rfl) (Nat.le_of_ble_eq_true rfl) (WP.rt ?_)
    rintro _ k1 S10 ⟨rfl, rfl, rfl⟩
    refine Ru.ifN d_fh0_112 (show ¬ (1 : Int32) = (0 : Int32) from (by decide)) ?_
    refine Ru.aloadN d_fh0_115 rfl rfl ?_
    refine Ru.bipush (x := 11) d_fh0_116 rfl ?_
    refine WP.topI (show (11 : Int32) = (n32 11) from rfl) ?_
    refine Ru.aloadN d_fh0_118 rfl rfl ?_
    refine Ru.aloadN d_fh0_119 rfl rfl ?_
    refine Ru.callS0 (J := I_atB) (c_atB e (i := 11) T0 T1 T2 hx hy (by omega) (by omega)) d_fh0_120 (e.w 240 rfl) (e.w 241 rfl) (e.w 2 rfl) (e.w 242 rfl) (by decide) np_atB rfl (argsL := [(.ref m), (.int (n32 11)), (.ref k), (.ref n)]) (rest := []) rfl rfl (fun _ q => nomatch q) (Nat.le_of_ble_eq_true rfl) (Nat.le_of_ble_eq_true rfl) (Nat.le_of_ble_eq_true rfl) (Nat.le_of_ble_eq_true rfl) (WP.rt ?_)
    rintro _ k1 S11 ⟨rfl, rfl, rfl⟩
    refine Ru.ifN d_fh0_123 (show ¬ (1 : Int32) = (0 : Int32) from (by decide)) ?_
    refine Ru.iconst (x := 1) d_fh0_126 rfl ?_
    refine Ru.goto d_fh0_127 ?_
    exact Ru.ireturnN (t := .boolean) (x' := (1 : Int32)) d_fh0_131 rfl (by simp) rfl [] (fun _ q => nomatch q) (Nat.le_of_ble_eq_true rfl) (Nat.le_of_ble_eq_true rfl) ⟨_, rfl, rfl, K1, rfl⟩
abbrev I_sh0 : Own.Inf := (⟨"com/example/ilan/ilan/engine/BrokerExceptionAlreadyExistsPinLaw", "secondHalf", "(Ljava/lang/String;Ljava/lang/String;Ljava/lang/String;)Z"⟩, method_7_code, 3, (Option.some Jvm.ClassFile.FieldType.boolean), { frames := 6, cells := 0, slots := 0, locals := 100 }, [], [])
theorem d_sh0_0 : Own.D1 method_7_code 0 (.aload_n 0) 1 1 := ⟨by decide +kernel, rfl⟩
theorem d_sh0_1 : Own.D1 method_7_code 1 (.bipush 12) 2 3 := ⟨by decide +kernel, rfl⟩
theorem d_sh0_3 : Own.D1 method_7_code 3 (.aload_n 1) 1 4 := ⟨by decide +kernel, rfl⟩
theorem d_sh0_4 : Own.D1 method_7_code 4 (.aload_n 2) 1 5 := ⟨by decide +kernel, rfl⟩
theorem d_sh0_5 : Own.D1 method_7_code 5 (.invokestatic 63) 3 8 := ⟨by decide +kernel, rfl⟩
theorem d_sh0_8 : Own.DB method_7_code 8 (.ifCond .eq 128) 3 (128) 11 136 := ⟨by decide +kernel, rfl, by decide, rfl⟩
theorem d_sh0_11 : Own.D1 method_7_code 11 (.aload_n 0) 1 12 := ⟨by decide +kernel, rfl⟩
theorem d_sh0_12 : Own.D1 method_7_code 12 (.bipush 13) 2 14 := ⟨by decide +kernel, rfl⟩
theorem d_sh0_14 : Own.D1 method_7_code 14 (.aload_n 1) 1 15 := ⟨by decide +kernel, rfl⟩
theorem d_sh0_15 : Own.D1 method_7_code 15 (.aload_n 2) 1 16 := ⟨by decide +kernel, rfl⟩
theorem d_sh0_16 : Own.D1 method_7_code 16 (.invokestatic 63) 3 19 := ⟨by decide +kernel, rfl⟩
theorem d_sh0_19 : Own.DB method_7_code 19 (.ifCond .eq 117) 3 (117) 22 136 := ⟨by decide +kernel, rfl, by decide, rfl⟩
theorem d_sh0_22 : Own.D1 method_7_code 22 (.aload_n 0) 1 23 := ⟨by decide +kernel, rfl⟩
theorem d_sh0_23 : Own.D1 method_7_code 23 (.bipush 14) 2 25 := ⟨by decide +kernel, rfl⟩
theorem d_sh0_25 : Own.D1 method_7_code 25 (.aload_n 1) 1 26 := ⟨by decide +kernel, rfl⟩
theorem d_sh0_26 : Own.D1 method_7_code 26 (.aload_n 2) 1 27 := ⟨by decide +kernel, rfl⟩
theorem d_sh0_27 : Own.D1 method_7_code 27 (.invokestatic 63) 3 30 := ⟨by decide +kernel, rfl⟩
theorem d_sh0_30 : Own.DB method_7_code 30 (.ifCond .eq 106) 3 (106) 33 136 := ⟨by decide +kernel, rfl, by decide, rfl⟩
theorem d_sh0_33 : Own.D1 method_7_code 33 (.aload_n 0) 1 34 := ⟨by decide +kernel, rfl⟩
theorem d_sh0_34 : Own.D1 method_7_code 34 (.bipush 15) 2 36 := ⟨by decide +kernel, rfl⟩
theorem d_sh0_36 : Own.D1 method_7_code 36 (.aload_n 1) 1 37 := ⟨by decide +kernel, rfl⟩
theorem d_sh0_37 : Own.D1 method_7_code 37 (.aload_n 2) 1 38 := ⟨by decide +kernel, rfl⟩
theorem d_sh0_38 : Own.D1 method_7_code 38 (.invokestatic 63) 3 41 := ⟨by decide +kernel, rfl⟩
theorem d_sh0_41 : Own.DB method_7_code 41 (.ifCond .eq 95) 3 (95) 44 136 := ⟨by decide +kernel, rfl, by decide, rfl⟩
theorem d_sh0_44 : Own.D1 method_7_code 44 (.aload_n 0) 1 45 := ⟨by decide +kernel, rfl⟩
theorem d_sh0_45 : Own.D1 method_7_code 45 (.bipush 16) 2 47 := ⟨by decide +kernel, rfl⟩
theorem d_sh0_47 : Own.D1 method_7_code 47 (.aload_n 1) 1 48 := ⟨by decide +kernel, rfl⟩
theorem d_sh0_48 : Own.D1 method_7_code 48 (.aload_n 2) 1 49 := ⟨by decide +kernel, rfl⟩
theorem d_sh0_49 : Own.D1 method_7_code 49 (.invokestatic 63) 3 52 := ⟨by decide +kernel, rfl⟩
theorem d_sh0_52 : Own.DB method_7_code 52 (.ifCond .eq 84) 3 (84) 55 136 := ⟨by decide +kernel, rfl, by decide, rfl⟩
theorem d_sh0_55 : Own.D1 method_7_code 55 (.aload_n 0) 1 56 := ⟨by decide +kernel, rfl⟩
theorem d_sh0_56 : Own.D1 method_7_code 56 (.bipush 17) 2 58 := ⟨by decide +kernel, rfl⟩
theorem d_sh0_58 : Own.D1 method_7_code 58 (.aload_n 1) 1 59 := ⟨by decide +kernel, rfl⟩
theorem d_sh0_59 : Own.D1 method_7_code 59 (.aload_n 2) 1 60 := ⟨by decide +kernel, rfl⟩
theorem d_sh0_60 : Own.D1 method_7_code 60 (.invokestatic 63) 3 63 := ⟨by decide +kernel, rfl⟩
theorem d_sh0_63 : Own.DB method_7_code 63 (.ifCond .eq 73) 3 (73) 66 136 := ⟨by decide +kernel, rfl, by decide, rfl⟩
theorem d_sh0_66 : Own.D1 method_7_code 66 (.aload_n 0) 1 67 := ⟨by decide +kernel, rfl⟩
theorem d_sh0_67 : Own.D1 method_7_code 67 (.bipush 18) 2 69 := ⟨by decide +kernel, rfl⟩
theorem d_sh0_69 : Own.D1 method_7_code 69 (.aload_n 1) 1 70 := ⟨by decide +kernel, rfl⟩
theorem d_sh0_70 : Own.D1 method_7_code 70 (.aload_n 2) 1 71 := ⟨by decide +kernel, rfl⟩
theorem d_sh0_71 : Own.D1 method_7_code 71 (.invokestatic 63) 3 74 := ⟨by decide +kernel, rfl⟩
theorem d_sh0_74 : Own.DB method_7_code 74 (.ifCond .eq 62) 3 (62) 77 136 := ⟨by decide +kernel, rfl, by decide, rfl⟩
theorem d_sh0_77 : Own.D1 method_7_code 77 (.aload_n 0) 1 78 := ⟨by decide +kernel, rfl⟩
theorem d_sh0_78 : Own.D1 method_7_code 78 (.bipush 19) 2 80 := ⟨by decide +kernel, rfl⟩
theorem d_sh0_80 : Own.D1 method_7_code 80 (.aload_n 1) 1 81 := ⟨by decide +kernel, rfl⟩
theorem d_sh0_81 : Own.D1 method_7_code 81 (.aload_n 2) 1 82 := ⟨by decide +kernel, rfl⟩
theorem d_sh0_82 : Own.D1 method_7_code 82 (.invokestatic 63) 3 85 := ⟨by decide +kernel, rfl⟩
theorem d_sh0_85 : Own.DB method_7_code 85 (.ifCond .eq 51) 3 (51) 88 136 := ⟨by decide +kernel, rfl, by decide, rfl⟩
theorem d_sh0_88 : Own.D1 method_7_code 88 (.aload_n 0) 1 89 := ⟨by decide +kernel, rfl⟩
theorem d_sh0_89 : Own.D1 method_7_code 89 (.bipush 20) 2 91 := ⟨by decide +kernel, rfl⟩
theorem d_sh0_91 : Own.D1 method_7_code 91 (.aload_n 1) 1 92 := ⟨by decide +kernel, rfl⟩
theorem d_sh0_92 : Own.D1 method_7_code 92 (.aload_n 2) 1 93 := ⟨by decide +kernel, rfl⟩
theorem d_sh0_93 : Own.D1 method_7_code 93 (.invokestatic 63) 3 96 := ⟨by decide +kernel, rfl⟩
theorem d_sh0_96 : Own.DB method_7_code 96 (.ifCond .eq 40) 3 (40) 99 136 := ⟨by decide +kernel, rfl, by decide, rfl⟩
theorem d_sh0_99 : Own.D1 method_7_code 99 (.aload_n 0) 1 100 := ⟨by decide +kernel, rfl⟩
theorem d_sh0_100 : Own.D1 method_7_code 100 (.bipush 21) 2 102 := ⟨by decide +kernel, rfl⟩
theorem d_sh0_102 : Own.D1 method_7_code 102 (.aload_n 1) 1 103 := ⟨by decide +kernel, rfl⟩
theorem d_sh0_103 : Own.D1 method_7_code 103 (.aload_n 2) 1 104 := ⟨by decide +kernel, rfl⟩
theorem d_sh0_104 : Own.D1 method_7_code 104 (.invokestatic 63) 3 107 := ⟨by decide +kernel, rfl⟩
theorem d_sh0_107 : Own.DB method_7_code 107 (.ifCond .eq 29) 3 (29) 110 136 := ⟨by decide +kernel, rfl, by decide, rfl⟩
theorem d_sh0_110 : Own.D1 method_7_code 110 (.aload_n 0) 1 111 := ⟨by decide +kernel, rfl⟩
theorem d_sh0_111 : Own.D1 method_7_code 111 (.bipush 22) 2 113 := ⟨by decide +kernel, rfl⟩
theorem d_sh0_113 : Own.D1 method_7_code 113 (.aload_n 1) 1 114 := ⟨by decide +kernel, rfl⟩
theorem d_sh0_114 : Own.D1 method_7_code 114 (.aload_n 2) 1 115 := ⟨by decide +kernel, rfl⟩
theorem d_sh0_115 : Own.D1 method_7_code 115 (.invokestatic 63) 3 118 := ⟨by decide +kernel, rfl⟩
theorem d_sh0_118 : Own.DB method_7_code 118 (.ifCond .eq 18) 3 (18) 121 136 := ⟨by decide +kernel, rfl, by decide, rfl⟩
theorem d_sh0_121 : Own.D1 method_7_code 121 (.aload_n 0) 1 122 := ⟨by decide +kernel, rfl⟩
theorem d_sh0_122 : Own.D1 method_7_code 122 (.bipush 23) 2 124 := ⟨by decide +kernel, rfl⟩
theorem d_sh0_124 : Own.D1 method_7_code 124 (.aload_n 1) 1 125 := ⟨by decide +kernel, rfl⟩
theorem d_sh0_125 : Own.D1 method_7_code 125 (.aload_n 2) 1 126 := ⟨by decide +kernel, rfl⟩
theorem d_sh0_126 : Own.D1 method_7_code 126 (.invokestatic 63) 3 129 := ⟨by decide +kernel, rfl⟩
theorem d_sh0_129 : Own.DB method_7_code 129 (.ifCond .eq 7) 3 (7) 132 136 := ⟨by decide +kernel, rfl, by decide, rfl⟩
theorem d_sh0_132 : Own.D1 method_7_code 132 (.iconst 1) 1 133 := ⟨by decide +kernel, rfl⟩
theorem d_sh0_133 : Own.DB method_7_code 133 (.goto 4) 3 (4) 136 137 := ⟨by decide +kernel, rfl, by decide, rfl⟩
theorem d_sh0_136 : Own.D1 method_7_code 136 (.iconst 0) 1 137 := ⟨by decide +kernel, rfl⟩
theorem d_sh0_137 : Own.D1 method_7_code 137 .ireturn 1 138 := ⟨by decide +kernel, rfl⟩
theorem np_sh0 : Own.npar "(Ljava/lang/String;Ljava/lang/String;Ljava/lang/String;)Z" = some 3 := by decide +kernel
abbrev I_sh : Own.Inf := (I_sh0.1, I_sh0.2.1, I_sh0.2.2.1, I_sh0.2.2.2.1, { frames := 6, cells := 0, slots := 0, locals := 100 }, [("com/example/ilan/ilan/engine/BrokerExceptionAlreadyExistsPinLaw", 57)], [])
theorem np_sh : Own.npar "(Ljava/lang/String;Ljava/lang/String;Ljava/lang/String;)Z" = some 3 := np_sh0
set_option maxRecDepth 65536 in
set_option maxHeartbeats 40000000 in
theorem c_sh {G : Own.Wd} {a0 : Array Value} (e : Ev G a0) {m tm k t1 n t2 : Addr} {xs ys : List Int32} {h : Heap} (T0 : StrL G.Z h m tm (full xs ys)) (T1 : StrL G.Z h k t1 xs) (T2 : StrL G.Z h n t2 ys) (hx : xs.length ≤ 3) (hy : ys.length ≤ 3)  : Met G I_sh #[(.ref m), (.ref k), (.ref n)] h [] (Rt (fun x h' S' => S' = [] ∧ h' = h ∧ x = .int 1)) := by
  refine Met.intro (ls := #[.val (.ref m), .val (.ref k), .val (.ref n)]) (plainFor_of_name pn_13) (fun m => by first | (simp [entryFrame, mkF, argsToLocals, Value.category, I_sh]; done) | (simp [entryFrame, mkF, argsToLocals, Value.category]; rfl) | rfl) ?_
  intro K
  refine Ru.aloadN d_sh0_0 rfl rfl ?_
  refine Ru.bipush (x := 12) d_sh0_1 rfl ?_
  refine WP.topI (show (12 : Int32) = (n32 12) from rfl) ?_
  refine Ru.aloadN d_sh0_3 rfl rfl ?_
  refine Ru.aloadN d_sh0_4 rfl rfl ?_
  refine Ru.callS0 (J := I_atB) (c_atB e (i := 12) T0 T1 T2 hx hy (by omega) (by omega)) d_sh0_5 (e.w 240 rfl) (e.w 241 rfl) (e.w 2 rfl) (e.w 242 rfl) (by decide) np_atB rfl (argsL := [(.ref m), (.int (n32 12)), (.ref k), (.ref n)]) (rest := []) rfl rfl (fun _ q => nomatch q) (Nat.le_of_ble_eq_true rfl) (Nat.le_of_ble_eq_true rfl) (Nat.le_of_ble_eq_true rfl) (Nat.le_of_ble_eq_true rfl) (WP.rt ?_)
  rintro _ h S12 ⟨rfl, rfl, rfl⟩
  refine Ru.ifN d_sh0_8 (show ¬ (1 : Int32) = (0 : Int32) from (by decide)) ?_
  refine Ru.aloadN d_sh0_11 rfl rfl ?_
  refine Ru.bipush (x := 13) d_sh0_12 rfl ?_
  refine WP.topI (show (13 : Int32) = (n32 13) from rfl) ?_
  refine Ru.aloadN d_sh0_14 rfl rfl ?_
  refine Ru.aloadN d_sh0_15 rfl rfl ?_
  refine Ru.callS0 (J := I_atB) (c_atB e (i := 13) T0 T1 T2 hx hy (by omega) (by omega)) d_sh0_16 (e.w 240 rfl) (e.w 241 rfl) (e.w 2 rfl) (e.w 242 rfl) (by decide) np_atB rfl (argsL := [(.ref m), (.int (n32 13)), (.ref k), (.ref n)]) (rest := []) rfl rfl (fun _ q => nomatch q) (Nat.le_of_ble_eq_true rfl) (Nat.le_of_ble_eq_true rfl) (Nat.le_of_ble_eq_true rfl) (Nat.le_of_ble_eq_true rfl) (WP.rt ?_)
  rintro _ h S13 ⟨rfl, rfl, rfl⟩
  refine Ru.ifN d_sh0_19 (show ¬ (1 : Int32) = (0 : Int32) from (by decide)) ?_
  refine Ru.aloadN d_sh0_22 rfl rfl ?_
  refine Ru.bipush (x := 14) d_sh0_23 rfl ?_
  refine WP.topI (show (14 : Int32) = (n32 14) from rfl) ?_
  refine Ru.aloadN d_sh0_25 rfl rfl ?_
  refine Ru.aloadN d_sh0_26 rfl rfl ?_
  refine Ru.callS0 (J := I_atB) (c_atB e (i := 14) T0 T1 T2 hx hy (by omega) (by omega)) d_sh0_27 (e.w 240 rfl) (e.w 241 rfl) (e.w 2 rfl) (e.w 242 rfl) (by decide) np_atB rfl (argsL := [(.ref m), (.int (n32 14)), (.ref k), (.ref n)]) (rest := []) rfl rfl (fun _ q => nomatch q) (Nat.le_of_ble_eq_true rfl) (Nat.le_of_ble_eq_true rfl) (Nat.le_of_ble_eq_true rfl) (Nat.le_of_ble_eq_true rfl) (WP.rt ?_)
  rintro _ h S14 ⟨rfl, rfl, rfl⟩
  refine Ru.ifN d_sh0_30 (show ¬ (1 : Int32) = (0 : Int32) from (by decide)) ?_
  refine Ru.aloadN d_sh0_33 rfl rfl ?_
  refine Ru.bipush (x := 15) d_sh0_34 rfl ?_
  refine WP.topI (show (15 : Int32) = (n32 15) from rfl) ?_
  refine Ru.aloadN d_sh0_36 rfl rfl ?_
  refine Ru.aloadN d_sh0_37 rfl rfl ?_
  refine Ru.callS0 (J := I_atB) (c_atB e (i := 15) T0 T1 T2 hx hy (by omega) (by omega)) d_sh0_38 (e.w 240 rfl) (e.w 241 rfl) (e.w 2 rfl) (e.w 242 rfl) (by decide) np_atB rfl (argsL := [(.ref m), (.int (n32 15)), (.ref k), (.ref n)]) (rest := []) rfl rfl (fun _ q => nomatch q) (Nat.le_of_ble_eq_true rfl) (Nat.le_of_ble_eq_true rfl) (Nat.le_of_ble_eq_true rfl) (Nat.le_of_ble_eq_true rfl) (WP.rt ?_)
  rintro _ h S15 ⟨rfl, rfl, rfl⟩
  refine Ru.ifN d_sh0_41 (show ¬ (1 : Int32) = (0 : Int32) from (by decide)) ?_
  refine Ru.aloadN d_sh0_44 rfl rfl ?_
  refine Ru.bipush (x := 16) d_sh0_45 rfl ?_
  refine WP.topI (show (16 : Int32) = (n32 16) from rfl) ?_
  refine Ru.aloadN d_sh0_47 rfl rfl ?_
  refine Ru.aloadN d_sh0_48 rfl rfl ?_
  refine Ru.callS0 (J := I_atB) (c_atB e (i := 16) T0 T1 T2 hx hy (by omega) (by omega)) d_sh0_49 (e.w 240 rfl) (e.w 241 rfl) (e.w 2 rfl) (e.w 242 rfl) (by decide) np_atB rfl (argsL := [(.ref m), (.int (n32 16)), (.ref k), (.ref n)]) (rest := []) rfl rfl (fun _ q => nomatch q) (Nat.le_of_ble_eq_true rfl) (Nat.le_of_ble_eq_true rfl) (Nat.le_of_ble_eq_true rfl) (Nat.le_of_ble_eq_true rfl) (WP.rt ?_)
  rintro _ h S16 ⟨rfl, rfl, rfl⟩
  refine Ru.ifN d_sh0_52 (show ¬ (1 : Int32) = (0 : Int32) from (by decide)) ?_
  refine Ru.aloadN d_sh0_55 rfl rfl ?_
  refine Ru.bipush (x := 17) d_sh0_56 rfl ?_
  refine WP.topI (show (17 : Int32) = (n32 17) from rfl) ?_
  refine Ru.aloadN d_sh0_58 rfl rfl ?_
  refine Ru.aloadN d_sh0_59 rfl rfl ?_
  refine Ru.callS0 (J := I_atB) (c_atB e (i := 17) T0 T1 T2 hx hy (by omega) (by omega)) d_sh0_60 (e.w 240 rfl) (e.w 241 rfl) (e.w 2 rfl) (e.w 242 rfl) (by decide) np_atB rfl (argsL := [(.ref m), (.int (n32 17)), (.ref k), (.ref n)]) (rest := []) rfl rfl (fun _ q => nomatch q) (Nat.le_of_ble_eq_true rfl) (Nat.le_of_ble_eq_true rfl) (Nat.le_of_ble_eq_true rfl) (Nat.le_of_ble_eq_true rfl) (WP.rt ?_)
  rintro _ h S17 ⟨rfl, rfl, rfl⟩
  refine Ru.ifN d_sh0_63 (show ¬ (1 : Int32) = (0 : Int32) from (by decide)) ?_
  refine Ru.aloadN d_sh0_66 rfl rfl ?_
  refine Ru.bipush (x := 18) d_sh0_67 rfl ?_
  refine WP.topI (show (18 : Int32) = (n32 18) from rfl) ?_
  refine Ru.aloadN d_sh0_69 rfl rfl ?_
  refine Ru.aloadN d_sh0_70 rfl rfl ?_
  refine Ru.callS0 (J := I_atB) (c_atB e (i := 18) T0 T1 T2 hx hy (by omega) (by omega)) d_sh0_71 (e.w 240 rfl) (e.w 241 rfl) (e.w 2 rfl) (e.w 242 rfl) (by decide) np_atB rfl (argsL := [(.ref m), (.int (n32 18)), (.ref k), (.ref n)]) (rest := []) rfl rfl (fun _ q => nomatch q) (Nat.le_of_ble_eq_true rfl) (Nat.le_of_ble_eq_true rfl) (Nat.le_of_ble_eq_true rfl) (Nat.le_of_ble_eq_true rfl) (WP.rt ?_)
  rintro _ h S18 ⟨rfl, rfl, rfl⟩
  refine Ru.ifN d_sh0_74 (show ¬ (1 : Int32) = (0 : Int32) from (by decide)) ?_
  refine Ru.aloadN d_sh0_77 rfl rfl ?_
  refine Ru.bipush (x := 19) d_sh0_78 rfl ?_
  refine WP.topI (show (19 : Int32) = (n32 19) from rfl) ?_
  refine Ru.aloadN d_sh0_80 rfl rfl ?_
  refine Ru.aloadN d_sh0_81 rfl rfl ?_
  refine Ru.callS0 (J := I_atB) (c_atB e (i := 19) T0 T1 T2 hx hy (by omega) (by omega)) d_sh0_82 (e.w 240 rfl) (e.w 241 rfl) (e.w 2 rfl) (e.w 242 rfl) (by decide) np_atB rfl (argsL := [(.ref m), (.int (n32 19)), (.ref k), (.ref n)]) (rest := []) rfl rfl (fun _ q => nomatch q) (Nat.le_of_ble_eq_true rfl) (Nat.le_of_ble_eq_true rfl) (Nat.le_of_ble_eq_true rfl) (Nat.le_of_ble_eq_true rfl) (WP.rt ?_)
  rintro _ h S19 ⟨rfl, rfl, rfl⟩
  refine Ru.ifN d_sh0_85 (show ¬ (1 : Int32) = (0 : Int32) from (by decide)) ?_
  refine Ru.aloadN d_sh0_88 rfl rfl ?_
  refine Ru.bipush (x := 20) d_sh0_89 rfl ?_
  refine WP.topI (show (20 : Int32) = (n32 20) from rfl) ?_
  refine Ru.aloadN d_sh0_91 rfl rfl ?_
  refine Ru.aloadN d_sh0_92 rfl rfl ?_
  refine Ru.callS0 (J := I_atB) (c_atB e (i := 20) T0 T1 T2 hx hy (by omega) (by omega)) d_sh0_93 (e.w 240 rfl) (e.w 241 rfl) (e.w 2 rfl) (e.w 242 rfl) (by decide) np_atB rfl (argsL := [(.ref m), (.int (n32 20)), (.ref k), (.ref n)]) (rest := []) rfl rfl (fun _ q => nomatch q) (Nat.le_of_ble_eq_true rfl) (Nat.le_of_ble_eq_true rfl) (Nat.le_of_ble_eq_true rfl) (Nat.le_of_ble_eq_true rfl) (WP.rt ?_)
  rintro _ h S20 ⟨rfl, rfl, rfl⟩
  refine Ru.ifN d_sh0_96 (show ¬ (1 : Int32) = (0 : Int32) from (by decide)) ?_
  refine Ru.aloadN d_sh0_99 rfl rfl ?_
  refine Ru.bipush (x := 21) d_sh0_100 rfl ?_
  refine WP.topI (show (21 : Int32) = (n32 21) from rfl) ?_
  refine Ru.aloadN d_sh0_102 rfl rfl ?_
  refine Ru.aloadN d_sh0_103 rfl rfl ?_
  refine Ru.callS0 (J := I_atB) (c_atB e (i := 21) T0 T1 T2 hx hy (by omega) (by omega)) d_sh0_104 (e.w 240 rfl) (e.w 241 rfl) (e.w 2 rfl) (e.w 242 rfl) (by decide) np_atB rfl (argsL := [(.ref m), (.int (n32 21)), (.ref k), (.ref n)]) (rest := []) rfl rfl (fun _ q => nomatch q) (Nat.le_of_ble_eq_true rfl) (Nat.le_of_ble_eq_true rfl) (Nat.le_of_ble_eq_true rfl) (Nat.le_of_ble_eq_true rfl) (WP.rt ?_)
  rintro _ h S21 ⟨rfl, rfl, rfl⟩
  refine Ru.ifN d_sh0_107 (show ¬ (1 : Int32) = (0 : Int32) from (by decide)) ?_
  refine Ru.aloadN d_sh0_110 rfl rfl ?_
  refine Ru.bipush (x := 22) d_sh0_111 rfl ?_
  refine WP.topI (show (22 : Int32) = (n32 22) from rfl) ?_
  refine Ru.aloadN d_sh0_113 rfl rfl ?_
  refine Ru.aloadN d_sh0_114 rfl rfl ?_
  refine Ru.callS0 (J := I_atB) (c_atB e (i := 22) T0 T1 T2 hx hy (by omega) (by omega)) d_sh0_115 (e.w 240 rfl) (e.w 241 rfl) (e.w 2 rfl) (e.w 242 rfl) (by decide) np_atB rfl (argsL := [(.ref m), (.int (n32 22)), (.ref k), (.ref n)]) (rest := []) rfl rfl (fun _ q => nomatch q) (Nat.le_of_ble_eq_true rfl) (Nat.le_of_ble_eq_true rfl) (Nat.le_of_ble_eq_true rfl) (Nat.le_of_ble_eq_true rfl) (WP.rt ?_)
  rintro _ h S22 ⟨rfl, rfl, rfl⟩
  refine Ru.ifN d_sh0_118 (show ¬ (1 : Int32) = (0 : Int32) from (by decide)) ?_
  refine Ru.aloadN d_sh0_121 rfl rfl ?_
  refine Ru.bipush (x := 23) d_sh0_122 rfl ?_
  refine WP.topI (show (23 : Int32) = (n32 23) from rfl) ?_
  refine Ru.aloadN d_sh0_124 rfl rfl ?_
  refine Ru.aloadN d_sh0_125 rfl rfl ?_
  refine Ru.callS0 (J := I_atB) (c_atB e (i := 23) T0 T1 T2 hx hy (by omega) (by omega)) d_sh0_126 (e.w 240 rfl) (e.w 241 rfl) (e.w 2 rfl) (e.w 242 rfl) (by decide) np_atB rfl (argsL := [(.ref m), (.int (n32 23)), (.ref k), (.ref n)]) (rest := []) rfl rfl (fun _ q => nomatch q) (Nat.le_of_ble_eq_true rfl) (Nat.le_of_ble_eq_true rfl) (Nat.le_of_ble_eq_true rfl) (Nat.le_of_ble_eq_true rfl) (WP.rt ?_)
  rintro _ h S23 ⟨rfl, rfl, rfl⟩
  refine Ru.ifN d_sh0_129 (show ¬ (1 : Int32) = (0 : Int32) from (by decide)) ?_
  refine Ru.iconst (x := 1) d_sh0_132 rfl ?_
  refine Ru.goto d_sh0_133 ?_
  exact Ru.ireturnN (t := .boolean) (x' := (1 : Int32)) d_sh0_137 rfl (by simp) rfl [] (fun _ q => nomatch q) (Nat.le_of_ble_eq_true rfl) (Nat.le_of_ble_eq_true rfl) ⟨_, rfl, rfl, rfl, rfl⟩
abbrev I_mk : Own.Inf := (⟨"com/example/ilan/ilan/engine/BrokerExceptionAlreadyExistsPinLaw", "mk", "(II)Ljava/lang/String;"⟩, method_3_code, 5, (Option.some (Jvm.ClassFile.FieldType.object "java/lang/String")), { frames := 4, cells := 6, slots := 16, locals := 70 }, [], [])
theorem d_mk_0 : Own.D1 method_3_code 0 (.iload_n 1) 1 1 := ⟨by decide +kernel, rfl⟩
theorem d_mk_1 : Own.D1 method_3_code 1 (.sipush 255) 3 4 := ⟨by decide +kernel, rfl⟩
theorem d_mk_4 : Own.D1 method_3_code 4 .iand 1 5 := ⟨by decide +kernel, rfl⟩
theorem d_mk_5 : Own.D1 method_3_code 5 .i2c 1 6 := ⟨by decide +kernel, rfl⟩
theorem d_mk_6 : Own.D1 method_3_code 6 (.istore_n 2) 1 7 := ⟨by decide +kernel, rfl⟩
theorem d_mk_7 : Own.D1 method_3_code 7 (.iload_n 1) 1 8 := ⟨by decide +kernel, rfl⟩
theorem d_mk_8 : Own.D1 method_3_code 8 (.bipush 8) 2 10 := ⟨by decide +kernel, rfl⟩
theorem d_mk_10 : Own.D1 method_3_code 10 .iushr 1 11 := ⟨by decide +kernel, rfl⟩
theorem d_mk_11 : Own.D1 method_3_code 11 (.sipush 255) 3 14 := ⟨by decide +kernel, rfl⟩
theorem d_mk_14 : Own.D1 method_3_code 14 .iand 1 15 := ⟨by decide +kernel, rfl⟩
theorem d_mk_15 : Own.D1 method_3_code 15 .i2c 1 16 := ⟨by decide +kernel, rfl⟩
theorem d_mk_16 : Own.D1 method_3_code 16 (.istore_n 3) 1 17 := ⟨by decide +kernel, rfl⟩
theorem d_mk_17 : Own.D1 method_3_code 17 (.iload_n 1) 1 18 := ⟨by decide +kernel, rfl⟩
theorem d_mk_18 : Own.D1 method_3_code 18 (.bipush 16) 2 20 := ⟨by decide +kernel, rfl⟩
theorem d_mk_20 : Own.D1 method_3_code 20 .iushr 1 21 := ⟨by decide +kernel, rfl⟩
theorem d_mk_21 : Own.D1 method_3_code 21 (.sipush 255) 3 24 := ⟨by decide +kernel, rfl⟩
theorem d_mk_24 : Own.D1 method_3_code 24 .iand 1 25 := ⟨by decide +kernel, rfl⟩
theorem d_mk_25 : Own.D1 method_3_code 25 .i2c 1 26 := ⟨by decide +kernel, rfl⟩
theorem d_mk_26 : Own.D1 method_3_code 26 (.istore 4) 2 28 := ⟨by decide +kernel, rfl⟩
theorem d_mk_28 : Own.D1 method_3_code 28 (.iload_n 0) 1 29 := ⟨by decide +kernel, rfl⟩
theorem d_mk_29 : Own.DB method_3_code 29 (.ifCond .ne 14) 3 (14) 32 43 := ⟨by decide +kernel, rfl, by decide, rfl⟩
theorem d_mk_32 : Own.D1 method_3_code 32 (.new 34) 3 35 := ⟨by decide +kernel, rfl⟩
theorem d_mk_35 : Own.D1 method_3_code 35 .dup 1 36 := ⟨by decide +kernel, rfl⟩
theorem d_mk_36 : Own.D1 method_3_code 36 (.iconst 0) 1 37 := ⟨by decide +kernel, rfl⟩
theorem d_mk_37 : Own.D1 method_3_code 37 (.newarray .char) 2 39 := ⟨by decide +kernel, rfl⟩
theorem d_mk_39 : Own.D1 method_3_code 39 (.invokespecial 46) 3 42 := ⟨by decide +kernel, rfl⟩
theorem d_mk_42 : Own.D1 method_3_code 42 .areturn 1 43 := ⟨by decide +kernel, rfl⟩
theorem d_mk_43 : Own.D1 method_3_code 43 (.iload_n 0) 1 44 := ⟨by decide +kernel, rfl⟩
theorem d_mk_44 : Own.D1 method_3_code 44 (.iconst 1) 1 45 := ⟨by decide +kernel, rfl⟩
theorem d_mk_45 : Own.DB method_3_code 45 (.if_icmp .ne 8) 3 (8) 48 53 := ⟨by decide +kernel, rfl, by decide, rfl⟩
theorem d_mk_48 : Own.D1 method_3_code 48 (.iload_n 2) 1 49 := ⟨by decide +kernel, rfl⟩
theorem d_mk_49 : Own.D1 method_3_code 49 (.invokestatic 49) 3 52 := ⟨by decide +kernel, rfl⟩
theorem d_mk_52 : Own.D1 method_3_code 52 .areturn 1 53 := ⟨by decide +kernel, rfl⟩
theorem d_mk_53 : Own.D1 method_3_code 53 (.iload_n 0) 1 54 := ⟨by decide +kernel, rfl⟩
theorem d_mk_54 : Own.D1 method_3_code 54 (.iconst 2) 1 55 := ⟨by decide +kernel, rfl⟩
theorem d_mk_55 : Own.DB method_3_code 55 (.if_icmp .ne 22) 3 (22) 58 77 := ⟨by decide +kernel, rfl, by decide, rfl⟩
theorem d_mk_58 : Own.D1 method_3_code 58 (.new 34) 3 61 := ⟨by decide +kernel, rfl⟩
theorem d_mk_61 : Own.D1 method_3_code 61 .dup 1 62 := ⟨by decide +kernel, rfl⟩
theorem d_mk_62 : Own.D1 method_3_code 62 (.iconst 2) 1 63 := ⟨by decide +kernel, rfl⟩
theorem d_mk_63 : Own.D1 method_3_code 63 (.newarray .char) 2 65 := ⟨by decide +kernel, rfl⟩
theorem d_mk_65 : Own.D1 method_3_code 65 .dup 1 66 := ⟨by decide +kernel, rfl⟩
theorem d_mk_66 : Own.D1 method_3_code 66 (.iconst 0) 1 67 := ⟨by decide +kernel, rfl⟩
theorem d_mk_67 : Own.D1 method_3_code 67 (.iload_n 2) 1 68 := ⟨by decide +kernel, rfl⟩
theorem d_mk_68 : Own.D1 method_3_code 68 .castore 1 69 := ⟨by decide +kernel, rfl⟩
theorem d_mk_69 : Own.D1 method_3_code 69 .dup 1 70 := ⟨by decide +kernel, rfl⟩
theorem d_mk_70 : Own.D1 method_3_code 70 (.iconst 1) 1 71 := ⟨by decide +kernel, rfl⟩
theorem d_mk_71 : Own.D1 method_3_code 71 (.iload_n 3) 1 72 := ⟨by decide +kernel, rfl⟩
theorem d_mk_72 : Own.D1 method_3_code 72 .castore 1 73 := ⟨by decide +kernel, rfl⟩
theorem d_mk_73 : Own.D1 method_3_code 73 (.invokespecial 46) 3 76 := ⟨by decide +kernel, rfl⟩
theorem d_mk_76 : Own.D1 method_3_code 76 .areturn 1 77 := ⟨by decide +kernel, rfl⟩
theorem d_mk_77 : Own.D1 method_3_code 77 (.new 34) 3 80 := ⟨by decide +kernel, rfl⟩
theorem d_mk_80 : Own.D1 method_3_code 80 .dup 1 81 := ⟨by decide +kernel, rfl⟩
theorem d_mk_81 : Own.D1 method_3_code 81 (.iconst 3) 1 82 := ⟨by decide +kernel, rfl⟩
theorem d_mk_82 : Own.D1 method_3_code 82 (.newarray .char) 2 84 := ⟨by decide +kernel, rfl⟩
theorem d_mk_84 : Own.D1 method_3_code 84 .dup 1 85 := ⟨by decide +kernel, rfl⟩
theorem d_mk_85 : Own.D1 method_3_code 85 (.iconst 0) 1 86 := ⟨by decide +kernel, rfl⟩
theorem d_mk_86 : Own.D1 method_3_code 86 (.iload_n 2) 1 87 := ⟨by decide +kernel, rfl⟩
theorem d_mk_87 : Own.D1 method_3_code 87 .castore 1 88 := ⟨by decide +kernel, rfl⟩
theorem d_mk_88 : Own.D1 method_3_code 88 .dup 1 89 := ⟨by decide +kernel, rfl⟩
theorem d_mk_89 : Own.D1 method_3_code 89 (.iconst 1) 1 90 := ⟨by decide +kernel, rfl⟩
theorem d_mk_90 : Own.D1 method_3_code 90 (.iload_n 3) 1 91 := ⟨by decide +kernel, rfl⟩
theorem d_mk_91 : Own.D1 method_3_code 91 .castore 1 92 := ⟨by decide +kernel, rfl⟩
theorem d_mk_92 : Own.D1 method_3_code 92 .dup 1 93 := ⟨by decide +kernel, rfl⟩
theorem d_mk_93 : Own.D1 method_3_code 93 (.iconst 2) 1 94 := ⟨by decide +kernel, rfl⟩
theorem d_mk_94 : Own.D1 method_3_code 94 (.iload 4) 2 96 := ⟨by decide +kernel, rfl⟩
theorem d_mk_96 : Own.D1 method_3_code 96 .castore 1 97 := ⟨by decide +kernel, rfl⟩
theorem d_mk_97 : Own.D1 method_3_code 97 (.invokespecial 46) 3 100 := ⟨by decide +kernel, rfl⟩
theorem d_mk_100 : Own.D1 method_3_code 100 .areturn 1 101 := ⟨by decide +kernel, rfl⟩
theorem np_mk : Own.npar "(II)Ljava/lang/String;" = some 2 := by decide +kernel
set_option maxRecDepth 65536 in
set_option maxHeartbeats 40000000 in
theorem c_mk {G : Own.Wd} {a0 : Array Value} (e : Ev G a0) {K0 : Nat} {p : Int32} {h : Heap} (hK : K0 ≤ 3) : Met G I_mk #[(.int (n32 K0)), (.int p)] h [] (Rt (fun x h' S' => ∃ a t xs, x = .ref a ∧ S' = [] ∧ Keep h h' [] ∧ StrL G.Z h' a t xs ∧ xs.length = K0)) := by
  refine Met.intro (ls := #[.val (.int (n32 K0)), .val (.int p), .unset, .unset, .unset]) (plainFor_of_name pn_13) (fun m => by first | (simp [entryFrame, mkF, argsToLocals, Value.category, I_mk]; done) | (simp [entryFrame, mkF, argsToLocals, Value.category]; rfl) | rfl) ?_
  intro K
  refine Ru.iloadN d_mk_0 rfl ?_
  refine Ru.sipush (x := 255) d_mk_1 rfl ?_
  refine Ru.iand d_mk_4 ?_
  refine Ru.i2c d_mk_5 ?_
  refine WP.topI (show ((p &&& (255 : Int32))).toUInt32.toUInt16.toUInt32.toInt32 = (p &&& (255 : Int32)) from (i2c_id (and255_isL _).c)) ?_
  obtain ⟨b0, hb0⟩ : ∃ c, c = (p &&& (255 : Int32)) := ⟨_, rfl⟩
  have q0 : IsL b0 := hb0 ▸ and255_isL _
  refine WP.topI (show (p &&& (255 : Int32)) = b0 from hb0.symm) ?_
  refine Ru.istoreN d_mk_6 (ls' := #[.val (.int (n32 K0)), .val (.int p), .val (.int b0), .unset, .unset]) rfl ?_
  refine Ru.iloadN d_mk_7 rfl ?_
  refine Ru.bipush (x := 8) d_mk_8 rfl ?_
  refine Ru.iushr d_mk_10 ?_
  refine Ru.sipush (x := 255) d_mk_11 rfl ?_
  refine Ru.iand d_mk_14 ?_
  refine Ru.i2c d_mk_15 ?_
  refine WP.topI (show ((((p).toUInt32 >>> ((8 : Int32) &&& 31).toUInt32).toInt32 &&& (255 : Int32))).toUInt32.toUInt16.toUInt32.toInt32 = (((p).toUInt32 >>> ((8 : Int32) &&& 31).toUInt32).toInt32 &&& (255 : Int32)) from (i2c_id (and255_isL _).c)) ?_
  obtain ⟨b1, hb1⟩ : ∃ c, c = (((p).toUInt32 >>> ((8 : Int32) &&& 31).toUInt32).toInt32 &&& (255 : Int32)) := ⟨_, rfl⟩
  have q1 : IsL b1 := hb1 ▸ and255_isL _
  refine WP.topI (show (((p).toUInt32 >>> ((8 : Int32) &&& 31).toUInt32).toInt32 &&& (255 : Int32)) = b1 from hb1.symm) ?_
  refine Ru.istoreN d_mk_16 (ls' := #[.val (.int (n32 K0)), .val (.int p), .val (.int b0), .val (.int b1), .unset]) rfl ?_
  refine Ru.iloadN d_mk_17 rfl ?_
  refine Ru.bipush (x := 16) d_mk_18 rfl ?_
  refine Ru.iushr d_mk_20 ?_
  refine Ru.sipush (x := 255) d_mk_21 rfl ?_
  refine Ru.iand d_mk_24 ?_
  refine Ru.i2c d_mk_25 ?_
  refine WP.topI (show ((((p).toUInt32 >>> ((16 : Int32) &&& 31).toUInt32).toInt32 &&& (255 : Int32))).toUInt32.toUInt16.toUInt32.toInt32 = (((p).toUInt32 >>> ((16 : Int32) &&& 31).toUInt32).toInt32 &&& (255 : Int32)) from (i2c_id (and255_isL _).c)) ?_
  obtain ⟨b2, hb2⟩ : ∃ c, c = (((p).toUInt32 >>> ((16 : Int32) &&& 31).toUInt32).toInt32 &&& (255 : Int32)) := ⟨_, rfl⟩
  have q2 : IsL b2 := hb2 ▸ and255_isL _
  refine WP.topI (show (((p).toUInt32 >>> ((16 : Int32) &&& 31).toUInt32).toInt32 &&& (255 : Int32)) = b2 from hb2.symm) ?_
  refine Ru.istore d_mk_26 (ls' := #[.val (.int (n32 K0)), .val (.int p), .val (.int b0), .val (.int b1), .val (.int b2)]) rfl ?_
  refine Ru.iloadN d_mk_28 rfl ?_
  rcases (show K0 = 0 ∨ K0 = 1 ∨ K0 = 2 ∨ K0 = 3 by omega) with rfl | rfl | rfl | rfl
  · refine Ru.ifN d_mk_29 (show (n32 0) = (0 : Int32) from rfl) ?_
    refine Ru.new d_mk_32 (e.w 4 rfl) (e.w 5 rfl) (e.w 6 rfl) (Nat.le_of_ble_eq_true rfl) (Nat.le_of_ble_eq_true rfl) ?_
    intro h1 s gs E1 X1 D1
    refine Ru.dup d_mk_35 rfl ?_
    refine Ru.iconst (x := 0) d_mk_36 rfl ?_
    refine Ru.newarray (cap := 0) d_mk_37 (ty := .char) rfl (e.w 7 rfl) rfl (by decide) (Nat.le_of_ble_eq_true rfl) (Nat.le_of_ble_eq_true rfl) (Nat.le_of_ble_eq_true rfl) (Nat.le_of_ble_eq_true rfl) ?_
    intro h2 a ga E2 A
    have ls := xlt X1; have X2 := X1.ext E2; have nsa : s ≠ a := nne (by omega)
    have Fv := Fld.ext E2 (D1 (Or.inr (e.w 20 rfl)) (ty := .array .byte) (by decide)); have Fc := Fld.ext E2 (D1 (Or.inr (e.w 21 rfl)) (ty := .byte) (by decide))
    refine Ru.callI0 (J := I_sie) (c_sie e X2 Fv Fc A) d_mk_39 rfl rfl (e.w 8 rfl) (e.w 9 rfl) (e.w 6 rfl) (e.w 10 rfl) (by decide) np_sie rfl (a := s) (argsL := [(.ref a)]) (rest := [(.ref s)]) rfl rfl (by simp) (Nat.le_of_ble_eq_true rfl) (Nat.le_of_ble_eq_true rfl) (Nat.le_of_ble_eq_true rfl) (Nat.le_of_ble_eq_true rfl) (WP.rv ?_)
    rintro h3 S3 ⟨rfl, t, K3, T3⟩
    exact Ru.areturn (t := (.object "java/lang/String")) d_mk_42 rfl rfl rfl rfl [] (fun _ q => nomatch q) (Nat.le_of_ble_eq_true rfl) (Nat.le_of_ble_eq_true rfl) ⟨_, rfl, s, t, _, rfl, rfl, (((keepE E1).trans (keepE E2) (by simp)).trans K3 (by simp; omega)), T3, rfl⟩
  · refine Ru.ifY d_mk_29 (show ¬ (n32 1) = (0 : Int32) from (by decide)) ?_
    refine Ru.iloadN d_mk_43 rfl ?_
    refine Ru.iconst (x := 1) d_mk_44 rfl ?_
    refine Ru.icmpN d_mk_45 (show (n32 1) = (1 : Int32) from rfl) ?_
    refine Ru.iloadN d_mk_48 rfl ?_
    refine Ru.callS0 (J := I_vof) (c_vof e q0) d_mk_49 (e.w 272 rfl) (e.w 273 rfl) (e.w 6 rfl) (e.w 274 rfl) (by decide) np_vof rfl (argsL := [(.int b0)]) (rest := []) rfl rfl (fun _ q => nomatch q) (Nat.le_of_ble_eq_true rfl) (Nat.le_of_ble_eq_true rfl) (Nat.le_of_ble_eq_true rfl) (Nat.le_of_ble_eq_true rfl) (WP.rt ?_)
    rintro _ h1 S1 ⟨s, t, rfl, gs, rfl, K1, T1⟩
    exact Ru.areturn (t := (.object "java/lang/String")) d_mk_52 rfl rfl rfl rfl [] (fun _ q => nomatch q) (Nat.le_of_ble_eq_true rfl) (Nat.le_of_ble_eq_true rfl) ⟨_, rfl, s, t, _, rfl, rfl, K1, T1, rfl⟩
  · refine Ru.ifY d_mk_29 (show ¬ (n32 2) = (0 : Int32) from (by decide)) ?_
    refine Ru.iloadN d_mk_43 rfl ?_
    refine Ru.iconst (x := 1) d_mk_44 rfl ?_
    refine Ru.icmpY d_mk_45 (show ¬ (n32 2) = (1 : Int32) from (by decide)) ?_
    refine Ru.iloadN d_mk_53 rfl ?_
    refine Ru.iconst (x := 2) d_mk_54 rfl ?_
    refine Ru.icmpN d_mk_55 (show (n32 2) = (2 : Int32) from rfl) ?_
    refine Ru.new d_mk_58 (e.w 4 rfl) (e.w 5 rfl) (e.w 6 rfl) (Nat.le_of_ble_eq_true rfl) (Nat.le_of_ble_eq_true rfl) ?_
    intro h1 s gs E1 X1 D1
    refine Ru.dup d_mk_61 rfl ?_
    refine Ru.iconst (x := 2) d_mk_62 rfl ?_
    refine Ru.newarray (cap := 2) d_mk_63 (ty := .char) rfl (e.w 7 rfl) rfl (by decide) (Nat.le_of_ble_eq_true rfl) (Nat.le_of_ble_eq_true rfl) (Nat.le_of_ble_eq_true rfl) (Nat.le_of_ble_eq_true rfl) ?_
    intro h2 a ga E2 A
    have ls := xlt X1; have X2 := X1.ext E2; have nsa : s ≠ a := nne (by omega)
    have Fv := Fld.ext E2 (D1 (Or.inr (e.w 20 rfl)) (ty := .array .byte) (by decide)); have Fc := Fld.ext E2 (D1 (Or.inr (e.w 21 rfl)) (ty := .byte) (by decide))
    refine Ru.dup d_mk_65 rfl ?_
    refine Ru.iconst (x := 0) d_mk_66 rfl ?_
    refine Ru.iloadN d_mk_67 rfl ?_
    refine Ru.castore d_mk_68 (by simp) A (by decide) (Nat.le_of_ble_eq_true rfl) (nar_c q0.c) ?_
    intro g0 K0 A
    have X2 := X2.keep K0; have Fv := Fv.keep K0 (ninS nsa nin0); have Fc := Fc.keep K0 (ninS nsa nin0)
    refine Ru.dup d_mk_69 rfl ?_
    refine Ru.iconst (x := 1) d_mk_70 rfl ?_
    refine Ru.iloadN d_mk_71 rfl ?_
    refine Ru.castore d_mk_72 (by simp) A (by decide) (Nat.le_of_ble_eq_true rfl) (nar_c q1.c) ?_
    intro g1 K1 A
    have X2 := X2.keep K1; have Fv := Fv.keep K1 (ninS nsa nin0); have Fc := Fc.keep K1 (ninS nsa nin0)
    have A : Ary G.Z _ a .char (([b0, b1] : List Int32).map Value.int) := A
    refine Ru.callI0 (J := I_si) (c_si e (cs := ([b0, b1] : List Int32)) X2 Fv Fc A (by simp) (by simp) (by simp [q0, q1])) d_mk_73 rfl rfl (e.w 8 rfl) (e.w 9 rfl) (e.w 6 rfl) (e.w 10 rfl) (by decide) np_si rfl (a := s) (argsL := [(.ref a)]) (rest := [(.ref s)]) rfl rfl (by simp) (Nat.le_of_ble_eq_true rfl) (Nat.le_of_ble_eq_true rfl) (Nat.le_of_ble_eq_true rfl) (Nat.le_of_ble_eq_true rfl) (WP.rv ?_)
    rintro l1 S9 ⟨rfl, t, gt, Kt, T⟩
    exact Ru.areturn (t := (.object "java/lang/String")) d_mk_76 rfl rfl rfl rfl [] (fun _ q => nomatch q) (Nat.le_of_ble_eq_true rfl) (Nat.le_of_ble_eq_true rfl) ⟨_, rfl, s, t, _, rfl, rfl, (((((keepE E1).trans (keepE E2) (by simp)).trans K0 (by simp; omega)).trans K1 (by simp; omega)).trans Kt (by simp; omega)), T, rfl⟩
  · refine Ru.ifY d_mk_29 (show ¬ (n32 3) = (0 : Int32) from (by decide)) ?_
    refine Ru.iloadN d_mk_43 rfl ?_
    refine Ru.iconst (x := 1) d_mk_44 rfl ?_
    refine Ru.icmpY d_mk_45 (show ¬ (n32 3) = (1 : Int32) from (by decide)) ?_
    refine Ru.iloadN d_mk_53 rfl ?_
    refine Ru.iconst (x := 2) d_mk_54 rfl ?_
    refine Ru.icmpY d_mk_55 (show ¬ (n32 3) = (2 : Int32) from (by decide)) ?_
    refine Ru.new d_mk_77 (e.w 4 rfl) (e.w 5 rfl) (e.w 6 rfl) (Nat.le_of_ble_eq_true rfl) (Nat.le_of_ble_eq_true rfl) ?_
    intro h1 s gs E1 X1 D1
    refine Ru.dup d_mk_80 rfl ?_
    refine Ru.iconst (x := 3) d_mk_81 rfl ?_
    refine Ru.newarray (cap := 3) d_mk_82 (ty := .char) rfl (e.w 7 rfl) rfl (by decide) (Nat.le_of_ble_eq_true rfl) (Nat.le_of_ble_eq_true rfl) (Nat.le_of_ble_eq_true rfl) (Nat.le_of_ble_eq_true rfl) ?_
    intro h2 a ga E2 A
    have ls := xlt X1; have X2 := X1.ext E2; have nsa : s ≠ a := nne (by omega)
    have Fv := Fld.ext E2 (D1 (Or.inr (e.w 20 rfl)) (ty := .array .byte) (by decide)); have Fc := Fld.ext E2 (D1 (Or.inr (e.w 21 rfl)) (ty := .byte) (by decide))
    refine Ru.dup d_mk_84 rfl ?_
    refine Ru.iconst (x := 0) d_mk_85 rfl ?_
    refine Ru.iloadN d_mk_86 rfl ?_
    refine Ru.castore d_mk_87 (by simp) A (by decide) (Nat.le_of_ble_eq_true rfl) (nar_c q0.c) ?_
    intro g0 K0 A
    have X2 := X2.keep K0; have Fv := Fv.keep K0 (ninS nsa nin0); have Fc := Fc.keep K0 (ninS nsa nin0)
    refine Ru.dup d_mk_88 rfl ?_
    refine Ru.iconst (x := 1) d_mk_89 rfl ?_
    refine Ru.iloadN d_mk_90 rfl ?_
    refine Ru.castore d_mk_91 (by simp) A (by decide) (Nat.le_of_ble_eq_true rfl) (nar_c q1.c) ?_
    intro g1 K1 A
    have X2 := X2.keep K1; have Fv := Fv.keep K1 (ninS nsa nin0); have Fc := Fc.keep K1 (ninS nsa nin0)
    refine Ru.dup d_mk_92 rfl ?_
    refine Ru.iconst (x := 2) d_mk_93 rfl ?_
    refine Ru.iload d_mk_94 rfl ?_
    refine Ru.castore d_mk_96 (by simp) A (by decide) (Nat.le_of_ble_eq_true rfl) (nar_c q2.c) ?_
    intro g2 K2 A
    have X2 := X2.keep K2; have Fv := Fv.keep K2 (ninS nsa nin0); have Fc := Fc.keep K2 (ninS nsa nin0)
    have A : Ary G.Z _ a .char (([b0, b1, b2] : List Int32).map Value.int) := A
    refine Ru.callI0 (J := I_si) (c_si e (cs := ([b0, b1, b2] : List Int32)) X2 Fv Fc A (by simp) (by simp) (by simp [q0, q1, q2])) d_mk_97 rfl rfl (e.w 8 rfl) (e.w 9 rfl) (e.w 6 rfl) (e.w 10 rfl) (by decide) np_si rfl (a := s) (argsL := [(.ref a)]) (rest := [(.ref s)]) rfl rfl (by simp) (Nat.le_of_ble_eq_true rfl) (Nat.le_of_ble_eq_true rfl) (Nat.le_of_ble_eq_true rfl) (Nat.le_of_ble_eq_true rfl) (WP.rv ?_)
    rintro l1 S9 ⟨rfl, t, gt, Kt, T⟩
    exact Ru.areturn (t := (.object "java/lang/String")) d_mk_100 rfl rfl rfl rfl [] (fun _ q => nomatch q) (Nat.le_of_ble_eq_true rfl) (Nat.le_of_ble_eq_true rfl) ⟨_, rfl, s, t, _, rfl, rfl, ((((((keepE E1).trans (keepE E2) (by simp)).trans K0 (by simp; omega)).trans K1 (by simp; omega)).trans K2 (by simp; omega)).trans Kt (by simp; omega)), T, rfl⟩
theorem and3 (p : Int32) : ∃ k, k ≤ 3 ∧ (p &&& (3 : Int32)) = n32 k := by
  refine ⟨p.toBitVec.toNat &&& 3, Nat.and_le_right, ?_⟩
  apply Int32.toBitVec_inj.mp
  apply BitVec.eq_of_toNat_eq
  have h2 : p.toBitVec.toNat &&& 3 ≤ 3 := Nat.and_le_right
  have e2 : (p &&& (3 : Int32)).toBitVec.toNat = p.toBitVec.toNat &&& 3 := rfl
  have e3 : ∀ k : Nat, (n32 k).toBitVec.toNat = k % 4294967296 := fun k => by simp [n32]
  rw [e2, e3, Nat.mod_eq_of_lt (by omega)]
abbrev I_law : Own.Inf := (x, code, maxLocals, ret, room_1, [], [])
theorem d_law_0 : Own.D1 code 0 (.iload_n 0) 1 1 := ⟨by decide +kernel, rfl⟩
theorem d_law_1 : Own.D1 code 1 (.iconst 3) 1 2 := ⟨by decide +kernel, rfl⟩
theorem d_law_2 : Own.D1 code 2 .iand 1 3 := ⟨by decide +kernel, rfl⟩
theorem d_law_3 : Own.D1 code 3 (.istore_n 3) 1 4 := ⟨by decide +kernel, rfl⟩
theorem d_law_4 : Own.D1 code 4 (.iload_n 0) 1 5 := ⟨by decide +kernel, rfl⟩
theorem d_law_5 : Own.D1 code 5 (.iconst 2) 1 6 := ⟨by decide +kernel, rfl⟩
theorem d_law_6 : Own.D1 code 6 .iushr 1 7 := ⟨by decide +kernel, rfl⟩
theorem d_law_7 : Own.D1 code 7 (.iconst 3) 1 8 := ⟨by decide +kernel, rfl⟩
theorem d_law_8 : Own.D1 code 8 .iand 1 9 := ⟨by decide +kernel, rfl⟩
theorem d_law_9 : Own.D1 code 9 (.istore 4) 2 11 := ⟨by decide +kernel, rfl⟩
theorem d_law_11 : Own.D1 code 11 (.iload_n 3) 1 12 := ⟨by decide +kernel, rfl⟩
theorem d_law_12 : Own.D1 code 12 (.iload_n 1) 1 13 := ⟨by decide +kernel, rfl⟩
theorem d_law_13 : Own.D1 code 13 (.invokestatic 7) 3 16 := ⟨by decide +kernel, rfl⟩
theorem d_law_16 : Own.D1 code 16 (.astore 5) 2 18 := ⟨by decide +kernel, rfl⟩
theorem d_law_18 : Own.D1 code 18 (.iload 4) 2 20 := ⟨by decide +kernel, rfl⟩
theorem d_law_20 : Own.D1 code 20 (.iload_n 2) 1 21 := ⟨by decide +kernel, rfl⟩
theorem d_law_21 : Own.D1 code 21 (.invokestatic 7) 3 24 := ⟨by decide +kernel, rfl⟩
theorem d_law_24 : Own.D1 code 24 (.astore 6) 2 26 := ⟨by decide +kernel, rfl⟩
theorem d_law_26 : Own.D1 code 26 (.aload 5) 2 28 := ⟨by decide +kernel, rfl⟩
theorem d_law_28 : Own.D1 code 28 (.aload 6) 2 30 := ⟨by decide +kernel, rfl⟩
theorem d_law_30 : Own.D1 code 30 (.invokestatic 13) 3 33 := ⟨by decide +kernel, rfl⟩
theorem d_law_33 : Own.D1 code 33 (.astore 7) 2 35 := ⟨by decide +kernel, rfl⟩
theorem d_law_35 : Own.D1 code 35 (.aload 7) 2 37 := ⟨by decide +kernel, rfl⟩
theorem d_law_37 : Own.DB code 37 (.ifnonnull 5) 3 (5) 40 42 := ⟨by decide +kernel, rfl, by decide, rfl⟩
theorem d_law_40 : Own.D1 code 40 (.iconst 0) 1 41 := ⟨by decide +kernel, rfl⟩
theorem d_law_41 : Own.D1 code 41 .ireturn 1 42 := ⟨by decide +kernel, rfl⟩
theorem d_law_42 : Own.D1 code 42 (.aload 7) 2 44 := ⟨by decide +kernel, rfl⟩
theorem d_law_44 : Own.D1 code 44 (.invokevirtual 19) 3 47 := ⟨by decide +kernel, rfl⟩
theorem d_law_47 : Own.D1 code 47 (.getstatic 23) 3 50 := ⟨by decide +kernel, rfl⟩
theorem d_law_50 : Own.DB code 50 (.if_acmp .eq 5) 3 (5) 53 55 := ⟨by decide +kernel, rfl, by decide, rfl⟩
theorem d_law_53 : Own.D1 code 53 (.iconst 0) 1 54 := ⟨by decide +kernel, rfl⟩
theorem d_law_54 : Own.D1 code 54 .ireturn 1 55 := ⟨by decide +kernel, rfl⟩
theorem d_law_55 : Own.D1 code 55 (.aload 7) 2 57 := ⟨by decide +kernel, rfl⟩
theorem d_law_57 : Own.D1 code 57 (.invokevirtual 29) 3 60 := ⟨by decide +kernel, rfl⟩
theorem d_law_60 : Own.D1 code 60 (.astore 8) 2 62 := ⟨by decide +kernel, rfl⟩
theorem d_law_62 : Own.D1 code 62 (.aload 8) 2 64 := ⟨by decide +kernel, rfl⟩
theorem d_law_64 : Own.DB code 64 (.ifnonnull 5) 3 (5) 67 69 := ⟨by decide +kernel, rfl, by decide, rfl⟩
theorem d_law_67 : Own.D1 code 67 (.iconst 0) 1 68 := ⟨by decide +kernel, rfl⟩
theorem d_law_68 : Own.D1 code 68 .ireturn 1 69 := ⟨by decide +kernel, rfl⟩
theorem d_law_69 : Own.D1 code 69 (.aload 8) 2 71 := ⟨by decide +kernel, rfl⟩
theorem d_law_71 : Own.D1 code 71 (.invokevirtual 33) 3 74 := ⟨by decide +kernel, rfl⟩
theorem d_law_74 : Own.D1 code 74 (.iload_n 3) 1 75 := ⟨by decide +kernel, rfl⟩
theorem d_law_75 : Own.D1 code 75 (.iload 4) 2 77 := ⟨by decide +kernel, rfl⟩
theorem d_law_77 : Own.D1 code 77 .iadd 1 78 := ⟨by decide +kernel, rfl⟩
theorem d_law_78 : Own.D1 code 78 (.bipush 18) 2 80 := ⟨by decide +kernel, rfl⟩
theorem d_law_80 : Own.D1 code 80 .iadd 1 81 := ⟨by decide +kernel, rfl⟩
theorem d_law_81 : Own.DB code 81 (.if_icmp .eq 5) 3 (5) 84 86 := ⟨by decide +kernel, rfl, by decide, rfl⟩
theorem d_law_84 : Own.D1 code 84 (.iconst 0) 1 85 := ⟨by decide +kernel, rfl⟩
theorem d_law_85 : Own.D1 code 85 .ireturn 1 86 := ⟨by decide +kernel, rfl⟩
theorem d_law_86 : Own.D1 code 86 (.aload 8) 2 88 := ⟨by decide +kernel, rfl⟩
theorem d_law_88 : Own.D1 code 88 (.aload 5) 2 90 := ⟨by decide +kernel, rfl⟩
theorem d_law_90 : Own.D1 code 90 (.aload 6) 2 92 := ⟨by decide +kernel, rfl⟩
theorem d_law_92 : Own.D1 code 92 (.invokestatic 39) 3 95 := ⟨by decide +kernel, rfl⟩
theorem d_law_95 : Own.DB code 95 (.ifCond .eq 19) 3 (19) 98 114 := ⟨by decide +kernel, rfl, by decide, rfl⟩
theorem d_law_98 : Own.D1 code 98 (.aload 8) 2 100 := ⟨by decide +kernel, rfl⟩
theorem d_law_100 : Own.D1 code 100 (.aload 5) 2 102 := ⟨by decide +kernel, rfl⟩
theorem d_law_102 : Own.D1 code 102 (.aload 6) 2 104 := ⟨by decide +kernel, rfl⟩
theorem d_law_104 : Own.D1 code 104 (.invokestatic 43) 3 107 := ⟨by decide +kernel, rfl⟩
theorem d_law_107 : Own.DB code 107 (.ifCond .eq 7) 3 (7) 110 114 := ⟨by decide +kernel, rfl, by decide, rfl⟩
theorem d_law_110 : Own.D1 code 110 (.iconst 1) 1 111 := ⟨by decide +kernel, rfl⟩
theorem d_law_111 : Own.DB code 111 (.goto 4) 3 (4) 114 115 := ⟨by decide +kernel, rfl, by decide, rfl⟩
theorem d_law_114 : Own.D1 code 114 (.iconst 0) 1 115 := ⟨by decide +kernel, rfl⟩
theorem d_law_115 : Own.D1 code 115 .ireturn 1 116 := ⟨by decide +kernel, rfl⟩
theorem np_law : Own.npar "(III)Z" = some 3 := by decide +kernel
set_option maxRecDepth 65536 in
set_option maxHeartbeats 40000000 in
theorem c_law {G : Own.Wd} {a0 : Array Value} (e : Ev G a0) {p0 p1 p2 : Int32} {h : Heap}  : Met G I_law #[(.int p0), (.int p1), (.int p2)] h [] (Rt (fun x h' S' => x = .int 1)) := by
  refine Met.intro (ls := #[.val (.int p0), .val (.int p1), .val (.int p2), .unset, .unset, .unset, .unset, .unset, .unset]) (plainFor_of_name pn_13) (fun m => by first | (simp [entryFrame, mkF, argsToLocals, Value.category, maxLocals]; done) | (simp [entryFrame, mkF, argsToLocals, Value.category]; rfl) | rfl) ?_
  intro K
  refine Ru.iloadN d_law_0 rfl ?_
  refine Ru.iconst (x := 3) d_law_1 rfl ?_
  refine Ru.iand d_law_2 ?_
  obtain ⟨k1, hk1, e1⟩ := and3 (p0)
  refine WP.topI (show (p0 &&& (3 : Int32)) = (n32 k1) from e1) ?_
  refine Ru.istoreN d_law_3 (ls' := #[.val (.int p0), .val (.int p1), .val (.int p2), .val (.int (n32 k1)), .unset, .unset, .unset, .unset, .unset]) rfl ?_
  refine Ru.iloadN d_law_4 rfl ?_
  refine Ru.iconst (x := 2) d_law_5 rfl ?_
  refine Ru.iushr d_law_6 ?_
  refine Ru.iconst (x := 3) d_law_7 rfl ?_
  refine Ru.iand d_law_8 ?_
  obtain ⟨k2, hk2, e2⟩ := and3 (((p0).toUInt32 >>> ((2 : Int32) &&& 31).toUInt32).toInt32)
  refine WP.topI (show (((p0).toUInt32 >>> ((2 : Int32) &&& 31).toUInt32).toInt32 &&& (3 : Int32)) = (n32 k2) from e2) ?_
  refine Ru.istore d_law_9 (ls' := #[.val (.int p0), .val (.int p1), .val (.int p2), .val (.int (n32 k1)), .val (.int (n32 k2)), .unset, .unset, .unset, .unset]) rfl ?_
  refine Ru.iloadN d_law_11 rfl ?_
  refine Ru.iloadN d_law_12 rfl ?_
  refine Ru.callS0 (J := I_mk) (c_mk e hk1) d_law_13 (e.w 0 rfl) (e.w 1 rfl) (e.w 2 rfl) (e.w 3 rfl) (by decide) np_mk rfl (argsL := [(.int (n32 k1)), (.int p1)]) (rest := []) rfl rfl (fun _ q => nomatch q) (Nat.le_of_ble_eq_true rfl) (Nat.le_of_ble_eq_true rfl) (Nat.le_of_ble_eq_true rfl) (Nat.le_of_ble_eq_true rfl) (WP.rt ?_)
  rintro _ h1 S1 ⟨a1, t1, xs, rfl, rfl, K1, T1, L1⟩
  refine Ru.astore d_law_16 rfl (ls' := #[.val (.int p0), .val (.int p1), .val (.int p2), .val (.int (n32 k1)), .val (.int (n32 k2)), .val (.ref a1), .unset, .unset, .unset]) rfl ?_
  refine Ru.iload d_law_18 rfl ?_
  refine Ru.iloadN d_law_20 rfl ?_
  refine Ru.callS0 (J := I_mk) (c_mk e hk2) d_law_21 (e.w 0 rfl) (e.w 1 rfl) (e.w 2 rfl) (e.w 3 rfl) (by decide) np_mk rfl (argsL := [(.int (n32 k2)), (.int p2)]) (rest := []) rfl rfl (fun _ q => nomatch q) (Nat.le_of_ble_eq_true rfl) (Nat.le_of_ble_eq_true rfl) (Nat.le_of_ble_eq_true rfl) (Nat.le_of_ble_eq_true rfl) (WP.rt ?_)
  rintro _ h2 S2 ⟨a2, t2, ys, rfl, rfl, K2, T2, L2⟩
  have T1 := T1.keep K2 nin0 nin0
  refine Ru.astore d_law_24 rfl (ls' := #[.val (.int p0), .val (.int p1), .val (.int p2), .val (.int (n32 k1)), .val (.int (n32 k2)), .val (.ref a1), .val (.ref a2), .unset, .unset]) rfl ?_
  refine Ru.aload d_law_26 rfl rfl ?_
  refine Ru.aload d_law_28 rfl rfl ?_
  refine Ru.callS0 (J := I_aex) (c_aex e T1 T2 (by omega) (by omega)) d_law_30 (e.w 26 rfl) (e.w 27 rfl) (e.w 28 rfl) (e.w 29 rfl) (by decide) np_aex rfl (argsL := [(.ref a1), (.ref a2)]) (rest := []) rfl rfl (fun _ q => nomatch q) (Nat.le_of_ble_eq_true rfl) (Nat.le_of_ble_eq_true rfl) (Nat.le_of_ble_eq_true rfl) (Nat.le_of_ble_eq_true rfl) (WP.rt ?_)
  rintro _ h3 S3 ⟨a, r, s, t, rfl, rfl, K3, Sr, X3, F3, M3, T3⟩
  have T1 := T1.keep K3 nin0 nin0; have T2 := T2.keep K3 nin0 nin0
  refine Ru.astore d_law_33 rfl (ls' := #[.val (.int p0), .val (.int p1), .val (.int p2), .val (.int (n32 k1)), .val (.int (n32 k2)), .val (.ref a1), .val (.ref a2), .val (.ref a), .unset]) rfl ?_
  refine Ru.aload d_law_35 rfl rfl ?_
  refine Ru.ifnonnullY d_law_37 ?_
  refine Ru.aload d_law_42 rfl rfl ?_
  refine Ru.callV0 (J := I_gre) (c_gre e F3) d_law_44 X3 (e.w 224 rfl) (e.w 225 rfl) (nf_sel (e.w 227 rfl)) (e.w 227 rfl) (e.w 226 rfl) (e.w 28 rfl) (e.w 228 rfl) (by decide) np_gre rfl (a := a) (argsL := []) (rest := []) rfl rfl (fun _ q => nomatch q) (Nat.le_of_ble_eq_true rfl) (Nat.le_of_ble_eq_true rfl) (Nat.le_of_ble_eq_true rfl) (Nat.le_of_ble_eq_true rfl) (WP.rt ?_)
  rintro _ h3 S4 ⟨rfl, rfl, rfl⟩
  refine Ru.getstatic d_law_47 (e.w 229 rfl) Sr ?_
  refine Ru.acmpEqY d_law_50 rfl rfl rfl ?_
  refine Ru.aload d_law_55 rfl rfl ?_
  refine Ru.callVU0 (J := I_gme) (c_gme e M3) d_law_57 X3 (e.w 230 rfl) (e.w 231 rfl) (e.w 232 rfl) (e.w 234 rfl) (e.w 233 rfl) (e.w 183 rfl) (e.w 235 rfl) (by decide) np_gme rfl (a := a) (argsL := []) (rest := []) rfl rfl (fun _ q => nomatch q) (Nat.le_of_ble_eq_true rfl) (Nat.le_of_ble_eq_true rfl) (Nat.le_of_ble_eq_true rfl) (Nat.le_of_ble_eq_true rfl) (WP.rt ?_)
  rintro _ h3 S5 ⟨rfl, rfl, rfl⟩
  refine Ru.astore d_law_60 rfl (ls' := #[.val (.int p0), .val (.int p1), .val (.int p2), .val (.int (n32 k1)), .val (.int (n32 k2)), .val (.ref a1), .val (.ref a2), .val (.ref a), .val (.ref s)]) rfl ?_
  refine Ru.aload d_law_62 rfl rfl ?_
  refine Ru.ifnonnullY d_law_64 ?_
  refine Ru.aload d_law_69 rfl rfl ?_
  refine Ru.callV0 (J := I_slen) (c_slen e T3) d_law_71 T3.1 (e.w 236 rfl) (e.w 64 rfl) (nf_sel (e.w 66 rfl)) (e.w 66 rfl) (e.w 65 rfl) (e.w 6 rfl) (e.w 67 rfl) (by decide) np_slen rfl (a := s) (argsL := []) (rest := []) rfl rfl (fun _ q => nomatch q) (Nat.le_of_ble_eq_true rfl) (Nat.le_of_ble_eq_true rfl) (Nat.le_of_ble_eq_true rfl) (Nat.le_of_ble_eq_true rfl) (WP.rt ?_)
  rintro _ h3 S6 ⟨rfl, rfl, rfl⟩
  refine Ru.iloadN d_law_74 rfl ?_
  refine Ru.iload d_law_75 rfl ?_
  refine Ru.iadd d_law_77 ?_
  refine Ru.bipush (x := 18) d_law_78 rfl ?_
  refine Ru.iadd d_law_80 ?_
  refine Ru.icmpY d_law_81 (show (n32 (full xs ys).length) = (((n32 k1) + (n32 k2)) + (18 : Int32)) from (by rw [full_len, L1, L2, show (18 : Int32) = n32 18 from rfl, n32_add, n32_add]; exact congrArg n32 (by omega))) ?_
  refine Ru.aload d_law_86 rfl rfl ?_
  refine Ru.aload d_law_88 rfl rfl ?_
  refine Ru.aload d_law_90 rfl rfl ?_
  refine Ru.callSL (J := I_fh) (c_fh e T3 T1 T2 (by omega) (by omega)) d_law_92 (e.w 237 rfl) (e.w 238 rfl) (e.w 2 rfl) (e.w 239 rfl) (by decide) np_fh rfl (argsL := [(.ref s), (.ref a1), (.ref a2)]) (rest := []) rfl rfl (fun _ q => nomatch q) (Nat.le_of_ble_eq_true rfl) (Nat.le_of_ble_eq_true rfl) (Nat.le_of_ble_eq_true rfl) (Nat.le_of_ble_eq_true rfl) (WP.rt ?_)
  rintro _ h4 S7 ⟨rfl, K4, rfl⟩
  have T1 := T1.keep K4 nin0 nin0; have T2 := T2.keep K4 nin0 nin0; have T3 := T3.keep K4 nin0 nin0
  refine Ru.ifN d_law_95 (show ¬ (1 : Int32) = (0 : Int32) from (by decide)) ?_
  refine Ru.aload d_law_98 rfl rfl ?_
  refine Ru.aload d_law_100 rfl rfl ?_
  refine Ru.aload d_law_102 rfl rfl ?_
  refine Ru.callS0 (J := I_sh) (c_sh e T3 T1 T2 (by omega) (by omega)) d_law_104 (e.w 269 rfl) (e.w 270 rfl) (e.w 2 rfl) (e.w 271 rfl) (by decide) np_sh rfl (argsL := [(.ref s), (.ref a1), (.ref a2)]) (rest := []) rfl rfl (fun _ q => nomatch q) (Nat.le_of_ble_eq_true rfl) (Nat.le_of_ble_eq_true rfl) (Nat.le_of_ble_eq_true rfl) (Nat.le_of_ble_eq_true rfl) (WP.rt ?_)
  rintro _ h5 S8 ⟨rfl, rfl, rfl⟩
  refine Ru.ifN d_law_107 (show ¬ (1 : Int32) = (0 : Int32) from (by decide)) ?_
  refine Ru.iconst (x := 1) d_law_110 rfl ?_
  refine Ru.goto d_law_111 ?_
  exact Ru.ireturnN (t := .boolean) (x' := (1 : Int32)) d_law_115 rfl (by simp) rfl [] (fun _ q => nomatch q) (Nat.le_of_ble_eq_true rfl) (Nat.le_of_ble_eq_true rfl) ⟨_, rfl, rfl⟩
set_option maxRecDepth 65536 in
set_option maxHeartbeats 40000000 in
theorem comes_1 {Post : Tables → Env → Array Value → State → Outcome → State → Prop} (hpost : ∀ tb e args s v u, (limb_1_1.after args s (.returned v) u = true ∧ limb_1_2.after args s (.returned v) u = true ∧ True) → ReturnedEndW s (.returned v) u (Jvm.fieldLocs frame_1_writes args s ++ Jvm.arrayLocs frame_1_arrays args s ++ Jvm.staticLocs frame_1_statics s) 48 9920 → Post tb e args s (.returned v) u) :
    ArmFor flags0 classFile x code maxLocals ret World_1 tables_1 room_1 Calls_1 rest_1 Pre_1 Post := by
  intro l hfl _ _ p e ha hc hk s m args below hf hA hF happ hP
  obtain ⟨hcalls, hrest, hpre⟩ := hP
  obtain ⟨-, -, -, hnamed, -, -, -, hat⟩ := (Spec.applies_iff hf).mp happ
  obtain ⟨hg, hn⟩ := and_e (Cond.before_iff.mp (show (Jvm.Cond.and given_1 narrow_1).before args s = true from hpre))
  obtain ⟨hg0, hgs⟩ := and_e hg
  obtain ⟨ga0, gr0⟩ := and_e hgs
  obtain ⟨ga1, gr1⟩ := and_e gr0
  have ga2 := gr1
  obtain ⟨w0, w1, w2, rfl⟩ : ∃ w0 w1 w2 : Value, args = #[w0, w1, w2] := by
    have hs : args.size = 3 := by simpa [Cond.value, given_1] using hg0
    obtain ⟨L⟩ := args
    match L, hs with
    | [w0, w1, w2], _ => exact ⟨w0, w1, w2, rfl⟩
  have hw := fun d (hd : d ∈ tables_1) => atoms_spec (ws := Jvm.Cond.code x code maxLocals ret :: tables_1) hat d (List.mem_cons_of_mem _ hd)
  obtain ⟨hsets, hown0⟩ := atoms_of _ (rest_1_c_eq ▸ (show rest_1_c.before _ s = true from hrest))
  have hfit : Fit s := fun {y c} hc i hi => by
    obtain ⟨ha, rfl⟩ := Array.getElem?_eq_some_iff.mp hc
    have q := List.all_eq_true.mp ((Array.all_eq_true_iff_forall_mem.mp hF) _ (Array.getElem_mem ha)) i (List.mem_range.mpr hi)
    simpa [Array.getElem?_eq_getElem hi] using q
  obtain ⟨i0, ei0⟩ := is_v ga0
  obtain rfl : w0 = (.int i0) := Option.some.inj ei0
  obtain ⟨i1, ei1⟩ := is_v ga1
  obtain rfl : w1 = (.int i1) := Option.some.inj ei1
  obtain ⟨i2, ei2⟩ := is_v ga2
  obtain rfl : w2 = (.int i2) := Option.some.inj ei2
  have n5 := not_v (Cond.before_iff.mp (hsets _ (List.mem_of_getElem? (i := 2) rfl)))
  obtain ⟨cz, ecz⟩ := is_v (Cond.before_iff.mp (hsets _ (List.mem_of_getElem? (i := 1) rfl)))
  have Scz : Sta s s.heap "java/lang/String" "COMPACT_STRINGS" "Z" (.int cz) := Sta.start ecz (Or.inl (hsets _ (List.mem_of_getElem? (i := 0) rfl)))
  have ncz : ¬ (cz = (0 : Int32)) := gotF (Cond.eq_ints ecz (Term.int_eval (0))) n5
  obtain ⟨vfm, efm, rfm⟩ := isR_v (Cond.before_iff.mp (hsets _ (List.mem_of_getElem? (i := 8) rfl)))
  have Sfm : Sta s s.heap "jdk/internal/util/Preconditions" "SIOOBE_FORMATTER" "Ljava/util/function/BiFunction;" vfm := Sta.start efm (Or.inl (hsets _ (List.mem_of_getElem? (i := 7) rfl)))
  obtain ⟨ua, eu⟩ := arr_v (Cond.before_iff.mp (hsets _ (List.mem_of_getElem? (i := 17) rfl)))
  have Su : Sta s s.heap "java/lang/Throwable" "UNASSIGNED_STACK" "[Ljava/lang/StackTraceElement;" (.ref ua) := Sta.start eu (Or.inl (hsets _ (List.mem_of_getElem? (i := 15) rfl)))
  obtain ⟨vs, es, rs⟩ := isR_v (Cond.before_iff.mp (hsets _ (List.mem_of_getElem? (i := 21) rfl)))
  have Ss : Sta s s.heap "java/lang/Throwable" "SUPPRESSED_SENTINEL" "Ljava/util/List;" vs := Sta.start es (Or.inl (hsets _ (List.mem_of_getElem? (i := 20) rfl)))
  obtain ⟨ra, -, Sr, -⟩ := sta_exa hn (hw _ (List.mem_of_getElem? (i := 33) rfl)) (hw _ (List.mem_of_getElem? (i := 34) rfl))
  have ev : Ev ((l, s, lits_1, false, true) : Own.Wd) _ := ⟨hw, ⟨cz, Scz, ncz⟩, rfl, fun p hp => hp, ⟨vfm, rfm, Sfm⟩, ⟨rfl, (by unfold Launch.stackTraces; rw [hfl]; decide), ⟨⟨.ref ua, rfl, (by simp), Su⟩, ⟨vs, rs, Ss⟩⟩, ⟨ra, Sr⟩⟩⟩
  have M := c_law ev (p0 := i0) (p1 := i1) (p2 := i2) (h := s.heap)
  obtain ⟨n, o, h1, h2, h3, v, L, rfl, ⟨⟨S, ⟨x, rfl, rfl⟩, -⟩, N, -⟩, -, hR, hN⟩ := M #[] (EW.cons (hw _ (List.mem_of_getElem? (i := 101) rfl)) (by decide) (EW.cons (hw _ (List.mem_of_getElem? (i := 102) rfl)) (by decide) (EW.cons (hw _ (List.mem_of_getElem? (i := 268) rfl)) (by decide) (EW.cons (hw _ (List.mem_of_getElem? (i := 18) rfl)) (by decide) EW.nil)))) ⟨Nat.le_refl _, fun _ _ q => q⟩ tables_1 p e ha hc hk s m _ below hf ((Spec.applies_iff_loose hf).mp happ).1 ⟨rfl, State.Warmed39.refl s, rfl, (CHv.start (EW.cons (hw _ (List.mem_of_getElem? (i := 101) rfl)) (by decide) (EW.cons (hw _ (List.mem_of_getElem? (i := 102) rfl)) (by decide) (EW.cons (hw _ (List.mem_of_getElem? (i := 268) rfl)) (by decide) (EW.cons (hw _ (List.mem_of_getElem? (i := 18) rfl)) (by decide) EW.nil)))) (fun p hp => hcalls.2.2.1 p hp) (hsets _ (List.mem_of_getElem? (i := 2) rfl)) (hw _ (List.mem_of_getElem? (i := 19) rfl)) (hw _ (List.mem_of_getElem? (i := 5) rfl))), Own.Ws.nil, fun _ q => nomatch q⟩ (fun _ => ⟨MethodsKnown_of_tablesKnown hcalls.2.1, FramesKnown_of_framesKnown hcalls.1 hf⟩)
  refine ⟨n, _, h1, h2, h3, hpost _ _ _ _ _ _ ⟨Cond.after_iff.mpr rfl, Cond.after_iff.mpr (eq_i res_at (Term.int_eval (1)) rfl), trivial⟩ ⟨hR.1, hR.2.1, hR.2.2.1, (hR.2.2.2.sift fun y hy => Or.inr (N y hy)).mono (by decide) (by decide)⟩⟩
theorem main_1_1 : Claimed_1_1 := comes_1 fun _ _ _ _ _ _ h hF => ⟨h.1, hF⟩
theorem main_1_2 : Claimed_1_2 := comes_1 fun _ _ _ _ _ _ h hF => ⟨h.2.1, hF⟩
end Jvm.Pilot.@@N@@
namespace Jvm.Pilot.@@N@@
open Jvm Jvm.ClassFile Sem Op Lib Jvm.Free Jvm.Stand Jvm.Pilot.@@N@@.Jvm.D
/-! MADE BY PROGRAM (witnessworld.py) out of the Statement's table words and the real class files: 44 classes; the members and pool entries that the words name. The judged class is class 1, her method 1. -/
namespace start1
open Jvm.ClassFile
def u (s : String) : CpInfo := .utf8 (stringToUtf16 s)
/-- a pool by its gaps: so many unusable entries, then the entry; so many at the end -/
def gap : Nat → List CpInfo → List CpInfo
  | 0, r => r
  | n + 1, r => .unusable :: gap n r
def poolList (es : List (Nat × CpInfo)) (last : Nat) : List CpInfo := es.foldr (fun e r => gap e.1 (e.2 :: r)) (gap last [])
def pool (es : List (Nat × CpInfo)) (last : Nat) : Array CpInfo := ⟨poolList es last⟩
def fileOf (pool : Array CpInfo) (this : Nat) (attrs : Array Attribute := #[]) (ms : Array MethodInfo := #[]) (fl : Nat := 33) (sup : Nat := 0) (ifs : Array Nat := #[]) (fds : Array FieldInfo := #[]) : ClassFile where
  minorVersion := 0
  majorVersion := 65
  constantPool := pool
  accessFlags := fl
  thisClass := this
  superClass := sup
  interfaces := ifs
  fields := fds
  methods := ms
  attributes := attrs
def plain (name : String) (sup : Option ClassId) : Class where
  name := name
  kind := .ordinary
  loader := none
  accessFlags := 33
  super := sup
  interfaces := #[]
  cf := none
  fields := #[]
  methods := #[]
  instanceTypes := #[]
  staticTypes := #[]
  resolved := #[]
  callSites := []
  init := .initialized
  statics := none
  mirror := none

def pool0 : Array CpInfo := pool [(5, u "<init>"), (0, u "()V"), (1, .class_ 10), (1, u "java/lang/Object")] 113

def k0c0 : Code := { maxStack := 0, maxLocals := 1, code := object_method_1_code, exceptionTable := #[], attributes := #[] }
def k0m0 : Method := { name := "<init>", desc := "()V", sig := { parameters := [], returnType := none }, accessFlags := 1, code := some k0c0 }
/-- java/lang/Object -/
def k0 : Class := { plain "java/lang/Object" none with
  accessFlags := 33
  interfaces := #[]
  cf := some (fileOf pool0 8 #[] #[{ accessFlags := 1, nameIndex := 5, descriptorIndex := 6, attributes := #[] }] 33 0 #[] #[])
  fields := #[]
  methods := #[k0m0]
  instanceTypes := #[]
  staticTypes := #[]
  resolved := Array.replicate 124 none
  statics := none }

def pool1 : Array CpInfo := pool [(2, .class_ 4), (1, u "java/lang/Object"), (0, u "<init>"), (0, u "()V"), (0, .methodref 8 9), (0, .class_ 10), (0, .nameAndType 11 12), (0, u "com/example/ilan/ilan/engine/BrokerExceptionAlreadyExistsPinLaw"), (0, u "mk"), (0, u "(II)Ljava/lang/String;"), (0, .methodref 14 15), (0, .class_ 16), (0, .nameAndType 17 18), (0, u "com/example/ilan/ilan/engine/BrokerException"), (0, u "alreadyExists"), (0, u "(Ljava/lang/String;Ljava/lang/String;)Lcom/example/ilan/ilan/engine/BrokerException;"), (0, .methodref 14 20), (0, .nameAndType 21 22), (0, u "getReason"), (0, u "()Lcom/example/ilan/ilan/engine/BrokerException$Reason;"), (0, .fieldref 24 25), (0, .class_ 26), (0, .nameAndType 27 28), (0, u "com/example/ilan/ilan/engine/BrokerException$Reason"), (0, u "ALREADY_EXISTS"), (0, u "Lcom/example/ilan/ilan/engine/BrokerException$Reason;"), (0, .methodref 14 30), (0, .nameAndType 31 32), (0, u "getMessage"), (0, u "()Ljava/lang/String;"), (0, .methodref 34 35), (0, .class_ 36), (0, .nameAndType 37 38), (0, u "java/lang/String"), (0, u "length"), (0, u "()I"), (0, .methodref 8 40), (0, .nameAndType 41 42), (0, u "firstHalf"), (0, u "(Ljava/lang/String;Ljava/lang/String;Ljava/lang/String;)Z"), (0, .methodref 8 44), (0, .nameAndType 45 42), (0, u "secondHalf"), (0, .methodref 34 47), (0, .nameAndType 5 48), (0, u "([C)V"), (0, .methodref 34 50), (0, .nameAndType 51 52), (0, u "valueOf"), (0, u "(C)Ljava/lang/String;"), (0, .methodref 34 54), (0, .nameAndType 55 56), (0, u "charAt"), (0, u "(I)C"), (0, .string 58), (0, u "' already exists"), (0, .methodref 8 60), (0, .nameAndType 61 62), (0, u "exp"), (0, u "(ILjava/lang/String;Ljava/lang/String;)C"), (0, .methodref 8 64), (0, .nameAndType 65 66), (0, u "at"), (0, u "(Ljava/lang/String;ILjava/lang/String;Ljava/lang/String;)Z"), (2, u "law"), (0, u "(III)Z")] 5

def k1m0 : Method := { name := "<init>", desc := "()V", sig := { parameters := [], returnType := none }, accessFlags := 2, code := none }
def k1c1 : Code := { maxStack := 3, maxLocals := 9, code := code, exceptionTable := #[], attributes := #[] }
def k1m1 : Method := { name := "law", desc := "(III)Z", sig := { parameters := [.int, .int, .int], returnType := some .boolean }, accessFlags := 9, code := some k1c1 }
def k1c2 : Code := { maxStack := 6, maxLocals := 5, code := method_3_code, exceptionTable := #[], attributes := #[] }
def k1m2 : Method := { name := "mk", desc := "(II)Ljava/lang/String;", sig := { parameters := [.int, .int], returnType := some (.object "java/lang/String") }, accessFlags := 10, code := some k1c2 }
def k1c3 : Code := { maxStack := 3, maxLocals := 6, code := method_4_code, exceptionTable := #[], attributes := #[] }
def k1m3 : Method := { name := "exp", desc := "(ILjava/lang/String;Ljava/lang/String;)C", sig := { parameters := [.int, (.object "java/lang/String"), (.object "java/lang/String")], returnType := some .char }, accessFlags := 10, code := some k1c3 }
def k1c4 : Code := { maxStack := 4, maxLocals := 4, code := method_5_code, exceptionTable := #[], attributes := #[] }
def k1m4 : Method := { name := "at", desc := "(Ljava/lang/String;ILjava/lang/String;Ljava/lang/String;)Z", sig := { parameters := [(.object "java/lang/String"), .int, (.object "java/lang/String"), (.object "java/lang/String")], returnType := some .boolean }, accessFlags := 10, code := some k1c4 }
def k1c5 : Code := { maxStack := 4, maxLocals := 3, code := method_6_code, exceptionTable := #[], attributes := #[] }
def k1m5 : Method := { name := "firstHalf", desc := "(Ljava/lang/String;Ljava/lang/String;Ljava/lang/String;)Z", sig := { parameters := [(.object "java/lang/String"), (.object "java/lang/String"), (.object "java/lang/String")], returnType := some .boolean }, accessFlags := 10, code := some k1c5 }
def k1c6 : Code := { maxStack := 4, maxLocals := 3, code := method_7_code, exceptionTable := #[], attributes := #[] }
def k1m6 : Method := { name := "secondHalf", desc := "(Ljava/lang/String;Ljava/lang/String;Ljava/lang/String;)Z", sig := { parameters := [(.object "java/lang/String"), (.object "java/lang/String"), (.object "java/lang/String")], returnType := some .boolean }, accessFlags := 10, code := some k1c6 }
/-- com/example/ilan/ilan/engine/BrokerExceptionAlreadyExistsPinLaw -/
def k1 : Class := { plain "com/example/ilan/ilan/engine/BrokerExceptionAlreadyExistsPinLaw" (some 0) with
  accessFlags := 49
  interfaces := #[]
  cf := some (fileOf pool1 8 #[] #[{ accessFlags := 2, nameIndex := 5, descriptorIndex := 6, attributes := #[] }, { accessFlags := 9, nameIndex := 69, descriptorIndex := 70, attributes := #[] }, { accessFlags := 10, nameIndex := 11, descriptorIndex := 12, attributes := #[] }, { accessFlags := 10, nameIndex := 61, descriptorIndex := 62, attributes := #[] }, { accessFlags := 10, nameIndex := 65, descriptorIndex := 66, attributes := #[] }, { accessFlags := 10, nameIndex := 41, descriptorIndex := 42, attributes := #[] }, { accessFlags := 10, nameIndex := 45, descriptorIndex := 42, attributes := #[] }] 49 2 #[] #[])
  fields := #[]
  methods := #[k1m0, k1m1, k1m2, k1m3, k1m4, k1m5, k1m6]
  instanceTypes := #[]
  staticTypes := #[]
  resolved := Array.replicate 76 none
  statics := none }

def pool2 : Array CpInfo := pool [(1, .class_ 2), (0, u "java/io/Serializable"), (0, .class_ 4), (0, u "java/lang/Object")] 2

/-- java/io/Serializable -/
def k2 : Class := { plain "java/io/Serializable" (some 0) with
  accessFlags := 1537
  interfaces := #[]
  cf := some (fileOf pool2 1 #[] #[] 1537 3 #[] #[])
  fields := #[]
  methods := #[]
  instanceTypes := #[]
  staticTypes := #[]
  resolved := Array.replicate 7 none
  statics := none }

def pool3 : Array CpInfo := pool [(1, .class_ 2), (0, u "java/lang/Comparable"), (0, .class_ 4), (0, u "java/lang/Object")] 7

/-- java/lang/Comparable -/
def k3 : Class := { plain "java/lang/Comparable" (some 0) with
  accessFlags := 1537
  interfaces := #[]
  cf := some (fileOf pool3 1 #[] #[] 1537 3 #[] #[])
  fields := #[]
  methods := #[]
  instanceTypes := #[]
  staticTypes := #[]
  resolved := Array.replicate 12 none
  statics := none }

def pool4 : Array CpInfo := pool [(2, .class_ 4), (1, u "java/lang/CharSequence"), (42, .class_ 48), (0, u "java/lang/CharSequence$1CodePointIterator"), (10, .class_ 60), (0, u "java/lang/CharSequence$1CharIterator"), (5, .class_ 67), (0, u "java/lang/Object")] 63

/-- java/lang/CharSequence -/
def k4 : Class := { plain "java/lang/CharSequence" (some 0) with
  accessFlags := 1537
  interfaces := #[]
  cf := some (fileOf pool4 2 #[.nestMembers #[47, 59]] #[] 1537 66 #[] #[])
  fields := #[]
  methods := #[]
  instanceTypes := #[]
  staticTypes := #[]
  resolved := Array.replicate 131 none
  statics := none }

def pool5 : Array CpInfo := pool [(1, .class_ 2), (0, u "java/lang/constant/Constable"), (0, .class_ 4), (0, u "java/lang/Object")] 6

/-- java/lang/constant/Constable -/
def k5 : Class := { plain "java/lang/constant/Constable" (some 0) with
  accessFlags := 1537
  interfaces := #[]
  cf := some (fileOf pool5 1 #[] #[] 1537 3 #[] #[])
  fields := #[]
  methods := #[]
  instanceTypes := #[]
  staticTypes := #[]
  resolved := Array.replicate 11 none
  statics := none }

def pool6 : Array CpInfo := pool [(1, .class_ 2), (0, u "java/lang/constant/ConstantDesc"), (0, .class_ 4), (0, u "java/lang/Object")] 32

/-- java/lang/constant/ConstantDesc -/
def k6 : Class := { plain "java/lang/constant/ConstantDesc" (some 0) with
  accessFlags := 1537
  interfaces := #[]
  cf := some (fileOf pool6 1 #[] #[] 1537 3 #[] #[])
  fields := #[]
  methods := #[]
  instanceTypes := #[]
  staticTypes := #[]
  resolved := Array.replicate 37 none
  statics := none }

def pool7 : Array CpInfo := pool [(1, .methodref 2 3), (0, .class_ 4), (0, .nameAndType 5 6), (0, u "java/lang/Object"), (0, u "<init>"), (0, u "()V"), (0, .string 8), (0, u ""), (0, .fieldref 10 11), (0, .class_ 12), (0, .nameAndType 13 14), (0, u "java/lang/String"), (0, u "value"), (0, u "[B"), (0, .fieldref 10 16), (0, .nameAndType 17 18), (0, u "coder"), (0, u "B"), (2, u "hash"), (0, u "I"), (2, u "hashIsZero"), (0, u "Z"), (0, .methodref 10 28), (0, .nameAndType 5 29), (0, u "([CIILjava/lang/Void;)V"), (8, .fieldref 10 39), (0, .nameAndType 40 26), (0, u "COMPACT_STRINGS"), (1, .class_ 44), (1, u "java/lang/StringUTF16"), (0, u "compress"), (1, .methodref 42 48), (0, .nameAndType 49 50), (0, u "coderFromArrayLen"), (0, u "([BI)B"), (2, u "toBytes"), (0, .methodref 55 56), (0, .class_ 57), (0, .nameAndType 58 59), (0, u "java/util/Arrays"), (0, u "copyOfRange"), (0, u "([BII)[B"), (47, .class_ 109), (1, u "java/lang/StringLatin1"), (32, u "()Z"), (34, .methodref 42 178), (0, .nameAndType 45 179), (0, u "([CII)[B"), (13, .class_ 195), (1, u "java/lang/System"), (13, .methodref 10 210), (0, .nameAndType 5 211), (0, u "([BB)V"), (0, .methodref 193 213), (0, .nameAndType 214 215), (0, u "arraycopy"), (0, u "(Ljava/lang/Object;ILjava/lang/Object;II)V"), (118, u "()I"), (0, .methodref 10 336), (0, .nameAndType 17 337), (0, u "()B"), (2, u "()[B"), (22, u "([BI)C"), (5, u "(C)Z"), (21, u "(II)V"), (35, u "(I)C"), (61, .methodref 10 490), (0, .nameAndType 5 491), (0, u "(Ljava/lang/AbstractStringBuilder;Ljava/lang/Void;)V"), (0, .methodref 10 493), (0, .nameAndType 494 142), (0, u "isLatin1"), (0, .methodref 107 496), (0, .nameAndType 497 363), (0, u "charAt"), (3, u "checkIndex"), (4, .nameAndType 507 334), (0, u "length"), (24, u "getBytes"), (16, .methodref 550 506), (0, .class_ 551), (0, u "java/lang/AbstractStringBuilder"), (0, .methodref 550 553), (0, .nameAndType 554 340), (0, u "getValue"), (20, .class_ 576), (0, u "java/lang/CharSequence"), (22, u "CASE_INSENSITIVE_ORDER"), (0, u "Ljava/util/Comparator;"), (181, u "valueOf"), (0, u "(C)Ljava/lang/String;"), (37, u "([BIB)V"), (188, u "([C)V"), (4, .methodref 107 1016), (0, .nameAndType 1017 369), (0, u "canEncode"), (0, .methodref 107 1019), (0, .nameAndType 53 1020), (0, u "(C)[B"), (26, .methodref 550 493), (5, .fieldref 1054 1055), (0, .class_ 1056), (0, .nameAndType 1057 1058), (0, u "jdk/internal/util/Preconditions"), (0, u "SIOOBE_FORMATTER"), (0, u "Ljava/util/function/BiFunction;"), (0, .methodref 1054 1060), (0, .nameAndType 501 1061), (0, u "(IILjava/util/function/BiFunction;)I"), (39, u "serialPersistentFields"), (0, u "[Ljava/io/ObjectStreamField;"), (0, .class_ 1104), (0, u "java/lang/String$CaseInsensitiveComparator"), (1, .class_ 1107), (0, u "java/io/Serializable"), (0, .class_ 1109), (0, u "java/lang/Comparable"), (0, .class_ 1111), (0, u "java/lang/constant/Constable"), (0, .class_ 1113), (0, u "java/lang/constant/ConstantDesc"), (2, u "serialVersionUID"), (0, u "J"), (3, u "REPL"), (0, u "C"), (2, u "LATIN1"), (1, u "UTF16"), (105, u "(Ljava/lang/StringBuilder;)V")] 217

def k7m0 : Method := { name := "<init>", desc := "()V", sig := { parameters := [], returnType := none }, accessFlags := 1, code := none }
def k7c1 : Code := { maxStack := 5, maxLocals := 2, code := jdk_42_method_3_code, exceptionTable := #[], attributes := #[] }
def k7m1 : Method := { name := "<init>", desc := "([C)V", sig := { parameters := [(.array .char)], returnType := none }, accessFlags := 1, code := some k7c1 }
def k7c2 : Code := { maxStack := 3, maxLocals := 2, code := jdk_42_method_53_code, exceptionTable := #[], attributes := #[] }
def k7m2 : Method := { name := "<init>", desc := "(Ljava/lang/StringBuilder;)V", sig := { parameters := [(.object "java/lang/StringBuilder")], returnType := none }, accessFlags := 1, code := some k7c2 }
def k7c3 : Code := { maxStack := 2, maxLocals := 1, code := jdk_42_method_54_code, exceptionTable := #[], attributes := #[] }
def k7m3 : Method := { name := "length", desc := "()I", sig := { parameters := [], returnType := some .int }, accessFlags := 1, code := some k7c3 }
def k7c4 : Code := { maxStack := 2, maxLocals := 2, code := jdk_42_method_56_code, exceptionTable := #[], attributes := #[] }
def k7m4 : Method := { name := "charAt", desc := "(I)C", sig := { parameters := [.int], returnType := some .char }, accessFlags := 1, code := some k7c4 }
def k7c5 : Code := { maxStack := 4, maxLocals := 1, code := jdk_42_method_139_code, exceptionTable := #[], attributes := #[] }
def k7m5 : Method := { name := "valueOf", desc := "(C)Ljava/lang/String;", sig := { parameters := [.char], returnType := some (.object "java/lang/String") }, accessFlags := 9, code := some k7c5 }
def k7c6 : Code := { maxStack := 5, maxLocals := 4, code := jdk_42_method_147_code, exceptionTable := #[], attributes := #[] }
def k7m6 : Method := { name := "getBytes", desc := "([BIB)V", sig := { parameters := [(.array .byte), .int, .byte], returnType := none }, accessFlags := 0, code := some k7c6 }
def k7c7 : Code := { maxStack := 4, maxLocals := 6, code := jdk_42_method_149_code, exceptionTable := #[], attributes := #[] }
def k7m7 : Method := { name := "<init>", desc := "([CIILjava/lang/Void;)V", sig := { parameters := [(.array .char), .int, .int, (.object "java/lang/Void")], returnType := none }, accessFlags := 2, code := some k7c7 }
def k7c8 : Code := { maxStack := 5, maxLocals := 5, code := jdk_42_method_150_code, exceptionTable := #[], attributes := #[] }
def k7m8 : Method := { name := "<init>", desc := "(Ljava/lang/AbstractStringBuilder;Ljava/lang/Void;)V", sig := { parameters := [(.object "java/lang/AbstractStringBuilder"), (.object "java/lang/Void")], returnType := none }, accessFlags := 0, code := some k7c8 }
def k7c9 : Code := { maxStack := 2, maxLocals := 3, code := jdk_42_method_151_code, exceptionTable := #[], attributes := #[] }
def k7m9 : Method := { name := "<init>", desc := "([BB)V", sig := { parameters := [(.array .byte), .byte], returnType := none }, accessFlags := 0, code := some k7c9 }
def k7c10 : Code := { maxStack := 1, maxLocals := 1, code := jdk_42_method_152_code, exceptionTable := #[], attributes := #[] }
def k7m10 : Method := { name := "coder", desc := "()B", sig := { parameters := [], returnType := some .byte }, accessFlags := 0, code := some k7c10 }
def k7c11 : Code := { maxStack := 1, maxLocals := 1, code := jdk_42_method_154_code, exceptionTable := #[], attributes := #[] }
def k7m11 : Method := { name := "isLatin1", desc := "()Z", sig := { parameters := [], returnType := some .boolean }, accessFlags := 0, code := some k7c11 }
def k7c12 : Code := { maxStack := 3, maxLocals := 2, code := jdk_42_method_155_code, exceptionTable := #[], attributes := #[] }
def k7m12 : Method := { name := "checkIndex", desc := "(II)V", sig := { parameters := [.int, .int], returnType := none }, accessFlags := 8, code := some k7c12 }
/-- java/lang/String -/
def k7 : Class := { plain "java/lang/String" (some 0) with
  accessFlags := 49
  interfaces := #[2, 3, 4, 5, 6]
  cf := some (fileOf pool7 10 #[.nestMembers #[1103]] #[{ accessFlags := 1, nameIndex := 5, descriptorIndex := 6, attributes := #[] }, { accessFlags := 1, nameIndex := 5, descriptorIndex := 1010, attributes := #[] }, { accessFlags := 1, nameIndex := 5, descriptorIndex := 1233, attributes := #[] }, { accessFlags := 1, nameIndex := 507, descriptorIndex := 334, attributes := #[] }, { accessFlags := 1, nameIndex := 497, descriptorIndex := 427, attributes := #[] }, { accessFlags := 9, nameIndex := 782, descriptorIndex := 783, attributes := #[] }, { accessFlags := 0, nameIndex := 532, descriptorIndex := 821, attributes := #[] }, { accessFlags := 2, nameIndex := 5, descriptorIndex := 29, attributes := #[] }, { accessFlags := 0, nameIndex := 5, descriptorIndex := 491, attributes := #[] }, { accessFlags := 0, nameIndex := 5, descriptorIndex := 211, attributes := #[] }, { accessFlags := 0, nameIndex := 17, descriptorIndex := 337, attributes := #[] }, { accessFlags := 0, nameIndex := 494, descriptorIndex := 142, attributes := #[] }, { accessFlags := 8, nameIndex := 501, descriptorIndex := 391, attributes := #[] }] 49 2 #[1106, 1108, 575, 1110, 1112] #[{ accessFlags := 18, nameIndex := 13, descriptorIndex := 14, attributes := #[] }, { accessFlags := 18, nameIndex := 17, descriptorIndex := 18, attributes := #[] }, { accessFlags := 2, nameIndex := 21, descriptorIndex := 22, attributes := #[] }, { accessFlags := 2, nameIndex := 25, descriptorIndex := 26, attributes := #[] }, { accessFlags := 26, nameIndex := 1116, descriptorIndex := 1117, attributes := #[] }, { accessFlags := 24, nameIndex := 40, descriptorIndex := 26, attributes := #[] }, { accessFlags := 26, nameIndex := 1101, descriptorIndex := 1102, attributes := #[] }, { accessFlags := 26, nameIndex := 1121, descriptorIndex := 1122, attributes := #[] }, { accessFlags := 25, nameIndex := 599, descriptorIndex := 600, attributes := #[] }, { accessFlags := 24, nameIndex := 1125, descriptorIndex := 18, attributes := #[] }, { accessFlags := 24, nameIndex := 1127, descriptorIndex := 18, attributes := #[] }])
  fields := #[{ name := "value", type := (.array .byte), accessFlags := 18, slot := 0, constantValue := 0 }, { name := "coder", type := .byte, accessFlags := 18, slot := 1, constantValue := 0 }, { name := "hash", type := .int, accessFlags := 2, slot := 2, constantValue := 0 }, { name := "hashIsZero", type := .boolean, accessFlags := 2, slot := 3, constantValue := 0 }, { name := "serialVersionUID", type := .long, accessFlags := 26, slot := 0, constantValue := 0 }, { name := "COMPACT_STRINGS", type := .boolean, accessFlags := 24, slot := 1, constantValue := 0 }, { name := "serialPersistentFields", type := (.array (.object "java/io/ObjectStreamField")), accessFlags := 26, slot := 2, constantValue := 0 }, { name := "REPL", type := .char, accessFlags := 26, slot := 3, constantValue := 0 }, { name := "CASE_INSENSITIVE_ORDER", type := (.object "java/util/Comparator"), accessFlags := 25, slot := 4, constantValue := 0 }, { name := "LATIN1", type := .byte, accessFlags := 24, slot := 5, constantValue := 0 }, { name := "UTF16", type := .byte, accessFlags := 24, slot := 6, constantValue := 0 }]
  methods := #[k7m0, k7m1, k7m2, k7m3, k7m4, k7m5, k7m6, k7m7, k7m8, k7m9, k7m10, k7m11, k7m12]
  instanceTypes := #[(.array .byte), .byte, .int, .boolean]
  staticTypes := #[.long, .boolean, (.array (.object "java/io/ObjectStreamField")), .char, (.object "java/util/Comparator"), .byte, .byte]
  resolved := Array.replicate 1451 none
  statics := some 0 }

def pool8 : Array CpInfo := pool [(1, .methodref 2 3), (0, .class_ 4), (0, .nameAndType 5 6), (0, u "java/lang/Object"), (0, u "<init>"), (0, u "()V"), (0, .fieldref 8 9), (0, .class_ 10), (0, .nameAndType 11 12), (0, u "java/lang/Throwable"), (0, u "cause"), (0, u "Ljava/lang/Throwable;"), (0, .fieldref 8 14), (0, .nameAndType 15 16), (0, u "UNASSIGNED_STACK"), (0, u "[Ljava/lang/StackTraceElement;"), (0, .fieldref 8 18), (0, .nameAndType 19 16), (0, u "stackTrace"), (0, .fieldref 8 21), (0, .nameAndType 22 23), (0, u "SUPPRESSED_SENTINEL"), (0, u "Ljava/util/List;"), (0, .fieldref 8 25), (0, .nameAndType 26 23), (0, u "suppressedExceptions"), (0, .methodref 8 28), (0, .nameAndType 29 30), (0, u "fillInStackTrace"), (0, u "()Ljava/lang/Throwable;"), (0, .fieldref 8 32), (0, .nameAndType 33 34), (0, u "detailMessage"), (0, u "Ljava/lang/String;"), (3, u "()Ljava/lang/String;"), (2, u "getMessage"), (51, .class_ 94), (0, u "java/lang/Throwable$WrappedPrintStream"), (6, .class_ 103), (1, u "java/lang/Throwable$PrintStreamOrWriter"), (61, u "$assertionsDisabled"), (0, u "Z"), (26, .class_ 194), (0, u "java/lang/Throwable$WrappedPrintWriter"), (3, .fieldref 8 199), (0, .nameAndType 200 201), (0, u "backtrace"), (0, u "Ljava/lang/Object;"), (0, .methodref 8 203), (0, .nameAndType 29 204), (0, u "(I)Ljava/lang/Throwable;"), (6, u "depth"), (0, u "I"), (10, u "(Ljava/lang/String;)V"), (45, .class_ 271), (1, u "java/lang/Throwable$SentinelHolder"), (32, u "EMPTY_THROWABLE_ARRAY"), (0, u "[Ljava/lang/Throwable;"), (12, .class_ 319), (0, u "java/io/Serializable"), (0, u "serialVersionUID"), (0, u "J"), (5, u "NULL_CAUSE_MESSAGE"), (0, u "SELF_SUPPRESSION_MESSAGE"), (0, u "CAUSE_CAPTION"), (0, u "SUPPRESSED_CAPTION")] 73

def k8c0 : Code := { maxStack := 2, maxLocals := 1, code := jdk_78_method_1_code, exceptionTable := #[], attributes := #[] }
def k8m0 : Method := { name := "<init>", desc := "()V", sig := { parameters := [], returnType := none }, accessFlags := 1, code := some k8c0 }
def k8c1 : Code := { maxStack := 2, maxLocals := 2, code := jdk_78_method_2_code, exceptionTable := #[], attributes := #[] }
def k8m1 : Method := { name := "<init>", desc := "(Ljava/lang/String;)V", sig := { parameters := [(.object "java/lang/String")], returnType := none }, accessFlags := 1, code := some k8c1 }
def k8c2 : Code := { maxStack := 1, maxLocals := 1, code := jdk_78_method_6_code, exceptionTable := #[], attributes := #[] }
def k8m2 : Method := { name := "getMessage", desc := "()Ljava/lang/String;", sig := { parameters := [], returnType := some (.object "java/lang/String") }, accessFlags := 1, code := some k8c2 }
def k8c3 : Code := { maxStack := 2, maxLocals := 1, code := ⟨#[0x2a, 0xb4, 0x00, 0x11, 0xc7, 0x00, 0x0a, 0x2a, 0xb4, 0x00, 0xc6, 0xc6, 0x00, 0x10, 0x2a, 0x03, 0xb6, 0x00, 0xca, 0x57, 0x2a, 0xb2, 0x00, 0x0d, 0xb5, 0x00, 0x11, 0x2a, 0xb0]⟩, exceptionTable := #[], attributes := #[] }
def k8m3 : Method := { name := "fillInStackTrace", desc := "()Ljava/lang/Throwable;", sig := { parameters := [], returnType := some (.object "java/lang/Throwable") }, accessFlags := 33, code := some k8c3 }
def k8m4 : Method := { name := "fillInStackTrace", desc := "(I)Ljava/lang/Throwable;", sig := { parameters := [.int], returnType := some (.object "java/lang/Throwable") }, accessFlags := 258, code := none }
/-- java/lang/Throwable -/
def k8 : Class := { plain "java/lang/Throwable" (some 0) with
  accessFlags := 33
  interfaces := #[2]
  cf := some (fileOf pool8 8 #[.nestMembers #[193, 93, 101, 269]] #[{ accessFlags := 1, nameIndex := 5, descriptorIndex := 6, attributes := #[] }, { accessFlags := 1, nameIndex := 5, descriptorIndex := 223, attributes := #[] }, { accessFlags := 1, nameIndex := 41, descriptorIndex := 38, attributes := #[] }, { accessFlags := 33, nameIndex := 29, descriptorIndex := 30, attributes := #[] }, { accessFlags := 258, nameIndex := 29, descriptorIndex := 204, attributes := #[] }] 33 2 #[318] #[{ accessFlags := 26, nameIndex := 320, descriptorIndex := 321, attributes := #[] }, { accessFlags := 130, nameIndex := 200, descriptorIndex := 201, attributes := #[] }, { accessFlags := 2, nameIndex := 33, descriptorIndex := 34, attributes := #[] }, { accessFlags := 26, nameIndex := 15, descriptorIndex := 16, attributes := #[] }, { accessFlags := 2, nameIndex := 11, descriptorIndex := 12, attributes := #[] }, { accessFlags := 2, nameIndex := 19, descriptorIndex := 16, attributes := #[] }, { accessFlags := 130, nameIndex := 211, descriptorIndex := 212, attributes := #[] }, { accessFlags := 26, nameIndex := 22, descriptorIndex := 23, attributes := #[] }, { accessFlags := 2, nameIndex := 26, descriptorIndex := 23, attributes := #[] }, { accessFlags := 26, nameIndex := 327, descriptorIndex := 34, attributes := #[] }, { accessFlags := 26, nameIndex := 328, descriptorIndex := 34, attributes := #[] }, { accessFlags := 26, nameIndex := 329, descriptorIndex := 34, attributes := #[] }, { accessFlags := 26, nameIndex := 330, descriptorIndex := 34, attributes := #[] }, { accessFlags := 26, nameIndex := 304, descriptorIndex := 305, attributes := #[] }, { accessFlags := 4120, nameIndex := 165, descriptorIndex := 166, attributes := #[] }])
  fields := #[{ name := "serialVersionUID", type := .long, accessFlags := 26, slot := 0, constantValue := 0 }, { name := "backtrace", type := (.object "java/lang/Object"), accessFlags := 130, slot := 0, constantValue := 0 }, { name := "detailMessage", type := (.object "java/lang/String"), accessFlags := 2, slot := 1, constantValue := 0 }, { name := "UNASSIGNED_STACK", type := (.array (.object "java/lang/StackTraceElement")), accessFlags := 26, slot := 1, constantValue := 0 }, { name := "cause", type := (.object "java/lang/Throwable"), accessFlags := 2, slot := 2, constantValue := 0 }, { name := "stackTrace", type := (.array (.object "java/lang/StackTraceElement")), accessFlags := 2, slot := 3, constantValue := 0 }, { name := "depth", type := .int, accessFlags := 130, slot := 4, constantValue := 0 }, { name := "SUPPRESSED_SENTINEL", type := (.object "java/util/List"), accessFlags := 26, slot := 2, constantValue := 0 }, { name := "suppressedExceptions", type := (.object "java/util/List"), accessFlags := 2, slot := 5, constantValue := 0 }, { name := "NULL_CAUSE_MESSAGE", type := (.object "java/lang/String"), accessFlags := 26, slot := 3, constantValue := 0 }, { name := "SELF_SUPPRESSION_MESSAGE", type := (.object "java/lang/String"), accessFlags := 26, slot := 4, constantValue := 0 }, { name := "CAUSE_CAPTION", type := (.object "java/lang/String"), accessFlags := 26, slot := 5, constantValue := 0 }, { name := "SUPPRESSED_CAPTION", type := (.object "java/lang/String"), accessFlags := 26, slot := 6, constantValue := 0 }, { name := "EMPTY_THROWABLE_ARRAY", type := (.array (.object "java/lang/Throwable")), accessFlags := 26, slot := 7, constantValue := 0 }, { name := "$assertionsDisabled", type := .boolean, accessFlags := 4120, slot := 8, constantValue := 0 }]
  methods := #[k8m0, k8m1, k8m2, k8m3, k8m4]
  instanceTypes := #[(.object "java/lang/Object"), (.object "java/lang/String"), (.object "java/lang/Throwable"), (.array (.object "java/lang/StackTraceElement")), .int, (.object "java/util/List")]
  staticTypes := #[.long, (.array (.object "java/lang/StackTraceElement")), (.object "java/util/List"), (.object "java/lang/String"), (.object "java/lang/String"), (.object "java/lang/String"), (.object "java/lang/String"), (.array (.object "java/lang/Throwable")), .boolean]
  resolved := Array.replicate 404 none
  statics := some 1 }

def pool9 : Array CpInfo := pool [(2, .class_ 4), (1, u "java/lang/Throwable"), (0, u "<init>"), (0, u "()V"), (0, .methodref 2 8), (0, .nameAndType 5 9), (0, u "(Ljava/lang/String;)V"), (9, .class_ 20), (0, u "java/lang/Exception"), (0, u "serialVersionUID"), (0, u "J")] 17

def k9m0 : Method := { name := "<init>", desc := "()V", sig := { parameters := [], returnType := none }, accessFlags := 1, code := none }
def k9c1 : Code := { maxStack := 2, maxLocals := 2, code := jdk_59_method_2_code, exceptionTable := #[], attributes := #[] }
def k9m1 : Method := { name := "<init>", desc := "(Ljava/lang/String;)V", sig := { parameters := [(.object "java/lang/String")], returnType := none }, accessFlags := 1, code := some k9c1 }
/-- java/lang/Exception -/
def k9 : Class := { plain "java/lang/Exception" (some 8) with
  accessFlags := 33
  interfaces := #[]
  cf := some (fileOf pool9 19 #[] #[{ accessFlags := 1, nameIndex := 5, descriptorIndex := 6, attributes := #[] }, { accessFlags := 1, nameIndex := 5, descriptorIndex := 9, attributes := #[] }] 33 2 #[] #[{ accessFlags := 24, nameIndex := 21, descriptorIndex := 22, attributes := #[] }])
  fields := #[{ name := "serialVersionUID", type := .long, accessFlags := 24, slot := 0, constantValue := 0 }]
  methods := #[k9m0, k9m1]
  instanceTypes := #[(.object "java/lang/Object"), (.object "java/lang/String"), (.object "java/lang/Throwable"), (.array (.object "java/lang/StackTraceElement")), .int, (.object "java/util/List")]
  staticTypes := #[.long]
  resolved := Array.replicate 40 none
  statics := none }

def pool10 : Array CpInfo := pool [(2, .class_ 4), (1, u "java/lang/Exception"), (0, u "<init>"), (0, u "()V"), (0, .methodref 2 8), (0, .nameAndType 5 9), (0, u "(Ljava/lang/String;)V"), (9, .class_ 20), (0, u "java/lang/RuntimeException"), (0, u "serialVersionUID"), (0, u "J")] 17

def k10m0 : Method := { name := "<init>", desc := "()V", sig := { parameters := [], returnType := none }, accessFlags := 1, code := none }
def k10c1 : Code := { maxStack := 2, maxLocals := 2, code := jdk_58_method_2_code, exceptionTable := #[], attributes := #[] }
def k10m1 : Method := { name := "<init>", desc := "(Ljava/lang/String;)V", sig := { parameters := [(.object "java/lang/String")], returnType := none }, accessFlags := 1, code := some k10c1 }
/-- java/lang/RuntimeException -/
def k10 : Class := { plain "java/lang/RuntimeException" (some 9) with
  accessFlags := 33
  interfaces := #[]
  cf := some (fileOf pool10 19 #[] #[{ accessFlags := 1, nameIndex := 5, descriptorIndex := 6, attributes := #[] }, { accessFlags := 1, nameIndex := 5, descriptorIndex := 9, attributes := #[] }] 33 2 #[] #[{ accessFlags := 24, nameIndex := 21, descriptorIndex := 22, attributes := #[] }])
  fields := #[{ name := "serialVersionUID", type := .long, accessFlags := 24, slot := 0, constantValue := 0 }]
  methods := #[k10m0, k10m1]
  instanceTypes := #[(.object "java/lang/Object"), (.object "java/lang/String"), (.object "java/lang/Throwable"), (.array (.object "java/lang/StackTraceElement")), .int, (.object "java/util/List")]
  staticTypes := #[.long]
  resolved := Array.replicate 40 none
  statics := none }

def pool11 : Array CpInfo := pool [(1, .methodref 2 3), (0, .class_ 4), (0, .nameAndType 5 6), (0, u "java/lang/RuntimeException"), (0, u "<init>"), (0, u "(Ljava/lang/String;)V"), (0, .fieldref 8 9), (0, .class_ 10), (0, .nameAndType 11 12), (0, u "com/example/ilan/ilan/engine/BrokerException"), (0, u "reason"), (0, u "Lcom/example/ilan/ilan/engine/BrokerException$Reason;"), (1, .class_ 16), (1, u "com/example/ilan/ilan/engine/BrokerException$Reason"), (1, .methodref 8 19), (0, .nameAndType 5 20), (0, u "(Lcom/example/ilan/ilan/engine/BrokerException$Reason;Ljava/lang/String;)V"), (3, .class_ 25), (0, u "java/lang/StringBuilder"), (0, .methodref 24 27), (0, .nameAndType 5 28), (0, u "()V"), (0, .methodref 24 30), (0, .nameAndType 31 32), (0, u "append"), (0, u "(Ljava/lang/String;)Ljava/lang/StringBuilder;"), (0, .string 34), (0, u " '"), (2, .methodref 24 38), (0, .nameAndType 39 40), (0, u "toString"), (0, u "()Ljava/lang/String;"), (0, .fieldref 14 42), (0, .nameAndType 43 12), (0, u "ALREADY_EXISTS"), (0, .string 45), (0, u "' already exists"), (6, u "serialVersionUID"), (0, u "J"), (5, u "getReason"), (0, u "()Lcom/example/ilan/ilan/engine/BrokerException$Reason;"), (3, u "(Ljava/lang/String;Ljava/lang/String;)Lcom/example/ilan/ilan/engine/BrokerException;"), (0, u "alreadyExists")] 7

def k11c0 : Code := { maxStack := 2, maxLocals := 3, code := prog_1_method_1_code, exceptionTable := #[], attributes := #[] }
def k11m0 : Method := { name := "<init>", desc := "(Lcom/example/ilan/ilan/engine/BrokerException$Reason;Ljava/lang/String;)V", sig := { parameters := [(.object "com/example/ilan/ilan/engine/BrokerException$Reason"), (.object "java/lang/String")], returnType := none }, accessFlags := 2, code := some k11c0 }
def k11c1 : Code := { maxStack := 1, maxLocals := 1, code := prog_1_method_2_code, exceptionTable := #[], attributes := #[] }
def k11m1 : Method := { name := "getReason", desc := "()Lcom/example/ilan/ilan/engine/BrokerException$Reason;", sig := { parameters := [], returnType := some (.object "com/example/ilan/ilan/engine/BrokerException$Reason") }, accessFlags := 1, code := some k11c1 }
def k11c2 : Code := { maxStack := 5, maxLocals := 2, code := prog_1_method_5_code, exceptionTable := #[], attributes := #[] }
def k11m2 : Method := { name := "alreadyExists", desc := "(Ljava/lang/String;Ljava/lang/String;)Lcom/example/ilan/ilan/engine/BrokerException;", sig := { parameters := [(.object "java/lang/String"), (.object "java/lang/String")], returnType := some (.object "com/example/ilan/ilan/engine/BrokerException") }, accessFlags := 8, code := some k11c2 }
/-- com/example/ilan/ilan/engine/BrokerException -/
def k11 : Class := { plain "com/example/ilan/ilan/engine/BrokerException" (some 10) with
  accessFlags := 49
  interfaces := #[]
  cf := some (fileOf pool11 8 #[.nestMembers #[14]] #[{ accessFlags := 2, nameIndex := 5, descriptorIndex := 20, attributes := #[] }, { accessFlags := 1, nameIndex := 59, descriptorIndex := 60, attributes := #[] }, { accessFlags := 8, nameIndex := 65, descriptorIndex := 64, attributes := #[] }] 49 2 #[] #[{ accessFlags := 26, nameIndex := 52, descriptorIndex := 53, attributes := #[] }, { accessFlags := 18, nameIndex := 11, descriptorIndex := 12, attributes := #[] }])
  fields := #[{ name := "serialVersionUID", type := .long, accessFlags := 26, slot := 0, constantValue := 0 }, { name := "reason", type := (.object "com/example/ilan/ilan/engine/BrokerException$Reason"), accessFlags := 18, slot := 6, constantValue := 0 }]
  methods := #[k11m0, k11m1, k11m2]
  instanceTypes := #[(.object "java/lang/Object"), (.object "java/lang/String"), (.object "java/lang/Throwable"), (.array (.object "java/lang/StackTraceElement")), .int, (.object "java/util/List"), (.object "com/example/ilan/ilan/engine/BrokerException$Reason")]
  staticTypes := #[.long]
  resolved := Array.replicate 73 none
  statics := none }

def pool12 : Array CpInfo := pool [(2, .class_ 4), (1, u "java/lang/Enum"), (0, u "name"), (0, u "Ljava/lang/String;"), (2, u "ordinal"), (0, u "I"), (1, .class_ 14), (1, u "java/lang/Object"), (4, u "hash"), (86, .class_ 108), (1, u "java/lang/Enum$EnumDesc"), (2, .class_ 112), (0, u "java/lang/constant/Constable"), (0, .class_ 114), (0, u "java/lang/Comparable"), (0, .class_ 116), (0, u "java/io/Serializable")] 87

/-- java/lang/Enum -/
def k12 : Class := { plain "java/lang/Enum" (some 0) with
  accessFlags := 1057
  interfaces := #[5, 3, 2]
  cf := some (fileOf pool12 2 #[.nestMembers #[106]] #[] 1057 12 #[111, 113, 115] #[{ accessFlags := 18, nameIndex := 5, descriptorIndex := 6, attributes := #[] }, { accessFlags := 18, nameIndex := 9, descriptorIndex := 10, attributes := #[] }, { accessFlags := 2, nameIndex := 19, descriptorIndex := 10, attributes := #[] }])
  fields := #[{ name := "name", type := (.object "java/lang/String"), accessFlags := 18, slot := 0, constantValue := 0 }, { name := "ordinal", type := .int, accessFlags := 18, slot := 1, constantValue := 0 }, { name := "hash", type := .int, accessFlags := 2, slot := 2, constantValue := 0 }]
  methods := #[]
  instanceTypes := #[(.object "java/lang/String"), .int, .int]
  staticTypes := #[]
  resolved := Array.replicate 204 none
  statics := none }

def pool13 : Array CpInfo := pool [(1, .class_ 2), (0, u "com/example/ilan/ilan/engine/BrokerException$Reason"), (2, u "INVALID_ARGUMENT"), (0, u "Lcom/example/ilan/ilan/engine/BrokerException$Reason;"), (2, u "NOT_FOUND"), (2, u "ALREADY_EXISTS"), (2, u "IN_USE"), (2, u "TOO_LARGE"), (2, u "$VALUES"), (0, u "[Lcom/example/ilan/ilan/engine/BrokerException$Reason;"), (6, .class_ 31), (1, u "java/lang/Enum"), (28, .class_ 61), (0, u "com/example/ilan/ilan/engine/BrokerException")] 2

/-- com/example/ilan/ilan/engine/BrokerException$Reason -/
def k13 : Class := { plain "com/example/ilan/ilan/engine/BrokerException$Reason" (some 12) with
  accessFlags := 16433
  interfaces := #[]
  cf := some (fileOf pool13 1 #[.nestHost 60] #[] 16433 29 #[] #[{ accessFlags := 16409, nameIndex := 5, descriptorIndex := 6, attributes := #[] }, { accessFlags := 16409, nameIndex := 9, descriptorIndex := 6, attributes := #[] }, { accessFlags := 16409, nameIndex := 12, descriptorIndex := 6, attributes := #[] }, { accessFlags := 16409, nameIndex := 15, descriptorIndex := 6, attributes := #[] }, { accessFlags := 16409, nameIndex := 18, descriptorIndex := 6, attributes := #[] }, { accessFlags := 4122, nameIndex := 21, descriptorIndex := 22, attributes := #[] }])
  fields := #[{ name := "INVALID_ARGUMENT", type := (.object "com/example/ilan/ilan/engine/BrokerException$Reason"), accessFlags := 16409, slot := 0, constantValue := 0 }, { name := "NOT_FOUND", type := (.object "com/example/ilan/ilan/engine/BrokerException$Reason"), accessFlags := 16409, slot := 1, constantValue := 0 }, { name := "ALREADY_EXISTS", type := (.object "com/example/ilan/ilan/engine/BrokerException$Reason"), accessFlags := 16409, slot := 2, constantValue := 0 }, { name := "IN_USE", type := (.object "com/example/ilan/ilan/engine/BrokerException$Reason"), accessFlags := 16409, slot := 3, constantValue := 0 }, { name := "TOO_LARGE", type := (.object "com/example/ilan/ilan/engine/BrokerException$Reason"), accessFlags := 16409, slot := 4, constantValue := 0 }, { name := "$VALUES", type := (.array (.object "com/example/ilan/ilan/engine/BrokerException$Reason")), accessFlags := 4122, slot := 5, constantValue := 0 }]
  methods := #[]
  instanceTypes := #[(.object "java/lang/String"), .int, .int]
  staticTypes := #[(.object "com/example/ilan/ilan/engine/BrokerException$Reason"), (.object "com/example/ilan/ilan/engine/BrokerException$Reason"), (.object "com/example/ilan/ilan/engine/BrokerException$Reason"), (.object "com/example/ilan/ilan/engine/BrokerException$Reason"), (.object "com/example/ilan/ilan/engine/BrokerException$Reason"), (.array (.object "com/example/ilan/ilan/engine/BrokerException$Reason"))]
  resolved := Array.replicate 64 none
  statics := some 2 }

def pool14 : Array CpInfo := pool [(1, .class_ 2), (0, u "java/lang/Appendable"), (0, .class_ 4), (0, u "java/lang/Object")] 9

/-- java/lang/Appendable -/
def k14 : Class := { plain "java/lang/Appendable" (some 0) with
  accessFlags := 1537
  interfaces := #[]
  cf := some (fileOf pool14 1 #[] #[] 1537 3 #[] #[])
  fields := #[]
  methods := #[]
  instanceTypes := #[]
  staticTypes := #[]
  resolved := Array.replicate 14 none
  statics := none }

def pool15 : Array CpInfo := pool [(1, .class_ 2), (0, u "java/lang/String"), (0, .methodref 4 5), (0, .class_ 6), (0, .nameAndType 7 8), (0, u "java/lang/Object"), (0, u "<init>"), (0, u "()V"), (1, .class_ 12), (1, u "java/lang/AbstractStringBuilder"), (0, u "EMPTYVALUE"), (0, u "[B"), (0, .fieldref 10 16), (0, .nameAndType 17 14), (0, u "value"), (0, .fieldref 1 19), (0, .nameAndType 20 21), (0, u "COMPACT_STRINGS"), (0, u "Z"), (0, .fieldref 10 23), (0, .nameAndType 24 25), (0, u "coder"), (0, u "B"), (6, .methodref 1 33), (0, .nameAndType 34 35), (0, u "length"), (0, u "()I"), (3, .integer 2147483647), (0, .methodref 1 41), (0, .nameAndType 24 42), (0, u "()B"), (2, u "append"), (0, u "(Ljava/lang/String;)Ljava/lang/AbstractStringBuilder;"), (1, .class_ 49), (0, u "java/lang/CharSequence"), (19, u "(Ljava/lang/String;)V"), (5, u "maybeLatin1"), (3, .fieldref 10 80), (0, .nameAndType 81 82), (0, u "count"), (0, u "I"), (2, u "isLatin1"), (0, u "()Z"), (13, .methodref 10 101), (0, .nameAndType 102 103), (0, u "ensureCapacityInternal"), (0, u "(I)V"), (0, .methodref 10 105), (0, .nameAndType 106 107), (0, u "newCapacity"), (0, u "(I)I"), (0, .methodref 109 110), (0, .class_ 111), (0, .nameAndType 112 113), (0, u "java/util/Arrays"), (0, u "copyOf"), (0, u "([BI)[B"), (0, .methodref 115 116), (0, .class_ 117), (0, .nameAndType 118 119), (0, u "jdk/internal/util/ArraysSupport"), (0, u "newLength"), (0, u "(III)I"), (88, .methodref 10 209), (0, .nameAndType 210 211), (0, u "putStringAt"), (0, u "(ILjava/lang/String;)V"), (5, u "inflateIfNeededFor"), (2, .nameAndType 221 222), (0, u "getBytes"), (0, u "([BIB)V"), (174, .methodref 10 398), (0, .nameAndType 217 69), (0, .methodref 1 220), (3, u "()[B"), (40, .class_ 445), (0, u "java/lang/Appendable"), (106, u "getValue")] 56

def k15m0 : Method := { name := "<init>", desc := "()V", sig := { parameters := [], returnType := none }, accessFlags := 0, code := none }
def k15c1 : Code := { maxStack := 2, maxLocals := 2, code := jdk_68_method_2_code, exceptionTable := #[], attributes := #[] }
def k15m1 : Method := { name := "<init>", desc := "(I)V", sig := { parameters := [.int], returnType := none }, accessFlags := 0, code := some k15c1 }
def k15c2 : Code := { maxStack := 1, maxLocals := 1, code := jdk_68_method_6_code, exceptionTable := #[], attributes := #[] }
def k15m2 : Method := { name := "length", desc := "()I", sig := { parameters := [], returnType := some .int }, accessFlags := 1, code := some k15c2 }
def k15c3 : Code := { maxStack := 4, maxLocals := 3, code := jdk_68_method_9_code, exceptionTable := #[], attributes := #[] }
def k15m3 : Method := { name := "ensureCapacityInternal", desc := "(I)V", sig := { parameters := [.int], returnType := none }, accessFlags := 2, code := some k15c3 }
def k15c4 : Code := { maxStack := 5, maxLocals := 6, code := jdk_68_method_10_code, exceptionTable := #[], attributes := #[] }
def k15m4 : Method := { name := "newCapacity", desc := "(I)I", sig := { parameters := [.int], returnType := some .int }, accessFlags := 2, code := some k15c4 }
def k15c5 : Code := { maxStack := 3, maxLocals := 3, code := jdk_68_method_22_code, exceptionTable := #[], attributes := #[] }
def k15m5 : Method := { name := "append", desc := "(Ljava/lang/String;)Ljava/lang/AbstractStringBuilder;", sig := { parameters := [(.object "java/lang/String")], returnType := some (.object "java/lang/AbstractStringBuilder") }, accessFlags := 1, code := some k15c5 }
def k15c6 : Code := { maxStack := 1, maxLocals := 1, code := jdk_68_method_64_code, exceptionTable := #[], attributes := #[] }
def k15m6 : Method := { name := "getValue", desc := "()[B", sig := { parameters := [], returnType := some (.array .byte) }, accessFlags := 16, code := some k15c6 }
def k15c7 : Code := { maxStack := 1, maxLocals := 1, code := jdk_68_method_68_code, exceptionTable := #[], attributes := #[] }
def k15m7 : Method := { name := "isLatin1", desc := "()Z", sig := { parameters := [], returnType := some .boolean }, accessFlags := 16, code := some k15c7 }
def k15c8 : Code := { maxStack := 2, maxLocals := 2, code := jdk_68_method_71_code, exceptionTable := #[], attributes := #[] }
def k15m8 : Method := { name := "inflateIfNeededFor", desc := "(Ljava/lang/String;)V", sig := { parameters := [(.object "java/lang/String")], returnType := none }, accessFlags := 2, code := some k15c8 }
def k15c9 : Code := { maxStack := 4, maxLocals := 3, code := jdk_68_method_73_code, exceptionTable := #[], attributes := #[] }
def k15m9 : Method := { name := "putStringAt", desc := "(ILjava/lang/String;)V", sig := { parameters := [.int, (.object "java/lang/String")], returnType := none }, accessFlags := 2, code := some k15c9 }
/-- java/lang/AbstractStringBuilder -/
def k15 : Class := { plain "java/lang/AbstractStringBuilder" (some 0) with
  accessFlags := 1056
  interfaces := #[14, 4]
  cf := some (fileOf pool15 10 #[] #[{ accessFlags := 0, nameIndex := 7, descriptorIndex := 8, attributes := #[] }, { accessFlags := 0, nameIndex := 7, descriptorIndex := 103, attributes := #[] }, { accessFlags := 1, nameIndex := 34, descriptorIndex := 35, attributes := #[] }, { accessFlags := 2, nameIndex := 102, descriptorIndex := 103, attributes := #[] }, { accessFlags := 2, nameIndex := 106, descriptorIndex := 107, attributes := #[] }, { accessFlags := 1, nameIndex := 45, descriptorIndex := 46, attributes := #[] }, { accessFlags := 16, nameIndex := 552, descriptorIndex := 403, attributes := #[] }, { accessFlags := 16, nameIndex := 85, descriptorIndex := 86, attributes := #[] }, { accessFlags := 2, nameIndex := 217, descriptorIndex := 69, attributes := #[] }, { accessFlags := 2, nameIndex := 210, descriptorIndex := 211, attributes := #[] }] 1056 4 #[444, 48] #[{ accessFlags := 0, nameIndex := 17, descriptorIndex := 14, attributes := #[] }, { accessFlags := 0, nameIndex := 24, descriptorIndex := 25, attributes := #[] }, { accessFlags := 0, nameIndex := 75, descriptorIndex := 21, attributes := #[] }, { accessFlags := 0, nameIndex := 81, descriptorIndex := 82, attributes := #[] }, { accessFlags := 26, nameIndex := 13, descriptorIndex := 14, attributes := #[] }])
  fields := #[{ name := "value", type := (.array .byte), accessFlags := 0, slot := 0, constantValue := 0 }, { name := "coder", type := .byte, accessFlags := 0, slot := 1, constantValue := 0 }, { name := "maybeLatin1", type := .boolean, accessFlags := 0, slot := 2, constantValue := 0 }, { name := "count", type := .int, accessFlags := 0, slot := 3, constantValue := 0 }, { name := "EMPTYVALUE", type := (.array .byte), accessFlags := 26, slot := 0, constantValue := 0 }]
  methods := #[k15m0, k15m1, k15m2, k15m3, k15m4, k15m5, k15m6, k15m7, k15m8, k15m9]
  instanceTypes := #[(.array .byte), .byte, .boolean, .int]
  staticTypes := #[(.array .byte)]
  resolved := Array.replicate 609 none
  statics := none }

def pool16 : Array CpInfo := pool [(1, .methodref 2 3), (0, .class_ 4), (0, .nameAndType 5 6), (0, u "java/lang/AbstractStringBuilder"), (0, u "<init>"), (0, u "(I)V"), (11, .class_ 20), (1, u "java/lang/String"), (3, .class_ 26), (1, u "java/lang/StringBuilder"), (0, u "append"), (0, u "(Ljava/lang/String;)Ljava/lang/StringBuilder;"), (0, .methodref 2 30), (0, .nameAndType 27 31), (0, u "(Ljava/lang/String;)Ljava/lang/AbstractStringBuilder;"), (105, .methodref 18 138), (0, .nameAndType 5 139), (0, u "(Ljava/lang/StringBuilder;)V"), (5, u "()V"), (10, u "()I"), (186, .methodref 2 344), (0, .nameAndType 345 156), (0, u "length"), (3, .class_ 350), (0, u "java/lang/Appendable"), (0, .class_ 352), (0, u "java/io/Serializable"), (0, .class_ 354), (0, u "java/lang/Comparable"), (0, .class_ 356), (0, u "java/lang/CharSequence"), (0, u "serialVersionUID"), (0, u "J"), (40, u "toString"), (0, u "()Ljava/lang/String;")] 21

def k16c0 : Code := { maxStack := 2, maxLocals := 1, code := jdk_67_method_1_code, exceptionTable := #[], attributes := #[] }
def k16m0 : Method := { name := "<init>", desc := "()V", sig := { parameters := [], returnType := none }, accessFlags := 1, code := some k16c0 }
def k16c1 : Code := { maxStack := 2, maxLocals := 2, code := jdk_67_method_7_code, exceptionTable := #[], attributes := #[] }
def k16m1 : Method := { name := "append", desc := "(Ljava/lang/String;)Ljava/lang/StringBuilder;", sig := { parameters := [(.object "java/lang/String")], returnType := some (.object "java/lang/StringBuilder") }, accessFlags := 1, code := some k16c1 }
def k16c2 : Code := { maxStack := 3, maxLocals := 1, code := jdk_67_method_42_code, exceptionTable := #[], attributes := #[] }
def k16m2 : Method := { name := "toString", desc := "()Ljava/lang/String;", sig := { parameters := [], returnType := some (.object "java/lang/String") }, accessFlags := 1, code := some k16c2 }
def k16c3 : Code := { maxStack := 1, maxLocals := 1, code := jdk_67_method_93_code, exceptionTable := #[], attributes := #[] }
def k16m3 : Method := { name := "length", desc := "()I", sig := { parameters := [], returnType := some .int }, accessFlags := 4161, code := some k16c3 }
/-- java/lang/StringBuilder -/
def k16 : Class := { plain "java/lang/StringBuilder" (some 15) with
  accessFlags := 49
  interfaces := #[14, 2, 3, 4]
  cf := some (fileOf pool16 24 #[] #[{ accessFlags := 1, nameIndex := 5, descriptorIndex := 145, attributes := #[] }, { accessFlags := 1, nameIndex := 27, descriptorIndex := 28, attributes := #[] }, { accessFlags := 1, nameIndex := 399, descriptorIndex := 400, attributes := #[] }, { accessFlags := 4161, nameIndex := 345, descriptorIndex := 156, attributes := #[] }] 49 2 #[349, 351, 353, 355] #[{ accessFlags := 24, nameIndex := 357, descriptorIndex := 358, attributes := #[] }])
  fields := #[{ name := "serialVersionUID", type := .long, accessFlags := 24, slot := 0, constantValue := 0 }]
  methods := #[k16m0, k16m1, k16m2, k16m3]
  instanceTypes := #[(.array .byte), .byte, .boolean, .int]
  staticTypes := #[.long]
  resolved := Array.replicate 422 none
  statics := none }

def pool17 : Array CpInfo := pool [(2, .class_ 4), (1, u "java/lang/Object"), (0, u "<init>"), (0, u "()V"), (1, .class_ 10), (1, u "java/lang/System"), (0, u "allowSecurityManager"), (0, u "I"), (16, u "cons"), (0, u "Ljava/io/Console;"), (77, .class_ 110), (1, u "java/lang/System$CallersHolder"), (43, u "initialErrStream"), (0, u "Ljava/io/PrintStream;"), (19, u "security"), (0, u "Ljava/lang/SecurityManager;"), (31, .class_ 209), (0, u "java/lang/System$1"), (7, u "props"), (0, u "Ljava/util/Properties;"), (2, u "lineSeparator"), (0, u "Ljava/lang/String;"), (96, .class_ 321), (1, u "java/lang/System$LoggerFinder"), (5, .class_ 328), (0, u "java/lang/System$Logger"), (67, u "err"), (2, u "out"), (91, u "notSupportedJnuEncoding"), (15, u "in"), (17, u "initialIn"), (0, u "Ljava/io/InputStream;"), (35, u "bootLayer"), (0, u "Ljava/lang/ModuleLayer;"), (99, .class_ 664), (0, u "java/lang/System$2"), (9, u "NEVER"), (2, u "MAYBE"), (49, u "arraycopy"), (0, u "(Ljava/lang/Object;ILjava/lang/Object;II)V"), (72, .class_ 802), (0, u "java/lang/System$Logger$Level")] 31

def k17m0 : Method := { name := "<init>", desc := "()V", sig := { parameters := [], returnType := none }, accessFlags := 2, code := none }
def k17m1 : Method := { name := "arraycopy", desc := "(Ljava/lang/Object;ILjava/lang/Object;II)V", sig := { parameters := [(.object "java/lang/Object"), .int, (.object "java/lang/Object"), .int, .int], returnType := none }, accessFlags := 265, code := none }
/-- java/lang/System -/
def k17 : Class := { plain "java/lang/System" (some 0) with
  accessFlags := 49
  interfaces := #[]
  cf := some (fileOf pool17 8 #[.nestMembers #[319, 327, 801, 108, 663, 208]] #[{ accessFlags := 2, nameIndex := 5, descriptorIndex := 6, attributes := #[] }, { accessFlags := 265, nameIndex := 727, descriptorIndex := 728, attributes := #[] }] 49 2 #[] #[{ accessFlags := 25, nameIndex := 507, descriptorIndex := 526, attributes := #[] }, { accessFlags := 25, nameIndex := 399, descriptorIndex := 155, attributes := #[] }, { accessFlags := 25, nameIndex := 396, descriptorIndex := 155, attributes := #[] }, { accessFlags := 10, nameIndex := 525, descriptorIndex := 526, attributes := #[] }, { accessFlags := 26, nameIndex := 674, descriptorIndex := 12, attributes := #[] }, { accessFlags := 26, nameIndex := 677, descriptorIndex := 12, attributes := #[] }, { accessFlags := 10, nameIndex := 11, descriptorIndex := 12, attributes := #[] }, { accessFlags := 74, nameIndex := 175, descriptorIndex := 176, attributes := #[] }, { accessFlags := 10, nameIndex := 491, descriptorIndex := 222, attributes := #[] }, { accessFlags := 74, nameIndex := 29, descriptorIndex := 30, attributes := #[] }, { accessFlags := 74, nameIndex := 154, descriptorIndex := 155, attributes := #[] }, { accessFlags := 10, nameIndex := 217, descriptorIndex := 218, attributes := #[] }, { accessFlags := 10, nameIndex := 221, descriptorIndex := 222, attributes := #[] }, { accessFlags := 8, nameIndex := 562, descriptorIndex := 563, attributes := #[] }])
  fields := #[{ name := "in", type := (.object "java/io/InputStream"), accessFlags := 25, slot := 0, constantValue := 0 }, { name := "out", type := (.object "java/io/PrintStream"), accessFlags := 25, slot := 1, constantValue := 0 }, { name := "err", type := (.object "java/io/PrintStream"), accessFlags := 25, slot := 2, constantValue := 0 }, { name := "initialIn", type := (.object "java/io/InputStream"), accessFlags := 10, slot := 3, constantValue := 0 }, { name := "NEVER", type := .int, accessFlags := 26, slot := 4, constantValue := 0 }, { name := "MAYBE", type := .int, accessFlags := 26, slot := 5, constantValue := 0 }, { name := "allowSecurityManager", type := .int, accessFlags := 10, slot := 6, constantValue := 0 }, { name := "security", type := (.object "java/lang/SecurityManager"), accessFlags := 74, slot := 7, constantValue := 0 }, { name := "notSupportedJnuEncoding", type := (.object "java/lang/String"), accessFlags := 10, slot := 8, constantValue := 0 }, { name := "cons", type := (.object "java/io/Console"), accessFlags := 74, slot := 9, constantValue := 0 }, { name := "initialErrStream", type := (.object "java/io/PrintStream"), accessFlags := 74, slot := 10, constantValue := 0 }, { name := "props", type := (.object "java/util/Properties"), accessFlags := 10, slot := 11, constantValue := 0 }, { name := "lineSeparator", type := (.object "java/lang/String"), accessFlags := 10, slot := 12, constantValue := 0 }, { name := "bootLayer", type := (.object "java/lang/ModuleLayer"), accessFlags := 8, slot := 13, constantValue := 0 }]
  methods := #[k17m0, k17m1]
  instanceTypes := #[]
  staticTypes := #[(.object "java/io/InputStream"), (.object "java/io/PrintStream"), (.object "java/io/PrintStream"), (.object "java/io/InputStream"), .int, .int, .int, (.object "java/lang/SecurityManager"), (.object "java/lang/String"), (.object "java/io/Console"), (.object "java/io/PrintStream"), (.object "java/util/Properties"), (.object "java/lang/String"), (.object "java/lang/ModuleLayer")]
  resolved := Array.replicate 834 none
  statics := none }

def pool18 : Array CpInfo := pool [(9, u "<init>"), (6, .class_ 18), (1, u "java/lang/Object"), (0, u "()V"), (1, .class_ 23), (1, u "jdk/internal/util/ArraysSupport"), (0, u "LOG2_ARRAY_LONG_INDEX_SCALE"), (0, u "I"), (2, u "U"), (0, u "Ljdk/internal/misc/Unsafe;"), (8, u "BIG_ENDIAN"), (0, u "Z"), (8, u "LOG2_BYTE_BIT_SIZE"), (4, u "LOG2_ARRAY_INT_INDEX_SCALE"), (54, u "JLA"), (0, u "Ljdk/internal/access/JavaLangAccess;"), (11, u "LOG2_ARRAY_BOOLEAN_INDEX_SCALE"), (9, u "LOG2_ARRAY_BYTE_INDEX_SCALE"), (5, u "LOG2_ARRAY_CHAR_INDEX_SCALE"), (5, u "LOG2_ARRAY_SHORT_INDEX_SCALE"), (18, u "LOG2_ARRAY_FLOAT_INDEX_SCALE"), (24, u "LOG2_ARRAY_DOUBLE_INDEX_SCALE"), (6, .methodref 195 196), (0, .class_ 197), (0, .nameAndType 198 199), (0, u "java/lang/Math"), (0, u "max"), (0, u "(II)I"), (0, .integer 2147483639), (76, u "T_BOOLEAN"), (2, u "T_CHAR"), (1, u "T_FLOAT"), (1, u "T_DOUBLE"), (1, u "T_BYTE"), (1, u "T_SHORT"), (1, u "T_INT"), (1, u "T_LONG"), (1, u "SOFT_MAX_ARRAY_LENGTH"), (56, u "newLength"), (0, u "(III)I")] 25

def k18m0 : Method := { name := "<init>", desc := "()V", sig := { parameters := [], returnType := none }, accessFlags := 2, code := none }
def k18c1 : Code := { maxStack := 3, maxLocals := 4, code := jdk_48_method_27_code, exceptionTable := #[], attributes := #[] }
def k18m1 : Method := { name := "newLength", desc := "(III)I", sig := { parameters := [.int, .int, .int], returnType := some .int }, accessFlags := 9, code := some k18c1 }
/-- jdk/internal/util/ArraysSupport -/
def k18 : Class := { plain "jdk/internal/util/ArraysSupport" (some 0) with
  accessFlags := 33
  interfaces := #[]
  cf := some (fileOf pool18 21 #[] #[{ accessFlags := 2, nameIndex := 9, descriptorIndex := 19, attributes := #[] }, { accessFlags := 9, nameIndex := 351, descriptorIndex := 352, attributes := #[] }] 33 16 #[] #[{ accessFlags := 24, nameIndex := 28, descriptorIndex := 29, attributes := #[] }, { accessFlags := 26, nameIndex := 38, descriptorIndex := 39, attributes := #[] }, { accessFlags := 25, nameIndex := 121, descriptorIndex := 25, attributes := #[] }, { accessFlags := 25, nameIndex := 131, descriptorIndex := 25, attributes := #[] }, { accessFlags := 25, nameIndex := 137, descriptorIndex := 25, attributes := #[] }, { accessFlags := 25, nameIndex := 143, descriptorIndex := 25, attributes := #[] }, { accessFlags := 25, nameIndex := 53, descriptorIndex := 25, attributes := #[] }, { accessFlags := 25, nameIndex := 24, descriptorIndex := 25, attributes := #[] }, { accessFlags := 25, nameIndex := 162, descriptorIndex := 25, attributes := #[] }, { accessFlags := 25, nameIndex := 187, descriptorIndex := 25, attributes := #[] }, { accessFlags := 26, nameIndex := 48, descriptorIndex := 25, attributes := #[] }, { accessFlags := 25, nameIndex := 277, descriptorIndex := 25, attributes := #[] }, { accessFlags := 25, nameIndex := 280, descriptorIndex := 25, attributes := #[] }, { accessFlags := 25, nameIndex := 282, descriptorIndex := 25, attributes := #[] }, { accessFlags := 25, nameIndex := 284, descriptorIndex := 25, attributes := #[] }, { accessFlags := 25, nameIndex := 286, descriptorIndex := 25, attributes := #[] }, { accessFlags := 25, nameIndex := 288, descriptorIndex := 25, attributes := #[] }, { accessFlags := 25, nameIndex := 290, descriptorIndex := 25, attributes := #[] }, { accessFlags := 25, nameIndex := 292, descriptorIndex := 25, attributes := #[] }, { accessFlags := 26, nameIndex := 108, descriptorIndex := 109, attributes := #[] }, { accessFlags := 25, nameIndex := 294, descriptorIndex := 25, attributes := #[] }])
  fields := #[{ name := "U", type := (.object "jdk/internal/misc/Unsafe"), accessFlags := 24, slot := 0, constantValue := 0 }, { name := "BIG_ENDIAN", type := .boolean, accessFlags := 26, slot := 1, constantValue := 0 }, { name := "LOG2_ARRAY_BOOLEAN_INDEX_SCALE", type := .int, accessFlags := 25, slot := 2, constantValue := 0 }, { name := "LOG2_ARRAY_BYTE_INDEX_SCALE", type := .int, accessFlags := 25, slot := 3, constantValue := 0 }, { name := "LOG2_ARRAY_CHAR_INDEX_SCALE", type := .int, accessFlags := 25, slot := 4, constantValue := 0 }, { name := "LOG2_ARRAY_SHORT_INDEX_SCALE", type := .int, accessFlags := 25, slot := 5, constantValue := 0 }, { name := "LOG2_ARRAY_INT_INDEX_SCALE", type := .int, accessFlags := 25, slot := 6, constantValue := 0 }, { name := "LOG2_ARRAY_LONG_INDEX_SCALE", type := .int, accessFlags := 25, slot := 7, constantValue := 0 }, { name := "LOG2_ARRAY_FLOAT_INDEX_SCALE", type := .int, accessFlags := 25, slot := 8, constantValue := 0 }, { name := "LOG2_ARRAY_DOUBLE_INDEX_SCALE", type := .int, accessFlags := 25, slot := 9, constantValue := 0 }, { name := "LOG2_BYTE_BIT_SIZE", type := .int, accessFlags := 26, slot := 10, constantValue := 0 }, { name := "T_BOOLEAN", type := .int, accessFlags := 25, slot := 11, constantValue := 0 }, { name := "T_CHAR", type := .int, accessFlags := 25, slot := 12, constantValue := 0 }, { name := "T_FLOAT", type := .int, accessFlags := 25, slot := 13, constantValue := 0 }, { name := "T_DOUBLE", type := .int, accessFlags := 25, slot := 14, constantValue := 0 }, { name := "T_BYTE", type := .int, accessFlags := 25, slot := 15, constantValue := 0 }, { name := "T_SHORT", type := .int, accessFlags := 25, slot := 16, constantValue := 0 }, { name := "T_INT", type := .int, accessFlags := 25, slot := 17, constantValue := 0 }, { name := "T_LONG", type := .int, accessFlags := 25, slot := 18, constantValue := 0 }, { name := "JLA", type := (.object "jdk/internal/access/JavaLangAccess"), accessFlags := 26, slot := 19, constantValue := 0 }, { name := "SOFT_MAX_ARRAY_LENGTH", type := .int, accessFlags := 25, slot := 20, constantValue := 0 }]
  methods := #[k18m0, k18m1]
  instanceTypes := #[]
  staticTypes := #[(.object "jdk/internal/misc/Unsafe"), .boolean, .int, .int, .int, .int, .int, .int, .int, .int, .int, .int, .int, .int, .int, .int, .int, .int, .int, (.object "jdk/internal/access/JavaLangAccess"), .int]
  resolved := Array.replicate 378 none
  statics := none }

def pool19 : Array CpInfo := pool [(1, .class_ 2), (0, u "java/lang/Math"), (1, .class_ 6), (1, u "java/lang/Object"), (0, u "<init>"), (0, u "()V"), (89, .class_ 100), (1, u "java/lang/Math$RandomNumberGeneratorHolder"), (71, u "negativeZeroFloatBits"), (0, u "J"), (2, u "negativeZeroDoubleBits"), (21, u "max"), (2, u "min"), (43, u "$assertionsDisabled"), (0, u "Z"), (88, u "(II)I"), (2, u "twoToTheDoubleScaleDown"), (0, u "D"), (4, u "twoToTheDoubleScaleUp"), (9, u "E"), (3, u "PI"), (2, u "TAU"), (2, u "DEGREES_TO_RADIANS"), (0, u "RADIANS_TO_DEGREES")] 94

def k19m0 : Method := { name := "<init>", desc := "()V", sig := { parameters := [], returnType := none }, accessFlags := 2, code := none }
def k19c1 : Code := { maxStack := 2, maxLocals := 2, code := jdk_29_method_65_code, exceptionTable := #[], attributes := #[] }
def k19m1 : Method := { name := "max", desc := "(II)I", sig := { parameters := [.int, .int], returnType := some .int }, accessFlags := 9, code := some k19c1 }
def k19c2 : Code := { maxStack := 2, maxLocals := 2, code := jdk_29_method_69_code, exceptionTable := #[], attributes := #[] }
def k19m2 : Method := { name := "min", desc := "(II)I", sig := { parameters := [.int, .int], returnType := some .int }, accessFlags := 9, code := some k19c2 }
/-- java/lang/Math -/
def k19 : Class := { plain "java/lang/Math" (some 0) with
  accessFlags := 49
  interfaces := #[]
  cf := some (fileOf pool19 1 #[.nestMembers #[98]] #[{ accessFlags := 2, nameIndex := 7, descriptorIndex := 8, attributes := #[] }, { accessFlags := 9, nameIndex := 198, descriptorIndex := 335, attributes := #[] }, { accessFlags := 9, nameIndex := 201, descriptorIndex := 335, attributes := #[] }] 49 4 #[] #[{ accessFlags := 25, nameIndex := 354, descriptorIndex := 339, attributes := #[] }, { accessFlags := 25, nameIndex := 358, descriptorIndex := 339, attributes := #[] }, { accessFlags := 25, nameIndex := 361, descriptorIndex := 339, attributes := #[] }, { accessFlags := 26, nameIndex := 364, descriptorIndex := 339, attributes := #[] }, { accessFlags := 26, nameIndex := 365, descriptorIndex := 339, attributes := #[] }, { accessFlags := 26, nameIndex := 172, descriptorIndex := 173, attributes := #[] }, { accessFlags := 26, nameIndex := 176, descriptorIndex := 173, attributes := #[] }, { accessFlags := 8, nameIndex := 344, descriptorIndex := 339, attributes := #[] }, { accessFlags := 8, nameIndex := 338, descriptorIndex := 339, attributes := #[] }, { accessFlags := 4120, nameIndex := 245, descriptorIndex := 246, attributes := #[] }])
  fields := #[{ name := "E", type := .double, accessFlags := 25, slot := 0, constantValue := 0 }, { name := "PI", type := .double, accessFlags := 25, slot := 1, constantValue := 0 }, { name := "TAU", type := .double, accessFlags := 25, slot := 2, constantValue := 0 }, { name := "DEGREES_TO_RADIANS", type := .double, accessFlags := 26, slot := 3, constantValue := 0 }, { name := "RADIANS_TO_DEGREES", type := .double, accessFlags := 26, slot := 4, constantValue := 0 }, { name := "negativeZeroFloatBits", type := .long, accessFlags := 26, slot := 5, constantValue := 0 }, { name := "negativeZeroDoubleBits", type := .long, accessFlags := 26, slot := 6, constantValue := 0 }, { name := "twoToTheDoubleScaleUp", type := .double, accessFlags := 8, slot := 7, constantValue := 0 }, { name := "twoToTheDoubleScaleDown", type := .double, accessFlags := 8, slot := 8, constantValue := 0 }, { name := "$assertionsDisabled", type := .boolean, accessFlags := 4120, slot := 9, constantValue := 0 }]
  methods := #[k19m0, k19m1, k19m2]
  instanceTypes := #[]
  staticTypes := #[.double, .double, .double, .double, .double, .long, .long, .double, .double, .boolean]
  resolved := Array.replicate 460 none
  statics := none }

def pool20 : Array CpInfo := pool [(2, .class_ 4), (1, u "java/lang/Object"), (0, u "<init>"), (0, u "()V"), (7, .class_ 16), (1, u "java/util/Arrays"), (57, .class_ 76), (1, u "java/util/Arrays$NaturalOrder"), (36, .class_ 115), (1, u "java/util/Arrays$LegacyMergeSort"), (1, u "Z"), (21, u "copyOfRange"), (10, .methodref 151 152), (0, .class_ 153), (0, .nameAndType 154 155), (0, u "java/lang/System"), (0, u "arraycopy"), (0, u "(Ljava/lang/Object;ILjava/lang/Object;II)V"), (146, u "copyOf"), (1, .methodref 305 306), (0, .class_ 307), (0, .nameAndType 308 309), (0, u "java/lang/Math"), (0, u "min"), (0, u "(II)I"), (29, .methodref 14 340), (0, .nameAndType 341 342), (0, u "copyOfRangeByte"), (0, u "([BII)[B"), (0, .methodref 14 344), (0, .nameAndType 345 346), (0, u "checkLength"), (0, u "(II)V"), (28, .class_ 376), (0, u "java/util/Arrays$ArrayList"), (68, u "$assertionsDisabled"), (269, u "MIN_ARRAY_SORT_GRAN"), (0, u "I"), (2, u "INSERTIONSORT_THRESHOLD"), (149, u "([BI)[B"), (105, .class_ 976), (0, u "java/util/Arrays$ArrayItr")] 52

def k20m0 : Method := { name := "<init>", desc := "()V", sig := { parameters := [], returnType := none }, accessFlags := 2, code := none }
def k20c1 : Code := { maxStack := 6, maxLocals := 3, code := jdk_65_method_121_code, exceptionTable := #[], attributes := #[] }
def k20m1 : Method := { name := "copyOf", desc := "([BI)[B", sig := { parameters := [(.array .byte), .int], returnType := some (.array .byte) }, accessFlags := 9, code := some k20c1 }
def k20c2 : Code := { maxStack := 4, maxLocals := 2, code := jdk_65_method_131_code, exceptionTable := #[], attributes := #[] }
def k20m2 : Method := { name := "checkLength", desc := "(II)V", sig := { parameters := [.int, .int], returnType := none }, accessFlags := 10, code := some k20c2 }
def k20c3 : Code := { maxStack := 3, maxLocals := 3, code := jdk_65_method_132_code, exceptionTable := #[], attributes := #[] }
def k20m3 : Method := { name := "copyOfRange", desc := "([BII)[B", sig := { parameters := [(.array .byte), .int, .int], returnType := some (.array .byte) }, accessFlags := 9, code := some k20c3 }
def k20c4 : Code := { maxStack := 6, maxLocals := 5, code := jdk_65_method_133_code, exceptionTable := #[], attributes := #[] }
def k20m4 : Method := { name := "copyOfRangeByte", desc := "([BII)[B", sig := { parameters := [(.array .byte), .int, .int], returnType := some (.array .byte) }, accessFlags := 10, code := some k20c4 }
/-- java/util/Arrays -/
def k20 : Class := { plain "java/util/Arrays" (some 0) with
  accessFlags := 49
  interfaces := #[]
  cf := some (fileOf pool20 14 #[.nestMembers #[975, 375, 113, 74]] #[{ accessFlags := 2, nameIndex := 5, descriptorIndex := 6, attributes := #[] }, { accessFlags := 9, nameIndex := 302, descriptorIndex := 869, attributes := #[] }, { accessFlags := 10, nameIndex := 345, descriptorIndex := 346, attributes := #[] }, { accessFlags := 9, nameIndex := 139, descriptorIndex := 342, attributes := #[] }, { accessFlags := 10, nameIndex := 341, descriptorIndex := 342, attributes := #[] }] 49 2 #[] #[{ accessFlags := 26, nameIndex := 715, descriptorIndex := 716, attributes := #[] }, { accessFlags := 26, nameIndex := 719, descriptorIndex := 716, attributes := #[] }, { accessFlags := 4120, nameIndex := 445, descriptorIndex := 117, attributes := #[] }])
  fields := #[{ name := "MIN_ARRAY_SORT_GRAN", type := .int, accessFlags := 26, slot := 0, constantValue := 0 }, { name := "INSERTIONSORT_THRESHOLD", type := .int, accessFlags := 26, slot := 1, constantValue := 0 }, { name := "$assertionsDisabled", type := .boolean, accessFlags := 4120, slot := 2, constantValue := 0 }]
  methods := #[k20m0, k20m1, k20m2, k20m3, k20m4]
  instanceTypes := #[]
  staticTypes := #[.int, .int, .boolean]
  resolved := Array.replicate 1029 none
  statics := none }

def pool21 : Array CpInfo := pool [(1, .class_ 2), (0, u "java/lang/String"), (1, .class_ 6), (1, u "java/lang/Object"), (0, u "<init>"), (0, u "()V"), (0, .methodref 1 10), (0, .nameAndType 11 12), (0, u "checkIndex"), (0, u "(II)V"), (1, .class_ 16), (1, u "java/lang/StringLatin1"), (36, u "([BI)C"), (36, u "canEncode"), (14, u "(C)Z"), (15, u "$assertionsDisabled"), (0, u "Z"), (98, .class_ 223), (1, u "java/lang/StringLatin1$LinesSpliterator"), (28, u "charAt"), (127, u "toBytes"), (1, u "(C)[B"), (7, .class_ 391), (0, u "java/lang/StringLatin1$CharsSpliterator")] 3

def k21m0 : Method := { name := "<init>", desc := "()V", sig := { parameters := [], returnType := none }, accessFlags := 0, code := none }
def k21c1 : Code := { maxStack := 2, maxLocals := 2, code := jdk_43_method_2_code, exceptionTable := #[], attributes := #[] }
def k21m1 : Method := { name := "charAt", desc := "([BI)C", sig := { parameters := [(.array .byte), .int], returnType := some .char }, accessFlags := 9, code := some k21c1 }
def k21c2 : Code := { maxStack := 2, maxLocals := 1, code := jdk_43_method_3_code, exceptionTable := #[], attributes := #[] }
def k21m2 : Method := { name := "canEncode", desc := "(C)Z", sig := { parameters := [.char], returnType := some .boolean }, accessFlags := 9, code := some k21c2 }
def k21c3 : Code := { maxStack := 4, maxLocals := 1, code := jdk_43_method_46_code, exceptionTable := #[], attributes := #[] }
def k21m3 : Method := { name := "toBytes", desc := "(C)[B", sig := { parameters := [.char], returnType := some (.array .byte) }, accessFlags := 9, code := some k21c3 }
/-- java/lang/StringLatin1 -/
def k21 : Class := { plain "java/lang/StringLatin1" (some 0) with
  accessFlags := 48
  interfaces := #[]
  cf := some (fileOf pool21 14 #[.nestMembers #[390, 221]] #[{ accessFlags := 0, nameIndex := 7, descriptorIndex := 8, attributes := #[] }, { accessFlags := 9, nameIndex := 252, descriptorIndex := 53, attributes := #[] }, { accessFlags := 9, nameIndex := 90, descriptorIndex := 105, attributes := #[] }, { accessFlags := 9, nameIndex := 380, descriptorIndex := 382, attributes := #[] }] 48 4 #[] #[{ accessFlags := 4120, nameIndex := 121, descriptorIndex := 122, attributes := #[] }])
  fields := #[{ name := "$assertionsDisabled", type := .boolean, accessFlags := 4120, slot := 0, constantValue := 0 }]
  methods := #[k21m0, k21m1, k21m2, k21m3]
  instanceTypes := #[]
  staticTypes := #[.boolean]
  resolved := Array.replicate 395 none
  statics := none }

def pool22 : Array CpInfo := pool [(2, .class_ 4), (1, u "java/lang/Object"), (0, u "<init>"), (0, u "()V"), (17, .class_ 26), (1, u "jdk/internal/util/Preconditions"), (6, u "checkIndex"), (21, .class_ 56), (0, u "jdk/internal/util/Preconditions$4"), (57, .class_ 115), (0, u "jdk/internal/util/Preconditions$1"), (7, u "SIOOBE_FORMATTER"), (0, u "Ljava/util/function/BiFunction;"), (0, .class_ 126), (0, u "jdk/internal/util/Preconditions$2"), (3, u "AIOOBE_FORMATTER"), (0, .class_ 132), (0, u "jdk/internal/util/Preconditions$3"), (3, u "IOOBE_FORMATTER"), (41, u "(IILjava/util/function/BiFunction;)I")] 15

def k22m0 : Method := { name := "<init>", desc := "()V", sig := { parameters := [], returnType := none }, accessFlags := 1, code := none }
def k22c1 : Code := { maxStack := 3, maxLocals := 3, code := jdk_41_method_11_code, exceptionTable := #[], attributes := #[] }
def k22m1 : Method := { name := "checkIndex", desc := "(IILjava/util/function/BiFunction;)I", sig := { parameters := [.int, .int, (.object "java/util/function/BiFunction")], returnType := some .int }, accessFlags := 9, code := some k22c1 }
/-- jdk/internal/util/Preconditions -/
def k22 : Class := { plain "jdk/internal/util/Preconditions" (some 0) with
  accessFlags := 33
  interfaces := #[]
  cf := some (fileOf pool22 24 #[.nestMembers #[55, 131, 125, 114]] #[{ accessFlags := 1, nameIndex := 5, descriptorIndex := 6, attributes := #[] }, { accessFlags := 9, nameIndex := 33, descriptorIndex := 178, attributes := #[] }] 33 2 #[] #[{ accessFlags := 25, nameIndex := 123, descriptorIndex := 124, attributes := #[] }, { accessFlags := 25, nameIndex := 130, descriptorIndex := 124, attributes := #[] }, { accessFlags := 25, nameIndex := 136, descriptorIndex := 124, attributes := #[] }])
  fields := #[{ name := "SIOOBE_FORMATTER", type := (.object "java/util/function/BiFunction"), accessFlags := 25, slot := 0, constantValue := 0 }, { name := "AIOOBE_FORMATTER", type := (.object "java/util/function/BiFunction"), accessFlags := 25, slot := 1, constantValue := 0 }, { name := "IOOBE_FORMATTER", type := (.object "java/util/function/BiFunction"), accessFlags := 25, slot := 2, constantValue := 0 }]
  methods := #[k22m0, k22m1]
  instanceTypes := #[]
  staticTypes := #[(.object "java/util/function/BiFunction"), (.object "java/util/function/BiFunction"), (.object "java/util/function/BiFunction")]
  resolved := Array.replicate 194 none
  statics := some 3 }

def pool23 : Array CpInfo := pool [(6, .class_ 8), (1, u "java/lang/Object"), (0, u "<init>"), (0, u "()V"), (1, .class_ 14), (1, u "java/lang/StringUTF16"), (31, u "$assertionsDisabled"), (0, u "Z"), (13, u "HI_BYTE_SHIFT"), (0, u "I"), (2, u "LO_BYTE_SHIFT"), (49, .methodref 12 116), (0, .nameAndType 117 118), (0, u "compress"), (0, u "([CI[BII)I"), (3, u "([CII)[B"), (138, u "coderFromArrayLen"), (0, u "([BI)B"), (106, .class_ 371), (1, u "java/lang/StringUTF16$LinesSpliterator"), (58, u "MAX_LENGTH"), (196, .class_ 628), (0, u "java/lang/StringUTF16$CodePointsSpliterator"), (0, .class_ 630), (0, u "java/lang/StringUTF16$CharsSpliterator")] 4

def k23m0 : Method := { name := "<init>", desc := "()V", sig := { parameters := [], returnType := none }, accessFlags := 0, code := none }
def k23c1 : Code := { maxStack := 2, maxLocals := 2, code := jdk_52_method_15_code, exceptionTable := #[], attributes := #[] }
def k23m1 : Method := { name := "coderFromArrayLen", desc := "([BI)B", sig := { parameters := [(.array .byte), .int], returnType := some .byte }, accessFlags := 8, code := some k23c1 }
def k23c2 : Code := { maxStack := 5, maxLocals := 6, code := jdk_52_method_16_code, exceptionTable := #[], attributes := #[] }
def k23m2 : Method := { name := "compress", desc := "([CII)[B", sig := { parameters := [(.array .char), .int, .int], returnType := some (.array .byte) }, accessFlags := 9, code := some k23c2 }
def k23c3 : Code := { maxStack := 3, maxLocals := 7, code := jdk_52_method_21_code, exceptionTable := #[], attributes := #[] }
def k23m3 : Method := { name := "compress", desc := "([CI[BII)I", sig := { parameters := [(.array .char), .int, (.array .byte), .int, .int], returnType := some .int }, accessFlags := 9, code := some k23c3 }
/-- java/lang/StringUTF16 -/
def k23 : Class := { plain "java/lang/StringUTF16" (some 0) with
  accessFlags := 48
  interfaces := #[]
  cf := some (fileOf pool23 12 #[.nestMembers #[627, 629, 369]] #[{ accessFlags := 0, nameIndex := 9, descriptorIndex := 10, attributes := #[] }, { accessFlags := 8, nameIndex := 261, descriptorIndex := 262, attributes := #[] }, { accessFlags := 9, nameIndex := 117, descriptorIndex := 122, attributes := #[] }, { accessFlags := 9, nameIndex := 117, descriptorIndex := 118, attributes := #[] }] 48 6 #[] #[{ accessFlags := 26, nameIndex := 61, descriptorIndex := 62, attributes := #[] }, { accessFlags := 26, nameIndex := 65, descriptorIndex := 62, attributes := #[] }, { accessFlags := 24, nameIndex := 430, descriptorIndex := 62, attributes := #[] }, { accessFlags := 4120, nameIndex := 46, descriptorIndex := 47, attributes := #[] }])
  fields := #[{ name := "HI_BYTE_SHIFT", type := .int, accessFlags := 26, slot := 0, constantValue := 0 }, { name := "LO_BYTE_SHIFT", type := .int, accessFlags := 26, slot := 1, constantValue := 0 }, { name := "MAX_LENGTH", type := .int, accessFlags := 24, slot := 2, constantValue := 0 }, { name := "$assertionsDisabled", type := .boolean, accessFlags := 4120, slot := 3, constantValue := 0 }]
  methods := #[k23m0, k23m1, k23m2, k23m3]
  instanceTypes := #[]
  staticTypes := #[.int, .int, .int, .boolean]
  resolved := Array.replicate 635 none
  statics := none }

def pool24 : Array CpInfo := pool [(2, .class_ 4), (1, u "java/lang/Object"), (0, u "<init>"), (0, u "()V"), (12, .class_ 20), (0, u "java/util/Collections"), (63, u "r"), (0, u "Ljava/util/Random;"), (80, .class_ 167), (0, u "java/util/Collections$UnmodifiableCollection"), (6, .class_ 175), (0, u "java/util/Collections$UnmodifiableSequencedCollection"), (6, .class_ 183), (0, u "java/util/Collections$UnmodifiableSet"), (6, .class_ 191), (0, u "java/util/Collections$UnmodifiableSequencedSet"), (6, .class_ 199), (0, u "java/util/Collections$UnmodifiableSortedSet"), (6, .class_ 207), (0, u "java/util/Collections$UnmodifiableNavigableSet"), (4, .class_ 213), (0, u "java/util/Collections$UnmodifiableList"), (1, .class_ 216), (0, u "java/util/Collections$UnmodifiableRandomAccessList"), (6, .class_ 224), (0, u "java/util/Collections$UnmodifiableMap"), (6, .class_ 232), (0, u "java/util/Collections$UnmodifiableSequencedMap"), (4, .class_ 238), (0, u "java/util/Collections$UnmodifiableSortedMap"), (6, .class_ 246), (0, u "java/util/Collections$UnmodifiableNavigableMap"), (3, .class_ 251), (0, u "java/util/Collections$SynchronizedCollection"), (4, .class_ 257), (0, u "java/util/Collections$SynchronizedSet"), (4, .class_ 263), (0, u "java/util/Collections$SynchronizedSortedSet"), (1, .class_ 266), (0, u "java/util/Collections$SynchronizedNavigableSet"), (1, .class_ 269), (0, u "java/util/Collections$SynchronizedRandomAccessList"), (1, .class_ 272), (0, u "java/util/Collections$SynchronizedList"), (5, .class_ 279), (0, u "java/util/Collections$SynchronizedMap"), (1, .class_ 282), (0, u "java/util/Collections$SynchronizedSortedMap"), (1, .class_ 285), (0, u "java/util/Collections$SynchronizedNavigableMap"), (1, .class_ 288), (0, u "java/util/Collections$CheckedCollection"), (11, .class_ 301), (0, u "java/util/Collections$CheckedQueue"), (3, .class_ 306), (0, u "java/util/Collections$CheckedSet"), (3, .class_ 311), (0, u "java/util/Collections$CheckedSortedSet"), (3, .class_ 316), (0, u "java/util/Collections$CheckedNavigableSet"), (3, .class_ 321), (0, u "java/util/Collections$CheckedRandomAccessList"), (3, .class_ 326), (0, u "java/util/Collections$CheckedList"), (1, .class_ 329), (0, u "java/util/Collections$CheckedMap"), (3, .class_ 334), (0, u "java/util/Collections$CheckedSortedMap"), (3, .class_ 339), (0, u "java/util/Collections$CheckedNavigableMap"), (4, .class_ 346), (1, u "java/util/Collections$EmptyIterator"), (3, .class_ 352), (1, u "java/util/Collections$EmptyListIterator"), (2, .class_ 357), (1, u "java/util/Collections$EmptyEnumeration"), (4, u "EMPTY_SET"), (0, u "Ljava/util/Set;"), (6, u "EMPTY_LIST"), (0, u "Ljava/util/List;"), (2, u "EMPTY_MAP"), (0, u "Ljava/util/Map;"), (4, .class_ 381), (0, u "java/util/Collections$SingletonSet"), (2, .class_ 385), (0, u "java/util/Collections$1"), (1, .class_ 388), (0, u "java/util/Collections$2"), (1, .class_ 391), (0, u "java/util/Collections$SingletonList"), (1, .class_ 394), (0, u "java/util/Collections$SingletonMap"), (22, .class_ 418), (0, u "java/util/Collections$CopiesList"), (4, .class_ 425), (1, u "java/util/Collections$ReverseComparator"), (8, .class_ 435), (0, u "java/util/Collections$ReverseComparator2"), (6, .class_ 443), (0, u "java/util/Collections$3"), (25, .class_ 470), (0, u "java/util/Collections$SetFromMap"), (2, .class_ 474), (0, u "java/util/Collections$SequencedSetFromMap"), (3, .class_ 479), (0, u "java/util/Collections$AsLIFOQueue"), (11, .class_ 492), (0, u "java/util/Collections$EmptySet"), (1, .class_ 495), (0, u "java/util/Collections$EmptyList"), (1, .class_ 498), (0, u "java/util/Collections$EmptyMap"), (1, u "BINARYSEARCH_THRESHOLD"), (0, u "I"), (2, u "REVERSE_THRESHOLD"), (1, u "SHUFFLE_THRESHOLD"), (1, u "FILL_THRESHOLD"), (1, u "ROTATE_THRESHOLD"), (1, u "COPY_THRESHOLD"), (1, u "REPLACEALL_THRESHOLD"), (1, u "INDEXOFSUBLIST_THRESHOLD"), (333, .class_ 851), (0, u "java/util/Collections$CheckedMap$CheckedEntrySet"), (0, .class_ 853), (0, u "java/util/Collections$CheckedMap$CheckedEntrySet$CheckedEntry"), (0, .class_ 855), (0, u "java/util/Collections$CheckedMap$CheckedEntrySet$1"), (0, .class_ 857), (0, u "java/util/Collections$CheckedList$1"), (0, .class_ 859), (0, u "java/util/Collections$CheckedCollection$1"), (0, .class_ 861), (0, u "java/util/Collections$UnmodifiableNavigableMap$EmptyNavigableMap"), (0, .class_ 863), (0, u "java/util/Collections$UnmodifiableMap$UnmodifiableEntrySet"), (0, .class_ 865), (0, u "java/util/Collections$UnmodifiableMap$UnmodifiableEntrySet$UnmodifiableEntry"), (0, .class_ 867), (0, u "java/util/Collections$UnmodifiableMap$UnmodifiableEntrySet$UnmodifiableEntrySetSpliterator"), (0, .class_ 869), (0, u "java/util/Collections$UnmodifiableMap$UnmodifiableEntrySet$1"), (0, .class_ 871), (0, u "java/util/Collections$UnmodifiableList$1"), (0, .class_ 873), (0, u "java/util/Collections$UnmodifiableNavigableSet$EmptyNavigableSet"), (0, .class_ 875), (0, u "java/util/Collections$UnmodifiableCollection$1")] 57

def k24m0 : Method := { name := "<init>", desc := "()V", sig := { parameters := [], returnType := none }, accessFlags := 2, code := none }
/-- java/util/Collections -/
def k24 : Class := { plain "java/util/Collections" (some 0) with
  accessFlags := 33
  interfaces := #[]
  cf := some (fileOf pool24 19 #[.nestMembers #[478, 473, 469, 434, 423, 417, 393, 390, 380, 497, 494, 491, 355, 350, 344, 338, 333, 328, 850, 852, 854, 320, 325, 856, 315, 310, 305, 300, 287, 858, 284, 281, 278, 268, 271, 265, 262, 256, 250, 245, 860, 237, 231, 223, 862, 864, 866, 868, 215, 212, 870, 206, 872, 198, 190, 182, 174, 166, 874, 442, 387, 384]] #[{ accessFlags := 2, nameIndex := 5, descriptorIndex := 6, attributes := #[] }] 33 2 #[] #[{ accessFlags := 26, nameIndex := 500, descriptorIndex := 501, attributes := #[] }, { accessFlags := 26, nameIndex := 504, descriptorIndex := 501, attributes := #[] }, { accessFlags := 26, nameIndex := 506, descriptorIndex := 501, attributes := #[] }, { accessFlags := 26, nameIndex := 508, descriptorIndex := 501, attributes := #[] }, { accessFlags := 26, nameIndex := 510, descriptorIndex := 501, attributes := #[] }, { accessFlags := 26, nameIndex := 512, descriptorIndex := 501, attributes := #[] }, { accessFlags := 26, nameIndex := 514, descriptorIndex := 501, attributes := #[] }, { accessFlags := 26, nameIndex := 516, descriptorIndex := 501, attributes := #[] }, { accessFlags := 10, nameIndex := 84, descriptorIndex := 85, attributes := #[] }, { accessFlags := 25, nameIndex := 362, descriptorIndex := 363, attributes := #[] }, { accessFlags := 25, nameIndex := 370, descriptorIndex := 371, attributes := #[] }, { accessFlags := 25, nameIndex := 374, descriptorIndex := 375, attributes := #[] }])
  fields := #[{ name := "BINARYSEARCH_THRESHOLD", type := .int, accessFlags := 26, slot := 0, constantValue := 0 }, { name := "REVERSE_THRESHOLD", type := .int, accessFlags := 26, slot := 1, constantValue := 0 }, { name := "SHUFFLE_THRESHOLD", type := .int, accessFlags := 26, slot := 2, constantValue := 0 }, { name := "FILL_THRESHOLD", type := .int, accessFlags := 26, slot := 3, constantValue := 0 }, { name := "ROTATE_THRESHOLD", type := .int, accessFlags := 26, slot := 4, constantValue := 0 }, { name := "COPY_THRESHOLD", type := .int, accessFlags := 26, slot := 5, constantValue := 0 }, { name := "REPLACEALL_THRESHOLD", type := .int, accessFlags := 26, slot := 6, constantValue := 0 }, { name := "INDEXOFSUBLIST_THRESHOLD", type := .int, accessFlags := 26, slot := 7, constantValue := 0 }, { name := "r", type := (.object "java/util/Random"), accessFlags := 10, slot := 8, constantValue := 0 }, { name := "EMPTY_SET", type := (.object "java/util/Set"), accessFlags := 25, slot := 9, constantValue := 0 }, { name := "EMPTY_LIST", type := (.object "java/util/List"), accessFlags := 25, slot := 10, constantValue := 0 }, { name := "EMPTY_MAP", type := (.object "java/util/Map"), accessFlags := 25, slot := 11, constantValue := 0 }]
  methods := #[k24m0]
  instanceTypes := #[]
  staticTypes := #[.int, .int, .int, .int, .int, .int, .int, .int, (.object "java/util/Random"), (.object "java/util/Set"), (.object "java/util/List"), (.object "java/util/Map")]
  resolved := Array.replicate 933 none
  statics := some 4 }

def pool25 : Array CpInfo := pool [(8, .class_ 10), (1, u "java/lang/Iterable"), (24, .class_ 36), (0, u "java/lang/Object")] 25

/-- java/lang/Iterable -/
def k25 : Class := { plain "java/lang/Iterable" (some 0) with
  accessFlags := 1537
  interfaces := #[]
  cf := some (fileOf pool25 8 #[] #[] 1537 35 #[] #[])
  fields := #[]
  methods := #[]
  instanceTypes := #[]
  staticTypes := #[]
  resolved := Array.replicate 62 none
  statics := none }

def pool26 : Array CpInfo := pool [(10, .class_ 12), (1, u "java/util/Collection"), (47, .class_ 61), (0, u "java/lang/Object"), (0, .class_ 63), (0, u "java/lang/Iterable")] 51

/-- java/util/Collection -/
def k26 : Class := { plain "java/util/Collection" (some 0) with
  accessFlags := 1537
  interfaces := #[25]
  cf := some (fileOf pool26 10 #[] #[] 1537 60 #[62] #[])
  fields := #[]
  methods := #[]
  instanceTypes := #[]
  staticTypes := #[]
  resolved := Array.replicate 115 none
  statics := none }

def pool27 : Array CpInfo := pool [(2, .class_ 4), (1, u "java/lang/Object"), (0, u "<init>"), (0, u "()V"), (1, .class_ 10), (1, u "java/util/AbstractCollection"), (66, .class_ 78), (0, u "java/util/Collection")] 81

def k27m0 : Method := { name := "<init>", desc := "()V", sig := { parameters := [], returnType := none }, accessFlags := 4, code := none }
/-- java/util/AbstractCollection -/
def k27 : Class := { plain "java/util/AbstractCollection" (some 0) with
  accessFlags := 1057
  interfaces := #[26]
  cf := some (fileOf pool27 8 #[] #[{ accessFlags := 4, nameIndex := 5, descriptorIndex := 6, attributes := #[] }] 1057 2 #[77] #[])
  fields := #[]
  methods := #[k27m0]
  instanceTypes := #[]
  staticTypes := #[]
  resolved := Array.replicate 160 none
  statics := none }

def pool28 : Array CpInfo := pool [(8, .class_ 10), (1, u "java/util/SequencedCollection"), (15, .class_ 27), (0, u "java/lang/Object"), (0, .class_ 29), (0, u "java/util/Collection")] 27

/-- java/util/SequencedCollection -/
def k28 : Class := { plain "java/util/SequencedCollection" (some 0) with
  accessFlags := 1537
  interfaces := #[26]
  cf := some (fileOf pool28 8 #[] #[] 1537 26 #[28] #[])
  fields := #[]
  methods := #[]
  instanceTypes := #[]
  staticTypes := #[]
  resolved := Array.replicate 57 none
  statics := none }

def pool29 : Array CpInfo := pool [(8, .class_ 10), (1, u "java/util/List"), (92, .class_ 104), (0, u "java/lang/Object"), (15, .class_ 121), (0, u "java/util/SequencedCollection")] 129

/-- java/util/List -/
def k29 : Class := { plain "java/util/List" (some 0) with
  accessFlags := 1537
  interfaces := #[28]
  cf := some (fileOf pool29 8 #[] #[] 1537 103 #[120] #[])
  fields := #[]
  methods := #[]
  instanceTypes := #[]
  staticTypes := #[]
  resolved := Array.replicate 251 none
  statics := none }

def pool30 : Array CpInfo := pool [(2, .class_ 4), (1, u "java/util/AbstractCollection"), (0, u "<init>"), (0, u "()V"), (1, .class_ 10), (1, u "java/util/AbstractList"), (0, u "modCount"), (0, u "I"), (64, .class_ 78), (0, u "java/util/AbstractList$Itr"), (3, .class_ 83), (0, u "java/util/AbstractList$ListItr"), (9, .class_ 94), (0, u "java/util/AbstractList$RandomAccessSubList"), (3, .class_ 99), (0, u "java/util/AbstractList$SubList"), (33, .class_ 134), (0, u "java/util/List"), (73, .class_ 209), (0, u "java/util/AbstractList$SubList$1"), (0, .class_ 211), (0, u "java/util/AbstractList$RandomAccessSpliterator")] 6

def k30m0 : Method := { name := "<init>", desc := "()V", sig := { parameters := [], returnType := none }, accessFlags := 4, code := none }
/-- java/util/AbstractList -/
def k30 : Class := { plain "java/util/AbstractList" (some 27) with
  accessFlags := 1057
  interfaces := #[29]
  cf := some (fileOf pool30 8 #[.nestMembers #[93, 98, 208, 210, 82, 77]] #[{ accessFlags := 4, nameIndex := 5, descriptorIndex := 6, attributes := #[] }] 1057 2 #[133] #[{ accessFlags := 132, nameIndex := 11, descriptorIndex := 12, attributes := #[] }])
  fields := #[{ name := "modCount", type := .int, accessFlags := 132, slot := 0, constantValue := 0 }]
  methods := #[k30m0]
  instanceTypes := #[.int]
  staticTypes := #[]
  resolved := Array.replicate 218 none
  statics := none }

def pool31 : Array CpInfo := pool [(1, .class_ 2), (0, u "java/util/RandomAccess"), (0, .class_ 4), (0, u "java/lang/Object")] 2

/-- java/util/RandomAccess -/
def k31 : Class := { plain "java/util/RandomAccess" (some 0) with
  accessFlags := 1537
  interfaces := #[]
  cf := some (fileOf pool31 1 #[] #[] 1537 3 #[] #[])
  fields := #[]
  methods := #[]
  instanceTypes := #[]
  staticTypes := #[]
  resolved := Array.replicate 7 none
  statics := none }

def pool32 : Array CpInfo := pool [(2, .class_ 4), (1, u "java/util/AbstractList"), (0, u "<init>"), (0, u "()V"), (1, .class_ 10), (1, u "java/util/Collections"), (54, .class_ 66), (0, u "java/util/Collections$EmptyList"), (0, .class_ 68), (0, u "java/util/RandomAccess"), (0, .class_ 70), (0, u "java/io/Serializable"), (0, u "serialVersionUID"), (0, u "J")] 77

def k32m0 : Method := { name := "<init>", desc := "()V", sig := { parameters := [], returnType := none }, accessFlags := 2, code := none }
/-- java/util/Collections$EmptyList -/
def k32 : Class := { plain "java/util/Collections$EmptyList" (some 30) with
  accessFlags := 32
  interfaces := #[31, 2]
  cf := some (fileOf pool32 65 #[.nestHost 8] #[{ accessFlags := 2, nameIndex := 5, descriptorIndex := 6, attributes := #[] }] 32 2 #[67, 69] #[{ accessFlags := 26, nameIndex := 71, descriptorIndex := 72, attributes := #[] }])
  fields := #[{ name := "serialVersionUID", type := .long, accessFlags := 26, slot := 0, constantValue := 0 }]
  methods := #[k32m0]
  instanceTypes := #[.int]
  staticTypes := #[.long]
  resolved := Array.replicate 150 none
  statics := none }

def pool33 : Array CpInfo := pool [(2, .class_ 4), (1, u "java/lang/StackTraceElement"), (0, u "<init>"), (2, .class_ 10), (1, u "java/lang/Object"), (0, u "()V"), (2, u "format"), (0, u "B"), (2, u "classLoaderName"), (0, u "Ljava/lang/String;"), (2, u "moduleName"), (2, u "moduleVersion"), (12, u "declaringClass"), (4, u "methodName"), (2, u "fileName"), (2, u "lineNumber"), (0, u "I"), (65, u "declaringClassObject"), (0, u "Ljava/lang/Class;"), (33, .class_ 153), (1, u "java/lang/StackTraceElement$HashedModules"), (17, .class_ 172), (0, u "java/io/Serializable"), (0, u "NATIVE_METHOD"), (1, u "UNKNOWN_SOURCE"), (2, u "BUILTIN_CLASS_LOADER"), (1, u "JDK_NON_UPGRADEABLE_MODULE"), (1, u "serialVersionUID"), (0, u "J")] 51

def k33m0 : Method := { name := "<init>", desc := "()V", sig := { parameters := [], returnType := none }, accessFlags := 2, code := none }
/-- java/lang/StackTraceElement -/
def k33 : Class := { plain "java/lang/StackTraceElement" (some 0) with
  accessFlags := 49
  interfaces := #[2]
  cf := some (fileOf pool33 2 #[.nestMembers #[151]] #[{ accessFlags := 2, nameIndex := 5, descriptorIndex := 11, attributes := #[] }] 49 8 #[171] #[{ accessFlags := 26, nameIndex := 173, descriptorIndex := 19, attributes := #[] }, { accessFlags := 26, nameIndex := 175, descriptorIndex := 19, attributes := #[] }, { accessFlags := 130, nameIndex := 116, descriptorIndex := 117, attributes := #[] }, { accessFlags := 2, nameIndex := 18, descriptorIndex := 19, attributes := #[] }, { accessFlags := 2, nameIndex := 22, descriptorIndex := 19, attributes := #[] }, { accessFlags := 2, nameIndex := 25, descriptorIndex := 19, attributes := #[] }, { accessFlags := 2, nameIndex := 38, descriptorIndex := 19, attributes := #[] }, { accessFlags := 2, nameIndex := 43, descriptorIndex := 19, attributes := #[] }, { accessFlags := 2, nameIndex := 46, descriptorIndex := 19, attributes := #[] }, { accessFlags := 2, nameIndex := 49, descriptorIndex := 50, attributes := #[] }, { accessFlags := 2, nameIndex := 14, descriptorIndex := 15, attributes := #[] }, { accessFlags := 26, nameIndex := 178, descriptorIndex := 15, attributes := #[] }, { accessFlags := 26, nameIndex := 180, descriptorIndex := 15, attributes := #[] }, { accessFlags := 26, nameIndex := 182, descriptorIndex := 183, attributes := #[] }])
  fields := #[{ name := "NATIVE_METHOD", type := (.object "java/lang/String"), accessFlags := 26, slot := 0, constantValue := 0 }, { name := "UNKNOWN_SOURCE", type := (.object "java/lang/String"), accessFlags := 26, slot := 1, constantValue := 0 }, { name := "declaringClassObject", type := (.object "java/lang/Class"), accessFlags := 130, slot := 0, constantValue := 0 }, { name := "classLoaderName", type := (.object "java/lang/String"), accessFlags := 2, slot := 1, constantValue := 0 }, { name := "moduleName", type := (.object "java/lang/String"), accessFlags := 2, slot := 2, constantValue := 0 }, { name := "moduleVersion", type := (.object "java/lang/String"), accessFlags := 2, slot := 3, constantValue := 0 }, { name := "declaringClass", type := (.object "java/lang/String"), accessFlags := 2, slot := 4, constantValue := 0 }, { name := "methodName", type := (.object "java/lang/String"), accessFlags := 2, slot := 5, constantValue := 0 }, { name := "fileName", type := (.object "java/lang/String"), accessFlags := 2, slot := 6, constantValue := 0 }, { name := "lineNumber", type := .int, accessFlags := 2, slot := 7, constantValue := 0 }, { name := "format", type := .byte, accessFlags := 2, slot := 8, constantValue := 0 }, { name := "BUILTIN_CLASS_LOADER", type := .byte, accessFlags := 26, slot := 2, constantValue := 0 }, { name := "JDK_NON_UPGRADEABLE_MODULE", type := .byte, accessFlags := 26, slot := 3, constantValue := 0 }, { name := "serialVersionUID", type := .long, accessFlags := 26, slot := 4, constantValue := 0 }]
  methods := #[k33m0]
  instanceTypes := #[(.object "java/lang/Class"), (.object "java/lang/String"), (.object "java/lang/String"), (.object "java/lang/String"), (.object "java/lang/String"), (.object "java/lang/String"), (.object "java/lang/String"), .int, .byte]
  staticTypes := #[(.object "java/lang/String"), (.object "java/lang/String"), .byte, .byte, .long]
  resolved := Array.replicate 235 none
  statics := none }

def pool34 : Array CpInfo := pool [(1, u "java/lang/Cloneable"), (0, .class_ 1), (0, u "java/lang/Object"), (0, .class_ 3)] 3

/-- java/lang/Cloneable -/
def k34 : Class := { plain "java/lang/Cloneable" (some 0) with
  accessFlags := 1537
  interfaces := #[]
  cf := some (fileOf pool34 2 #[] #[] 1537 4 #[] #[])
  fields := #[]
  methods := #[]
  instanceTypes := #[]
  staticTypes := #[]
  resolved := Array.replicate 8 none
  statics := none }

/-- the primitive byte -/
def k35 : Class := { plain "byte" none with kind := .primitive 'B', accessFlags := 0x411 }
/-- [B -/
def k36 : Class := { plain "[B" (some 0) with kind := .array 35 .byte, interfaces := #[34, 2], accessFlags := 1041 }

/-- the primitive char -/
def k37 : Class := { plain "char" none with kind := .primitive 'C', accessFlags := 0x411 }
/-- [C -/
def k38 : Class := { plain "[C" (some 0) with kind := .array 37 .char, interfaces := #[34, 2], accessFlags := 1041 }

/-- the primitive int -/
def k39 : Class := { plain "int" none with kind := .primitive 'I', accessFlags := 0x411 }
/-- [I -/
def k40 : Class := { plain "[I" (some 0) with kind := .array 39 .int, interfaces := #[34, 2], accessFlags := 1041 }

/-- [Ljava/lang/Object; -/
def k41 : Class := { plain "[Ljava/lang/Object;" (some 0) with kind := .array 0 (.object "java/lang/Object"), interfaces := #[34, 2], accessFlags := 1041 }

/-- [Ljava/lang/StackTraceElement; -/
def k42 : Class := { plain "[Ljava/lang/StackTraceElement;" (some 0) with kind := .array 33 (.object "java/lang/StackTraceElement"), interfaces := #[34, 2], accessFlags := 1041 }

/-- [Ljava/lang/Throwable; -/
def k43 : Class := { plain "[Ljava/lang/Throwable;" (some 0) with kind := .array 8 (.object "java/lang/Throwable"), interfaces := #[34, 2], accessFlags := 1041 }

def heap : Heap := #[{ cls := 7, slots := #[.long 0, .int 1, .null, .int 0, .null, .int 0, .int 0], vm := .statics 7 },
  { cls := 8, slots := #[.long 0, .ref 6, .ref 7, .null, .null, .null, .null, .ref 8, .int 1], vm := .statics 8 },
  { cls := 13, slots := #[.null, .null, .ref 5, .null, .null, .null], vm := .statics 13 },
  { cls := 22, slots := #[.null, .null, .null], vm := .statics 22 },
  { cls := 24, slots := #[.int 0, .int 0, .int 0, .int 0, .int 0, .int 0, .int 0, .int 0, .null, .null, .ref 7, .null], vm := .statics 24 },
  { cls := 13, slots := #[.null, .int 2, .int 0], vm := .none },
  { cls := 42, slots := #[], vm := .none },
  { cls := 32, slots := #[.int 0], vm := .none },
  { cls := 43, slots := #[], vm := .none }]
def classes : Array Class := #[k0, k1, k2, k3, k4, k5, k6, k7, k8, k9, k10, k11, k12, k13, k14, k15, k16, k17, k18, k19, k20, k21, k22, k23, k24, k25, k26, k27, k28, k29, k30, k31, k32, k33, k34, k35, k36, k37, k38, k39, k40, k41, k42, k43]
def interned : List (Array UInt16 × Addr) := []
def slotsUsed : Nat := 41
def theMethod : MethodId := ⟨1, 1⟩
def args0 : Array Value := #[.int 0, .int 1, .int 2]
def aboutOver (below : List Frame) : State where
  vm := { classes := classes, interned := interned.toArray }
  heap := heap
  slotsUsed := slotsUsed
  threads := #[{ frames := .invoking theMethod args0 :: below }]
def below0 : List Frame := [.native { method := ⟨0, 0⟩, args := #[] }]
def about1 : State := aboutOver below0
def p0 : Program := .bare "" "" ""
def e0 : Env := launch0.env 0 0 0
theorem w_frames : about1.frames = Frame.invoking theMethod args0 :: below0 := rfl
set_option maxRecDepth 65536 in
theorem w_args : argsFit about1.vm theMethod args0 = true := by decide +kernel
set_option maxRecDepth 65536 in
theorem w_heap : heapFits about1 = true := by decide +kernel
set_option maxRecDepth 65536 in
theorem w_runnable : about1.curStatus? = some .runnable := by decide +kernel
set_option maxRecDepth 65536 in
theorem w_alone : about1.alone = true := by decide +kernel
set_option maxRecDepth 65536 in
theorem w_named : about1.methodNamed? x = some theMethod := by decide +kernel
set_option maxRecDepth 65536 in
theorem w_hears : about1.hears theMethod below0 = true := by decide +kernel
set_option maxRecDepth 65536 in
theorem w_ripe : about1.ripe theMethod args0 below0 = true := by decide +kernel
theorem w_running : about1.status = .running := rfl
set_option maxRecDepth 65536 in
theorem w_room : about1.hasRoom e0.platform room_1 = true :=
  launch0.hasRoom_least _ room_1 (by decide +kernel) (by decide +kernel) (by decide +kernel) (by decide +kernel) (by decide +kernel) (by decide +kernel)
theorem allAtoms_all (ts : List Jvm.Cond) (a : Array Jvm.Value) (st : Jvm.State) : (allAtoms ts).before a st = ts.all (fun c => c.before a st) := by
  induction ts with
  | nil => rfl
  | cons c t ih =>
    show (Jvm.Cond.and c (allAtoms t)).before a st = _
    rw [Jvm.Cond.before_and, ih, List.all_cons]
def words1 : List Jvm.Cond := Jvm.Cond.code x code maxLocals ret :: tables_1
/-- a 'code' word, met by the world's own term for the bytes: nothing is compared byte by byte -/
theorem code_word {y : MethodName} {bytes : ByteArray} {mx : Nat} {rt : Option FieldType} {a : Array Value} {s : State} {m : MethodId} {meth : Method} {c : Code} (h1 : s.methodNamed? y = some m) (h2 : s.vm.method? m = some meth) (h3 : meth.code = some c) (h4 : c.code = bytes)
    (h5 : (c.maxLocals == mx && c.exceptionTable.isEmpty && decide (c.maxStack ≤ mostOperands) && decide (meth.sig.returnType = rt) && !meth.locks && decide (parseMethodDescriptor y.desc = some meth.sig)) = true) : (Jvm.Cond.code y bytes mx rt).before a s = true := by
  simp only [Bool.and_eq_true, beq_iff_eq, Bool.not_eq_true', decide_eq_true_eq] at h5
  obtain ⟨⟨⟨⟨⟨g1, g2⟩, g3⟩, g4⟩, g5⟩, g6⟩ := h5
  simp [Cond.before, Cond.holds, Cond.value, h1, h2, h3, h4, g1, g2, g3, g4, g5, g6]
def isCode : Jvm.Cond → Bool
  | .code _ _ _ _ => true
  | _ => false
theorem all_split {L : List Jvm.Cond} {P : Jvm.Cond → Bool} (h1 : L.all (fun c => isCode c || P c) = true) (h2 : ∀ c ∈ L.filter isCode, P c = true) : L.all P = true := by
  refine List.all_eq_true.mpr fun c hc => ?_
  have h := List.all_eq_true.mp h1 c hc
  rcases Bool.eq_false_or_eq_true (isCode c) with hi | hi
  · exact h2 c (List.mem_filter.mpr ⟨hc, hi⟩)
  · simpa [hi] using h
set_option maxRecDepth 65536 in
theorem w_c0 : (Jvm.Cond.code x code maxLocals ret).before args0 about1 = true := code_word (m := ⟨1, 1⟩) (meth := k1m1) (c := k1c1) (by decide +kernel) rfl rfl rfl (by decide +kernel)
set_option maxRecDepth 65536 in
theorem w_c1 : (Jvm.Cond.code ({ cls := "com/example/ilan/ilan/engine/BrokerExceptionAlreadyExistsPinLaw", name := "mk", desc := "(II)Ljava/lang/String;" } : Jvm.MethodName) method_3_code (5 : Nat) (Option.some (Jvm.ClassFile.FieldType.object "java/lang/String"))).before args0 about1 = true := code_word (m := ⟨1, 2⟩) (meth := k1m2) (c := k1c2) (by decide +kernel) rfl rfl rfl (by decide +kernel)
set_option maxRecDepth 65536 in
theorem w_c2 : (Jvm.Cond.code ({ cls := "java/lang/String", name := "<init>", desc := "([C)V" } : Jvm.MethodName) jdk_42_method_3_code (2 : Nat) (Option.none : Option Jvm.ClassFile.FieldType)).before args0 about1 = true := code_word (m := ⟨7, 1⟩) (meth := k7m1) (c := k7c1) (by decide +kernel) rfl rfl rfl (by decide +kernel)
set_option maxRecDepth 65536 in
theorem w_c3 : (Jvm.Cond.code ({ cls := "java/lang/String", name := "<init>", desc := "([CIILjava/lang/Void;)V" } : Jvm.MethodName) jdk_42_method_149_code (6 : Nat) (Option.none : Option Jvm.ClassFile.FieldType)).before args0 about1 = true := code_word (m := ⟨7, 7⟩) (meth := k7m7) (c := k7c7) (by decide +kernel) rfl rfl rfl (by decide +kernel)
set_option maxRecDepth 65536 in
theorem w_c4 : (Jvm.Cond.code ({ cls := "java/lang/Object", name := "<init>", desc := "()V" } : Jvm.MethodName) object_method_1_code (1 : Nat) (Option.none : Option Jvm.ClassFile.FieldType)).before args0 about1 = true := code_word (m := ⟨0, 0⟩) (meth := k0m0) (c := k0c0) (by decide +kernel) rfl rfl rfl (by decide +kernel)
set_option maxRecDepth 65536 in
theorem w_c5 : (Jvm.Cond.code ({ cls := "com/example/ilan/ilan/engine/BrokerException", name := "alreadyExists", desc := "(Ljava/lang/String;Ljava/lang/String;)Lcom/example/ilan/ilan/engine/BrokerException;" } : Jvm.MethodName) prog_1_method_5_code (2 : Nat) (Option.some (Jvm.ClassFile.FieldType.object "com/example/ilan/ilan/engine/BrokerException"))).before args0 about1 = true := code_word (m := ⟨11, 2⟩) (meth := k11m2) (c := k11c2) (by decide +kernel) rfl rfl rfl (by decide +kernel)
set_option maxRecDepth 65536 in
theorem w_c6 : (Jvm.Cond.code ({ cls := "java/lang/StringBuilder", name := "<init>", desc := "()V" } : Jvm.MethodName) jdk_67_method_1_code (1 : Nat) (Option.none : Option Jvm.ClassFile.FieldType)).before args0 about1 = true := code_word (m := ⟨16, 0⟩) (meth := k16m0) (c := k16c0) (by decide +kernel) rfl rfl rfl (by decide +kernel)
set_option maxRecDepth 65536 in
theorem w_c7 : (Jvm.Cond.code ({ cls := "java/lang/AbstractStringBuilder", name := "<init>", desc := "(I)V" } : Jvm.MethodName) jdk_68_method_2_code (2 : Nat) (Option.none : Option Jvm.ClassFile.FieldType)).before args0 about1 = true := code_word (m := ⟨15, 1⟩) (meth := k15m1) (c := k15c1) (by decide +kernel) rfl rfl rfl (by decide +kernel)
set_option maxRecDepth 65536 in
theorem w_c8 : (Jvm.Cond.code ({ cls := "java/lang/StringBuilder", name := "append", desc := "(Ljava/lang/String;)Ljava/lang/StringBuilder;" } : Jvm.MethodName) jdk_67_method_7_code (2 : Nat) (Option.some (Jvm.ClassFile.FieldType.object "java/lang/StringBuilder"))).before args0 about1 = true := code_word (m := ⟨16, 1⟩) (meth := k16m1) (c := k16c1) (by decide +kernel) rfl rfl rfl (by decide +kernel)
set_option maxRecDepth 65536 in
theorem w_c9 : (Jvm.Cond.code ({ cls := "java/lang/AbstractStringBuilder", name := "append", desc := "(Ljava/lang/String;)Ljava/lang/AbstractStringBuilder;" } : Jvm.MethodName) jdk_68_method_22_code (3 : Nat) (Option.some (Jvm.ClassFile.FieldType.object "java/lang/AbstractStringBuilder"))).before args0 about1 = true := code_word (m := ⟨15, 5⟩) (meth := k15m5) (c := k15c5) (by decide +kernel) rfl rfl rfl (by decide +kernel)
set_option maxRecDepth 65536 in
theorem w_c10 : (Jvm.Cond.code ({ cls := "java/lang/String", name := "length", desc := "()I" } : Jvm.MethodName) jdk_42_method_54_code (1 : Nat) (Option.some Jvm.ClassFile.FieldType.int)).before args0 about1 = true := code_word (m := ⟨7, 3⟩) (meth := k7m3) (c := k7c3) (by decide +kernel) rfl rfl rfl (by decide +kernel)
set_option maxRecDepth 65536 in
theorem w_c11 : (Jvm.Cond.code ({ cls := "java/lang/String", name := "coder", desc := "()B" } : Jvm.MethodName) jdk_42_method_152_code (1 : Nat) (Option.some Jvm.ClassFile.FieldType.byte)).before args0 about1 = true := code_word (m := ⟨7, 10⟩) (meth := k7m10) (c := k7c10) (by decide +kernel) rfl rfl rfl (by decide +kernel)
set_option maxRecDepth 65536 in
theorem w_c12 : (Jvm.Cond.code ({ cls := "java/lang/AbstractStringBuilder", name := "ensureCapacityInternal", desc := "(I)V" } : Jvm.MethodName) jdk_68_method_9_code (3 : Nat) (Option.none : Option Jvm.ClassFile.FieldType)).before args0 about1 = true := code_word (m := ⟨15, 3⟩) (meth := k15m3) (c := k15c3) (by decide +kernel) rfl rfl rfl (by decide +kernel)
set_option maxRecDepth 65536 in
theorem w_c13 : (Jvm.Cond.code ({ cls := "java/lang/AbstractStringBuilder", name := "putStringAt", desc := "(ILjava/lang/String;)V" } : Jvm.MethodName) jdk_68_method_73_code (3 : Nat) (Option.none : Option Jvm.ClassFile.FieldType)).before args0 about1 = true := code_word (m := ⟨15, 9⟩) (meth := k15m9) (c := k15c9) (by decide +kernel) rfl rfl rfl (by decide +kernel)
set_option maxRecDepth 65536 in
theorem w_c14 : (Jvm.Cond.code ({ cls := "java/lang/AbstractStringBuilder", name := "inflateIfNeededFor", desc := "(Ljava/lang/String;)V" } : Jvm.MethodName) jdk_68_method_71_code (2 : Nat) (Option.none : Option Jvm.ClassFile.FieldType)).before args0 about1 = true := code_word (m := ⟨15, 8⟩) (meth := k15m8) (c := k15c8) (by decide +kernel) rfl rfl rfl (by decide +kernel)
set_option maxRecDepth 65536 in
theorem w_c15 : (Jvm.Cond.code ({ cls := "java/lang/String", name := "getBytes", desc := "([BIB)V" } : Jvm.MethodName) jdk_42_method_147_code (4 : Nat) (Option.none : Option Jvm.ClassFile.FieldType)).before args0 about1 = true := code_word (m := ⟨7, 6⟩) (meth := k7m6) (c := k7c6) (by decide +kernel) rfl rfl rfl (by decide +kernel)
set_option maxRecDepth 65536 in
theorem w_c16 : (Jvm.Cond.code ({ cls := "java/lang/AbstractStringBuilder", name := "newCapacity", desc := "(I)I" } : Jvm.MethodName) jdk_68_method_10_code (6 : Nat) (Option.some Jvm.ClassFile.FieldType.int)).before args0 about1 = true := code_word (m := ⟨15, 4⟩) (meth := k15m4) (c := k15c4) (by decide +kernel) rfl rfl rfl (by decide +kernel)
set_option maxRecDepth 65536 in
theorem w_c17 : (Jvm.Cond.code ({ cls := "jdk/internal/util/ArraysSupport", name := "newLength", desc := "(III)I" } : Jvm.MethodName) jdk_48_method_27_code (4 : Nat) (Option.some Jvm.ClassFile.FieldType.int)).before args0 about1 = true := code_word (m := ⟨18, 1⟩) (meth := k18m1) (c := k18c1) (by decide +kernel) rfl rfl rfl (by decide +kernel)
set_option maxRecDepth 65536 in
theorem w_c18 : (Jvm.Cond.code ({ cls := "java/lang/Math", name := "max", desc := "(II)I" } : Jvm.MethodName) jdk_29_method_65_code (2 : Nat) (Option.some Jvm.ClassFile.FieldType.int)).before args0 about1 = true := code_word (m := ⟨19, 1⟩) (meth := k19m1) (c := k19c1) (by decide +kernel) rfl rfl rfl (by decide +kernel)
set_option maxRecDepth 65536 in
theorem w_c19 : (Jvm.Cond.code ({ cls := "java/util/Arrays", name := "copyOf", desc := "([BI)[B" } : Jvm.MethodName) jdk_65_method_121_code (3 : Nat) (Option.some (Jvm.ClassFile.FieldType.array Jvm.ClassFile.FieldType.byte))).before args0 about1 = true := code_word (m := ⟨20, 1⟩) (meth := k20m1) (c := k20c1) (by decide +kernel) rfl rfl rfl (by decide +kernel)
set_option maxRecDepth 65536 in
theorem w_c20 : (Jvm.Cond.code ({ cls := "java/lang/Math", name := "min", desc := "(II)I" } : Jvm.MethodName) jdk_29_method_69_code (2 : Nat) (Option.some Jvm.ClassFile.FieldType.int)).before args0 about1 = true := code_word (m := ⟨19, 2⟩) (meth := k19m2) (c := k19c2) (by decide +kernel) rfl rfl rfl (by decide +kernel)
set_option maxRecDepth 65536 in
theorem w_c21 : (Jvm.Cond.code ({ cls := "java/lang/StringBuilder", name := "toString", desc := "()Ljava/lang/String;" } : Jvm.MethodName) jdk_67_method_42_code (1 : Nat) (Option.some (Jvm.ClassFile.FieldType.object "java/lang/String"))).before args0 about1 = true := code_word (m := ⟨16, 2⟩) (meth := k16m2) (c := k16c2) (by decide +kernel) rfl rfl rfl (by decide +kernel)
set_option maxRecDepth 65536 in
theorem w_c22 : (Jvm.Cond.code ({ cls := "java/lang/String", name := "<init>", desc := "(Ljava/lang/StringBuilder;)V" } : Jvm.MethodName) jdk_42_method_53_code (2 : Nat) (Option.none : Option Jvm.ClassFile.FieldType)).before args0 about1 = true := code_word (m := ⟨7, 2⟩) (meth := k7m2) (c := k7c2) (by decide +kernel) rfl rfl rfl (by decide +kernel)
set_option maxRecDepth 65536 in
theorem w_c23 : (Jvm.Cond.code ({ cls := "java/lang/String", name := "<init>", desc := "(Ljava/lang/AbstractStringBuilder;Ljava/lang/Void;)V" } : Jvm.MethodName) jdk_42_method_150_code (5 : Nat) (Option.none : Option Jvm.ClassFile.FieldType)).before args0 about1 = true := code_word (m := ⟨7, 8⟩) (meth := k7m8) (c := k7c8) (by decide +kernel) rfl rfl rfl (by decide +kernel)
set_option maxRecDepth 65536 in
theorem w_c24 : (Jvm.Cond.code ({ cls := "java/lang/AbstractStringBuilder", name := "getValue", desc := "()[B" } : Jvm.MethodName) jdk_68_method_64_code (1 : Nat) (Option.some (Jvm.ClassFile.FieldType.array Jvm.ClassFile.FieldType.byte))).before args0 about1 = true := code_word (m := ⟨15, 6⟩) (meth := k15m6) (c := k15c6) (by decide +kernel) rfl rfl rfl (by decide +kernel)
set_option maxRecDepth 65536 in
theorem w_c25 : (Jvm.Cond.code ({ cls := "java/lang/StringBuilder", name := "length", desc := "()I" } : Jvm.MethodName) jdk_67_method_93_code (1 : Nat) (Option.some Jvm.ClassFile.FieldType.int)).before args0 about1 = true := code_word (m := ⟨16, 3⟩) (meth := k16m3) (c := k16c3) (by decide +kernel) rfl rfl rfl (by decide +kernel)
set_option maxRecDepth 65536 in
theorem w_c26 : (Jvm.Cond.code ({ cls := "java/lang/AbstractStringBuilder", name := "length", desc := "()I" } : Jvm.MethodName) jdk_68_method_6_code (1 : Nat) (Option.some Jvm.ClassFile.FieldType.int)).before args0 about1 = true := code_word (m := ⟨15, 2⟩) (meth := k15m2) (c := k15c2) (by decide +kernel) rfl rfl rfl (by decide +kernel)
set_option maxRecDepth 65536 in
theorem w_c27 : (Jvm.Cond.code ({ cls := "java/lang/AbstractStringBuilder", name := "isLatin1", desc := "()Z" } : Jvm.MethodName) jdk_68_method_68_code (1 : Nat) (Option.some Jvm.ClassFile.FieldType.boolean)).before args0 about1 = true := code_word (m := ⟨15, 7⟩) (meth := k15m7) (c := k15c7) (by decide +kernel) rfl rfl rfl (by decide +kernel)
set_option maxRecDepth 65536 in
theorem w_c28 : (Jvm.Cond.code ({ cls := "java/util/Arrays", name := "copyOfRange", desc := "([BII)[B" } : Jvm.MethodName) jdk_65_method_132_code (3 : Nat) (Option.some (Jvm.ClassFile.FieldType.array Jvm.ClassFile.FieldType.byte))).before args0 about1 = true := code_word (m := ⟨20, 3⟩) (meth := k20m3) (c := k20c3) (by decide +kernel) rfl rfl rfl (by decide +kernel)
set_option maxRecDepth 65536 in
theorem w_c29 : (Jvm.Cond.code ({ cls := "java/util/Arrays", name := "copyOfRangeByte", desc := "([BII)[B" } : Jvm.MethodName) jdk_65_method_133_code (5 : Nat) (Option.some (Jvm.ClassFile.FieldType.array Jvm.ClassFile.FieldType.byte))).before args0 about1 = true := code_word (m := ⟨20, 4⟩) (meth := k20m4) (c := k20c4) (by decide +kernel) rfl rfl rfl (by decide +kernel)
set_option maxRecDepth 65536 in
theorem w_c30 : (Jvm.Cond.code ({ cls := "java/util/Arrays", name := "checkLength", desc := "(II)V" } : Jvm.MethodName) jdk_65_method_131_code (2 : Nat) (Option.none : Option Jvm.ClassFile.FieldType)).before args0 about1 = true := code_word (m := ⟨20, 2⟩) (meth := k20m2) (c := k20c2) (by decide +kernel) rfl rfl rfl (by decide +kernel)
set_option maxRecDepth 65536 in
theorem w_c31 : (Jvm.Cond.code ({ cls := "com/example/ilan/ilan/engine/BrokerException", name := "<init>", desc := "(Lcom/example/ilan/ilan/engine/BrokerException$Reason;Ljava/lang/String;)V" } : Jvm.MethodName) prog_1_method_1_code (3 : Nat) (Option.none : Option Jvm.ClassFile.FieldType)).before args0 about1 = true := code_word (m := ⟨11, 0⟩) (meth := k11m0) (c := k11c0) (by decide +kernel) rfl rfl rfl (by decide +kernel)
set_option maxRecDepth 65536 in
theorem w_c32 : (Jvm.Cond.code ({ cls := "java/lang/RuntimeException", name := "<init>", desc := "(Ljava/lang/String;)V" } : Jvm.MethodName) jdk_58_method_2_code (2 : Nat) (Option.none : Option Jvm.ClassFile.FieldType)).before args0 about1 = true := code_word (m := ⟨10, 1⟩) (meth := k10m1) (c := k10c1) (by decide +kernel) rfl rfl rfl (by decide +kernel)
set_option maxRecDepth 65536 in
theorem w_c33 : (Jvm.Cond.code ({ cls := "java/lang/Exception", name := "<init>", desc := "(Ljava/lang/String;)V" } : Jvm.MethodName) jdk_59_method_2_code (2 : Nat) (Option.none : Option Jvm.ClassFile.FieldType)).before args0 about1 = true := code_word (m := ⟨9, 1⟩) (meth := k9m1) (c := k9c1) (by decide +kernel) rfl rfl rfl (by decide +kernel)
set_option maxRecDepth 65536 in
theorem w_c34 : (Jvm.Cond.code ({ cls := "java/lang/Throwable", name := "<init>", desc := "(Ljava/lang/String;)V" } : Jvm.MethodName) jdk_78_method_2_code (2 : Nat) (Option.none : Option Jvm.ClassFile.FieldType)).before args0 about1 = true := code_word (m := ⟨8, 1⟩) (meth := k8m1) (c := k8c1) (by decide +kernel) rfl rfl rfl (by decide +kernel)
set_option maxRecDepth 65536 in
theorem w_c35 : (Jvm.Cond.code ({ cls := "java/lang/Throwable", name := "<init>", desc := "()V" } : Jvm.MethodName) jdk_78_method_1_code (1 : Nat) (Option.none : Option Jvm.ClassFile.FieldType)).before args0 about1 = true := code_word (m := ⟨8, 0⟩) (meth := k8m0) (c := k8c0) (by decide +kernel) rfl rfl rfl (by decide +kernel)
set_option maxRecDepth 65536 in
theorem w_c36 : (Jvm.Cond.code ({ cls := "com/example/ilan/ilan/engine/BrokerException", name := "getReason", desc := "()Lcom/example/ilan/ilan/engine/BrokerException$Reason;" } : Jvm.MethodName) prog_1_method_2_code (1 : Nat) (Option.some (Jvm.ClassFile.FieldType.object "com/example/ilan/ilan/engine/BrokerException$Reason"))).before args0 about1 = true := code_word (m := ⟨11, 1⟩) (meth := k11m1) (c := k11c1) (by decide +kernel) rfl rfl rfl (by decide +kernel)
set_option maxRecDepth 65536 in
theorem w_c37 : (Jvm.Cond.code ({ cls := "java/lang/Throwable", name := "getMessage", desc := "()Ljava/lang/String;" } : Jvm.MethodName) jdk_78_method_6_code (1 : Nat) (Option.some (Jvm.ClassFile.FieldType.object "java/lang/String"))).before args0 about1 = true := code_word (m := ⟨8, 2⟩) (meth := k8m2) (c := k8c2) (by decide +kernel) rfl rfl rfl (by decide +kernel)
set_option maxRecDepth 65536 in
theorem w_c38 : (Jvm.Cond.code ({ cls := "com/example/ilan/ilan/engine/BrokerExceptionAlreadyExistsPinLaw", name := "firstHalf", desc := "(Ljava/lang/String;Ljava/lang/String;Ljava/lang/String;)Z" } : Jvm.MethodName) method_6_code (3 : Nat) (Option.some Jvm.ClassFile.FieldType.boolean)).before args0 about1 = true := code_word (m := ⟨1, 5⟩) (meth := k1m5) (c := k1c5) (by decide +kernel) rfl rfl rfl (by decide +kernel)
set_option maxRecDepth 65536 in
theorem w_c39 : (Jvm.Cond.code ({ cls := "com/example/ilan/ilan/engine/BrokerExceptionAlreadyExistsPinLaw", name := "at", desc := "(Ljava/lang/String;ILjava/lang/String;Ljava/lang/String;)Z" } : Jvm.MethodName) method_5_code (4 : Nat) (Option.some Jvm.ClassFile.FieldType.boolean)).before args0 about1 = true := code_word (m := ⟨1, 4⟩) (meth := k1m4) (c := k1c4) (by decide +kernel) rfl rfl rfl (by decide +kernel)
set_option maxRecDepth 65536 in
theorem w_c40 : (Jvm.Cond.code ({ cls := "java/lang/String", name := "charAt", desc := "(I)C" } : Jvm.MethodName) jdk_42_method_56_code (2 : Nat) (Option.some Jvm.ClassFile.FieldType.char)).before args0 about1 = true := code_word (m := ⟨7, 4⟩) (meth := k7m4) (c := k7c4) (by decide +kernel) rfl rfl rfl (by decide +kernel)
set_option maxRecDepth 65536 in
theorem w_c41 : (Jvm.Cond.code ({ cls := "java/lang/String", name := "isLatin1", desc := "()Z" } : Jvm.MethodName) jdk_42_method_154_code (1 : Nat) (Option.some Jvm.ClassFile.FieldType.boolean)).before args0 about1 = true := code_word (m := ⟨7, 11⟩) (meth := k7m11) (c := k7c11) (by decide +kernel) rfl rfl rfl (by decide +kernel)
set_option maxRecDepth 65536 in
theorem w_c42 : (Jvm.Cond.code ({ cls := "java/lang/StringLatin1", name := "charAt", desc := "([BI)C" } : Jvm.MethodName) jdk_43_method_2_code (2 : Nat) (Option.some Jvm.ClassFile.FieldType.char)).before args0 about1 = true := code_word (m := ⟨21, 1⟩) (meth := k21m1) (c := k21c1) (by decide +kernel) rfl rfl rfl (by decide +kernel)
set_option maxRecDepth 65536 in
theorem w_c43 : (Jvm.Cond.code ({ cls := "java/lang/String", name := "checkIndex", desc := "(II)V" } : Jvm.MethodName) jdk_42_method_155_code (2 : Nat) (Option.none : Option Jvm.ClassFile.FieldType)).before args0 about1 = true := code_word (m := ⟨7, 12⟩) (meth := k7m12) (c := k7c12) (by decide +kernel) rfl rfl rfl (by decide +kernel)
set_option maxRecDepth 65536 in
theorem w_c44 : (Jvm.Cond.code ({ cls := "jdk/internal/util/Preconditions", name := "checkIndex", desc := "(IILjava/util/function/BiFunction;)I" } : Jvm.MethodName) jdk_41_method_11_code (3 : Nat) (Option.some Jvm.ClassFile.FieldType.int)).before args0 about1 = true := code_word (m := ⟨22, 1⟩) (meth := k22m1) (c := k22c1) (by decide +kernel) rfl rfl rfl (by decide +kernel)
set_option maxRecDepth 65536 in
theorem w_c45 : (Jvm.Cond.code ({ cls := "com/example/ilan/ilan/engine/BrokerExceptionAlreadyExistsPinLaw", name := "exp", desc := "(ILjava/lang/String;Ljava/lang/String;)C" } : Jvm.MethodName) method_4_code (6 : Nat) (Option.some Jvm.ClassFile.FieldType.char)).before args0 about1 = true := code_word (m := ⟨1, 3⟩) (meth := k1m3) (c := k1c3) (by decide +kernel) rfl rfl rfl (by decide +kernel)
set_option maxRecDepth 65536 in
theorem w_c46 : (Jvm.Cond.code ({ cls := "com/example/ilan/ilan/engine/BrokerExceptionAlreadyExistsPinLaw", name := "secondHalf", desc := "(Ljava/lang/String;Ljava/lang/String;Ljava/lang/String;)Z" } : Jvm.MethodName) method_7_code (3 : Nat) (Option.some Jvm.ClassFile.FieldType.boolean)).before args0 about1 = true := code_word (m := ⟨1, 6⟩) (meth := k1m6) (c := k1c6) (by decide +kernel) rfl rfl rfl (by decide +kernel)
set_option maxRecDepth 65536 in
theorem w_c47 : (Jvm.Cond.code ({ cls := "java/lang/String", name := "valueOf", desc := "(C)Ljava/lang/String;" } : Jvm.MethodName) jdk_42_method_139_code (1 : Nat) (Option.some (Jvm.ClassFile.FieldType.object "java/lang/String"))).before args0 about1 = true := code_word (m := ⟨7, 5⟩) (meth := k7m5) (c := k7c5) (by decide +kernel) rfl rfl rfl (by decide +kernel)
set_option maxRecDepth 65536 in
theorem w_c48 : (Jvm.Cond.code ({ cls := "java/lang/StringLatin1", name := "canEncode", desc := "(C)Z" } : Jvm.MethodName) jdk_43_method_3_code (1 : Nat) (Option.some Jvm.ClassFile.FieldType.boolean)).before args0 about1 = true := code_word (m := ⟨21, 2⟩) (meth := k21m2) (c := k21c2) (by decide +kernel) rfl rfl rfl (by decide +kernel)
set_option maxRecDepth 65536 in
theorem w_c49 : (Jvm.Cond.code ({ cls := "java/lang/StringLatin1", name := "toBytes", desc := "(C)[B" } : Jvm.MethodName) jdk_43_method_46_code (1 : Nat) (Option.some (Jvm.ClassFile.FieldType.array Jvm.ClassFile.FieldType.byte))).before args0 about1 = true := code_word (m := ⟨21, 3⟩) (meth := k21m3) (c := k21c3) (by decide +kernel) rfl rfl rfl (by decide +kernel)
set_option maxRecDepth 65536 in
theorem w_c50 : (Jvm.Cond.code ({ cls := "java/lang/String", name := "<init>", desc := "([BB)V" } : Jvm.MethodName) jdk_42_method_151_code (3 : Nat) (Option.none : Option Jvm.ClassFile.FieldType)).before args0 about1 = true := code_word (m := ⟨7, 9⟩) (meth := k7m9) (c := k7c9) (by decide +kernel) rfl rfl rfl (by decide +kernel)
set_option maxRecDepth 65536 in
theorem w_c51 : (Jvm.Cond.code ({ cls := "java/lang/StringUTF16", name := "compress", desc := "([CII)[B" } : Jvm.MethodName) jdk_52_method_16_code (6 : Nat) (Option.some (Jvm.ClassFile.FieldType.array Jvm.ClassFile.FieldType.byte))).before args0 about1 = true := code_word (m := ⟨23, 2⟩) (meth := k23m2) (c := k23c2) (by decide +kernel) rfl rfl rfl (by decide +kernel)
set_option maxRecDepth 65536 in
theorem w_c52 : (Jvm.Cond.code ({ cls := "java/lang/StringUTF16", name := "compress", desc := "([CI[BII)I" } : Jvm.MethodName) jdk_52_method_21_code (7 : Nat) (Option.some Jvm.ClassFile.FieldType.int)).before args0 about1 = true := code_word (m := ⟨23, 3⟩) (meth := k23m3) (c := k23c3) (by decide +kernel) rfl rfl rfl (by decide +kernel)
set_option maxRecDepth 65536 in
theorem w_c53 : (Jvm.Cond.code ({ cls := "java/lang/StringUTF16", name := "coderFromArrayLen", desc := "([BI)B" } : Jvm.MethodName) jdk_52_method_15_code (2 : Nat) (Option.some Jvm.ClassFile.FieldType.byte)).before args0 about1 = true := code_word (m := ⟨23, 1⟩) (meth := k23m1) (c := k23c1) (by decide +kernel) rfl rfl rfl (by decide +kernel)
def codes1 : List Jvm.Cond := [Jvm.Cond.code x code maxLocals ret, Jvm.Cond.code ({ cls := "com/example/ilan/ilan/engine/BrokerExceptionAlreadyExistsPinLaw", name := "mk", desc := "(II)Ljava/lang/String;" } : Jvm.MethodName) method_3_code (5 : Nat) (Option.some (Jvm.ClassFile.FieldType.object "java/lang/String")), Jvm.Cond.code ({ cls := "java/lang/String", name := "<init>", desc := "([C)V" } : Jvm.MethodName) jdk_42_method_3_code (2 : Nat) (Option.none : Option Jvm.ClassFile.FieldType), Jvm.Cond.code ({ cls := "java/lang/String", name := "<init>", desc := "([CIILjava/lang/Void;)V" } : Jvm.MethodName) jdk_42_method_149_code (6 : Nat) (Option.none : Option Jvm.ClassFile.FieldType), Jvm.Cond.code ({ cls := "java/lang/Object", name := "<init>", desc := "()V" } : Jvm.MethodName) object_method_1_code (1 : Nat) (Option.none : Option Jvm.ClassFile.FieldType), Jvm.Cond.code ({ cls := "com/example/ilan/ilan/engine/BrokerException", name := "alreadyExists", desc := "(Ljava/lang/String;Ljava/lang/String;)Lcom/example/ilan/ilan/engine/BrokerException;" } : Jvm.MethodName) prog_1_method_5_code (2 : Nat) (Option.some (Jvm.ClassFile.FieldType.object "com/example/ilan/ilan/engine/BrokerException")), Jvm.Cond.code ({ cls := "java/lang/StringBuilder", name := "<init>", desc := "()V" } : Jvm.MethodName) jdk_67_method_1_code (1 : Nat) (Option.none : Option Jvm.ClassFile.FieldType), Jvm.Cond.code ({ cls := "java/lang/AbstractStringBuilder", name := "<init>", desc := "(I)V" } : Jvm.MethodName) jdk_68_method_2_code (2 : Nat) (Option.none : Option Jvm.ClassFile.FieldType), Jvm.Cond.code ({ cls := "java/lang/StringBuilder", name := "append", desc := "(Ljava/lang/String;)Ljava/lang/StringBuilder;" } : Jvm.MethodName) jdk_67_method_7_code (2 : Nat) (Option.some (Jvm.ClassFile.FieldType.object "java/lang/StringBuilder")), Jvm.Cond.code ({ cls := "java/lang/AbstractStringBuilder", name := "append", desc := "(Ljava/lang/String;)Ljava/lang/AbstractStringBuilder;" } : Jvm.MethodName) jdk_68_method_22_code (3 : Nat) (Option.some (Jvm.ClassFile.FieldType.object "java/lang/AbstractStringBuilder")), Jvm.Cond.code ({ cls := "java/lang/String", name := "length", desc := "()I" } : Jvm.MethodName) jdk_42_method_54_code (1 : Nat) (Option.some Jvm.ClassFile.FieldType.int), Jvm.Cond.code ({ cls := "java/lang/String", name := "coder", desc := "()B" } : Jvm.MethodName) jdk_42_method_152_code (1 : Nat) (Option.some Jvm.ClassFile.FieldType.byte), Jvm.Cond.code ({ cls := "java/lang/AbstractStringBuilder", name := "ensureCapacityInternal", desc := "(I)V" } : Jvm.MethodName) jdk_68_method_9_code (3 : Nat) (Option.none : Option Jvm.ClassFile.FieldType), Jvm.Cond.code ({ cls := "java/lang/AbstractStringBuilder", name := "putStringAt", desc := "(ILjava/lang/String;)V" } : Jvm.MethodName) jdk_68_method_73_code (3 : Nat) (Option.none : Option Jvm.ClassFile.FieldType), Jvm.Cond.code ({ cls := "java/lang/AbstractStringBuilder", name := "inflateIfNeededFor", desc := "(Ljava/lang/String;)V" } : Jvm.MethodName) jdk_68_method_71_code (2 : Nat) (Option.none : Option Jvm.ClassFile.FieldType), Jvm.Cond.code ({ cls := "java/lang/String", name := "getBytes", desc := "([BIB)V" } : Jvm.MethodName) jdk_42_method_147_code (4 : Nat) (Option.none : Option Jvm.ClassFile.FieldType), Jvm.Cond.code ({ cls := "java/lang/AbstractStringBuilder", name := "newCapacity", desc := "(I)I" } : Jvm.MethodName) jdk_68_method_10_code (6 : Nat) (Option.some Jvm.ClassFile.FieldType.int), Jvm.Cond.code ({ cls := "jdk/internal/util/ArraysSupport", name := "newLength", desc := "(III)I" } : Jvm.MethodName) jdk_48_method_27_code (4 : Nat) (Option.some Jvm.ClassFile.FieldType.int), Jvm.Cond.code ({ cls := "java/lang/Math", name := "max", desc := "(II)I" } : Jvm.MethodName) jdk_29_method_65_code (2 : Nat) (Option.some Jvm.ClassFile.FieldType.int), Jvm.Cond.code ({ cls := "java/util/Arrays", name := "copyOf", desc := "([BI)[B" } : Jvm.MethodName) jdk_65_method_121_code (3 : Nat) (Option.some (Jvm.ClassFile.FieldType.array Jvm.ClassFile.FieldType.byte)), Jvm.Cond.code ({ cls := "java/lang/Math", name := "min", desc := "(II)I" } : Jvm.MethodName) jdk_29_method_69_code (2 : Nat) (Option.some Jvm.ClassFile.FieldType.int), Jvm.Cond.code ({ cls := "java/lang/StringBuilder", name := "toString", desc := "()Ljava/lang/String;" } : Jvm.MethodName) jdk_67_method_42_code (1 : Nat) (Option.some (Jvm.ClassFile.FieldType.object "java/lang/String")), Jvm.Cond.code ({ cls := "java/lang/String", name := "<init>", desc := "(Ljava/lang/StringBuilder;)V" } : Jvm.MethodName) jdk_42_method_53_code (2 : Nat) (Option.none : Option Jvm.ClassFile.FieldType), Jvm.Cond.code ({ cls := "java/lang/String", name := "<init>", desc := "(Ljava/lang/AbstractStringBuilder;Ljava/lang/Void;)V" } : Jvm.MethodName) jdk_42_method_150_code (5 : Nat) (Option.none : Option Jvm.ClassFile.FieldType), Jvm.Cond.code ({ cls := "java/lang/AbstractStringBuilder", name := "getValue", desc := "()[B" } : Jvm.MethodName) jdk_68_method_64_code (1 : Nat) (Option.some (Jvm.ClassFile.FieldType.array Jvm.ClassFile.FieldType.byte)), Jvm.Cond.code ({ cls := "java/lang/StringBuilder", name := "length", desc := "()I" } : Jvm.MethodName) jdk_67_method_93_code (1 : Nat) (Option.some Jvm.ClassFile.FieldType.int), Jvm.Cond.code ({ cls := "java/lang/AbstractStringBuilder", name := "length", desc := "()I" } : Jvm.MethodName) jdk_68_method_6_code (1 : Nat) (Option.some Jvm.ClassFile.FieldType.int), Jvm.Cond.code ({ cls := "java/lang/AbstractStringBuilder", name := "isLatin1", desc := "()Z" } : Jvm.MethodName) jdk_68_method_68_code (1 : Nat) (Option.some Jvm.ClassFile.FieldType.boolean), Jvm.Cond.code ({ cls := "java/util/Arrays", name := "copyOfRange", desc := "([BII)[B" } : Jvm.MethodName) jdk_65_method_132_code (3 : Nat) (Option.some (Jvm.ClassFile.FieldType.array Jvm.ClassFile.FieldType.byte)), Jvm.Cond.code ({ cls := "java/util/Arrays", name := "copyOfRangeByte", desc := "([BII)[B" } : Jvm.MethodName) jdk_65_method_133_code (5 : Nat) (Option.some (Jvm.ClassFile.FieldType.array Jvm.ClassFile.FieldType.byte)), Jvm.Cond.code ({ cls := "java/util/Arrays", name := "checkLength", desc := "(II)V" } : Jvm.MethodName) jdk_65_method_131_code (2 : Nat) (Option.none : Option Jvm.ClassFile.FieldType), Jvm.Cond.code ({ cls := "com/example/ilan/ilan/engine/BrokerException", name := "<init>", desc := "(Lcom/example/ilan/ilan/engine/BrokerException$Reason;Ljava/lang/String;)V" } : Jvm.MethodName) prog_1_method_1_code (3 : Nat) (Option.none : Option Jvm.ClassFile.FieldType), Jvm.Cond.code ({ cls := "java/lang/RuntimeException", name := "<init>", desc := "(Ljava/lang/String;)V" } : Jvm.MethodName) jdk_58_method_2_code (2 : Nat) (Option.none : Option Jvm.ClassFile.FieldType), Jvm.Cond.code ({ cls := "java/lang/Exception", name := "<init>", desc := "(Ljava/lang/String;)V" } : Jvm.MethodName) jdk_59_method_2_code (2 : Nat) (Option.none : Option Jvm.ClassFile.FieldType), Jvm.Cond.code ({ cls := "java/lang/Throwable", name := "<init>", desc := "(Ljava/lang/String;)V" } : Jvm.MethodName) jdk_78_method_2_code (2 : Nat) (Option.none : Option Jvm.ClassFile.FieldType), Jvm.Cond.code ({ cls := "java/lang/Throwable", name := "<init>", desc := "()V" } : Jvm.MethodName) jdk_78_method_1_code (1 : Nat) (Option.none : Option Jvm.ClassFile.FieldType), Jvm.Cond.code ({ cls := "com/example/ilan/ilan/engine/BrokerException", name := "getReason", desc := "()Lcom/example/ilan/ilan/engine/BrokerException$Reason;" } : Jvm.MethodName) prog_1_method_2_code (1 : Nat) (Option.some (Jvm.ClassFile.FieldType.object "com/example/ilan/ilan/engine/BrokerException$Reason")), Jvm.Cond.code ({ cls := "java/lang/Throwable", name := "getMessage", desc := "()Ljava/lang/String;" } : Jvm.MethodName) jdk_78_method_6_code (1 : Nat) (Option.some (Jvm.ClassFile.FieldType.object "java/lang/String")), Jvm.Cond.code ({ cls := "com/example/ilan/ilan/engine/BrokerExceptionAlreadyExistsPinLaw", name := "firstHalf", desc := "(Ljava/lang/String;Ljava/lang/String;Ljava/lang/String;)Z" } : Jvm.MethodName) method_6_code (3 : Nat) (Option.some Jvm.ClassFile.FieldType.boolean), Jvm.Cond.code ({ cls := "com/example/ilan/ilan/engine/BrokerExceptionAlreadyExistsPinLaw", name := "at", desc := "(Ljava/lang/String;ILjava/lang/String;Ljava/lang/String;)Z" } : Jvm.MethodName) method_5_code (4 : Nat) (Option.some Jvm.ClassFile.FieldType.boolean), Jvm.Cond.code ({ cls := "java/lang/String", name := "charAt", desc := "(I)C" } : Jvm.MethodName) jdk_42_method_56_code (2 : Nat) (Option.some Jvm.ClassFile.FieldType.char), Jvm.Cond.code ({ cls := "java/lang/String", name := "isLatin1", desc := "()Z" } : Jvm.MethodName) jdk_42_method_154_code (1 : Nat) (Option.some Jvm.ClassFile.FieldType.boolean), Jvm.Cond.code ({ cls := "java/lang/StringLatin1", name := "charAt", desc := "([BI)C" } : Jvm.MethodName) jdk_43_method_2_code (2 : Nat) (Option.some Jvm.ClassFile.FieldType.char), Jvm.Cond.code ({ cls := "java/lang/String", name := "checkIndex", desc := "(II)V" } : Jvm.MethodName) jdk_42_method_155_code (2 : Nat) (Option.none : Option Jvm.ClassFile.FieldType), Jvm.Cond.code ({ cls := "jdk/internal/util/Preconditions", name := "checkIndex", desc := "(IILjava/util/function/BiFunction;)I" } : Jvm.MethodName) jdk_41_method_11_code (3 : Nat) (Option.some Jvm.ClassFile.FieldType.int), Jvm.Cond.code ({ cls := "com/example/ilan/ilan/engine/BrokerExceptionAlreadyExistsPinLaw", name := "exp", desc := "(ILjava/lang/String;Ljava/lang/String;)C" } : Jvm.MethodName) method_4_code (6 : Nat) (Option.some Jvm.ClassFile.FieldType.char), Jvm.Cond.code ({ cls := "com/example/ilan/ilan/engine/BrokerExceptionAlreadyExistsPinLaw", name := "secondHalf", desc := "(Ljava/lang/String;Ljava/lang/String;Ljava/lang/String;)Z" } : Jvm.MethodName) method_7_code (3 : Nat) (Option.some Jvm.ClassFile.FieldType.boolean), Jvm.Cond.code ({ cls := "java/lang/String", name := "valueOf", desc := "(C)Ljava/lang/String;" } : Jvm.MethodName) jdk_42_method_139_code (1 : Nat) (Option.some (Jvm.ClassFile.FieldType.object "java/lang/String")), Jvm.Cond.code ({ cls := "java/lang/StringLatin1", name := "canEncode", desc := "(C)Z" } : Jvm.MethodName) jdk_43_method_3_code (1 : Nat) (Option.some Jvm.ClassFile.FieldType.boolean), Jvm.Cond.code ({ cls := "java/lang/StringLatin1", name := "toBytes", desc := "(C)[B" } : Jvm.MethodName) jdk_43_method_46_code (1 : Nat) (Option.some (Jvm.ClassFile.FieldType.array Jvm.ClassFile.FieldType.byte)), Jvm.Cond.code ({ cls := "java/lang/String", name := "<init>", desc := "([BB)V" } : Jvm.MethodName) jdk_42_method_151_code (3 : Nat) (Option.none : Option Jvm.ClassFile.FieldType), Jvm.Cond.code ({ cls := "java/lang/StringUTF16", name := "compress", desc := "([CII)[B" } : Jvm.MethodName) jdk_52_method_16_code (6 : Nat) (Option.some (Jvm.ClassFile.FieldType.array Jvm.ClassFile.FieldType.byte)), Jvm.Cond.code ({ cls := "java/lang/StringUTF16", name := "compress", desc := "([CI[BII)I" } : Jvm.MethodName) jdk_52_method_21_code (7 : Nat) (Option.some Jvm.ClassFile.FieldType.int), Jvm.Cond.code ({ cls := "java/lang/StringUTF16", name := "coderFromArrayLen", desc := "([BI)B" } : Jvm.MethodName) jdk_52_method_15_code (2 : Nat) (Option.some Jvm.ClassFile.FieldType.byte)]
set_option maxRecDepth 65536 in
theorem codes_eq : words1.filter isCode = codes1 := rfl
theorem w_codes : ∀ c ∈ words1.filter isCode, c.before args0 about1 = true := by
  rw [codes_eq]
  intro c hc
  simp only [codes1, List.mem_cons, List.not_mem_nil, or_false] at hc
  rcases hc with rfl | rfl | rfl | rfl | rfl | rfl | rfl | rfl | rfl | rfl | rfl | rfl | rfl | rfl | rfl | rfl | rfl | rfl | rfl | rfl | rfl | rfl | rfl | rfl | rfl | rfl | rfl | rfl | rfl | rfl | rfl | rfl | rfl | rfl | rfl | rfl | rfl | rfl | rfl | rfl | rfl | rfl | rfl | rfl | rfl | rfl | rfl | rfl | rfl | rfl | rfl | rfl | rfl | rfl
  · exact w_c0
  · exact w_c1
  · exact w_c2
  · exact w_c3
  · exact w_c4
  · exact w_c5
  · exact w_c6
  · exact w_c7
  · exact w_c8
  · exact w_c9
  · exact w_c10
  · exact w_c11
  · exact w_c12
  · exact w_c13
  · exact w_c14
  · exact w_c15
  · exact w_c16
  · exact w_c17
  · exact w_c18
  · exact w_c19
  · exact w_c20
  · exact w_c21
  · exact w_c22
  · exact w_c23
  · exact w_c24
  · exact w_c25
  · exact w_c26
  · exact w_c27
  · exact w_c28
  · exact w_c29
  · exact w_c30
  · exact w_c31
  · exact w_c32
  · exact w_c33
  · exact w_c34
  · exact w_c35
  · exact w_c36
  · exact w_c37
  · exact w_c38
  · exact w_c39
  · exact w_c40
  · exact w_c41
  · exact w_c42
  · exact w_c43
  · exact w_c44
  · exact w_c45
  · exact w_c46
  · exact w_c47
  · exact w_c48
  · exact w_c49
  · exact w_c50
  · exact w_c51
  · exact w_c52
  · exact w_c53
set_option maxRecDepth 65536 in
theorem w_t1 : (words1.take 24).all (fun c => isCode c || c.before args0 about1) = true := by decide +kernel
set_option maxRecDepth 65536 in
theorem w_t2 : ((words1.drop 24).take 24).all (fun c => isCode c || c.before args0 about1) = true := by decide +kernel
set_option maxRecDepth 65536 in
theorem w_t3 : (((words1.drop 24).drop 24).take 24).all (fun c => isCode c || c.before args0 about1) = true := by decide +kernel
set_option maxRecDepth 65536 in
theorem w_t4 : ((((words1.drop 24).drop 24).drop 24).take 24).all (fun c => isCode c || c.before args0 about1) = true := by decide +kernel
set_option maxRecDepth 65536 in
theorem w_t5 : (((((words1.drop 24).drop 24).drop 24).drop 24).take 24).all (fun c => isCode c || c.before args0 about1) = true := by decide +kernel
set_option maxRecDepth 65536 in
theorem w_t6 : ((((((words1.drop 24).drop 24).drop 24).drop 24).drop 24).take 24).all (fun c => isCode c || c.before args0 about1) = true := by decide +kernel
set_option maxRecDepth 65536 in
theorem w_t7 : (((((((words1.drop 24).drop 24).drop 24).drop 24).drop 24).drop 24).take 24).all (fun c => isCode c || c.before args0 about1) = true := by decide +kernel
set_option maxRecDepth 65536 in
theorem w_t8 : ((((((((words1.drop 24).drop 24).drop 24).drop 24).drop 24).drop 24).drop 24).take 24).all (fun c => isCode c || c.before args0 about1) = true := by decide +kernel
set_option maxRecDepth 65536 in
theorem w_t9 : (((((((((words1.drop 24).drop 24).drop 24).drop 24).drop 24).drop 24).drop 24).drop 24).take 24).all (fun c => isCode c || c.before args0 about1) = true := by decide +kernel
set_option maxRecDepth 65536 in
theorem w_t10 : ((((((((((words1.drop 24).drop 24).drop 24).drop 24).drop 24).drop 24).drop 24).drop 24).drop 24).take 24).all (fun c => isCode c || c.before args0 about1) = true := by decide +kernel
set_option maxRecDepth 65536 in
theorem w_t11 : (((((((((((words1.drop 24).drop 24).drop 24).drop 24).drop 24).drop 24).drop 24).drop 24).drop 24).drop 24).take 24).all (fun c => isCode c || c.before args0 about1) = true := by decide +kernel
set_option maxRecDepth 65536 in
theorem w_t12 : ((((((((((((words1.drop 24).drop 24).drop 24).drop 24).drop 24).drop 24).drop 24).drop 24).drop 24).drop 24).drop 24).take 24).all (fun c => isCode c || c.before args0 about1) = true := by decide +kernel
set_option maxRecDepth 65536 in
theorem w_t13 : ((((((((((((words1.drop 24).drop 24).drop 24).drop 24).drop 24).drop 24).drop 24).drop 24).drop 24).drop 24).drop 24).drop 24).all (fun c => isCode c || c.before args0 about1) = true := by decide +kernel
theorem w_tables : (allAtoms (Jvm.Cond.code x code maxLocals ret :: tables_1)).before args0 about1 = true := by
  rw [allAtoms_all]
  show words1.all (fun c => c.before args0 about1) = true
  refine all_split ?_ w_codes
  rw [← List.take_append_drop 24 words1, List.all_append, w_t1, ← List.take_append_drop 24 (words1.drop 24), List.all_append, w_t2, ← List.take_append_drop 24 ((words1.drop 24).drop 24), List.all_append, w_t3, ← List.take_append_drop 24 (((words1.drop 24).drop 24).drop 24), List.all_append, w_t4, ← List.take_append_drop 24 ((((words1.drop 24).drop 24).drop 24).drop 24), List.all_append, w_t5, ← List.take_append_drop 24 (((((words1.drop 24).drop 24).drop 24).drop 24).drop 24), List.all_append, w_t6, ← List.take_append_drop 24 ((((((words1.drop 24).drop 24).drop 24).drop 24).drop 24).drop 24), List.all_append, w_t7, ← List.take_append_drop 24 (((((((words1.drop 24).drop 24).drop 24).drop 24).drop 24).drop 24).drop 24), List.all_append, w_t8, ← List.take_append_drop 24 ((((((((words1.drop 24).drop 24).drop 24).drop 24).drop 24).drop 24).drop 24).drop 24), List.all_append, w_t9, ← List.take_append_drop 24 (((((((((words1.drop 24).drop 24).drop 24).drop 24).drop 24).drop 24).drop 24).drop 24).drop 24), List.all_append, w_t10, ← List.take_append_drop 24 ((((((((((words1.drop 24).drop 24).drop 24).drop 24).drop 24).drop 24).drop 24).drop 24).drop 24).drop 24), List.all_append, w_t11, ← List.take_append_drop 24 (((((((((((words1.drop 24).drop 24).drop 24).drop 24).drop 24).drop 24).drop 24).drop 24).drop 24).drop 24).drop 24), List.all_append, w_t12, w_t13]
  rfl
set_option maxRecDepth 65536 in
theorem w_rest : rest_1_c.before args0 about1 = true := by decide +kernel
set_option maxRecDepth 65536 in
theorem w_case : (Jvm.Cond.and given_1 narrow_1).before args0 about1 = true := by decide +kernel
set_option maxRecDepth 65536 in
theorem w_consts : constsHeld consts_1 about1 := Jvm.Lit.constsHeldB_iff.mp (by decide +kernel)
theorem w_applies : (headSpec (Jvm.Cond.code x code maxLocals ret :: tables_1) room_1).applies x e0.platform about1 = true :=
  (Spec.applies_iff w_frames).mpr ⟨w_running, w_runnable, w_alone, w_named, w_hears, w_ripe, w_room, w_tables⟩
theorem atStart : AtStart classFile x code maxLocals ret World_1 tables_1 room_1 Calls_1 rest_1 Pre_1 launch0 p0 e0 about1 theMethod args0 below0 :=
  ⟨lists_1, trivial, launch0.admits_env _ _ _, launch0.least_env, fairChoices_fair.cas, fairChoices_fair.clock, w_frames, w_args, w_heap, w_applies, ⟨(by decide +kernel : framesKnown about1 = true), ⟨(by decide +kernel : tablesKnown about1 = true), ⟨w_consts, trivial⟩⟩⟩, w_rest, w_case⟩
end start1
theorem witness_1 : WitnessClaimed_1 := ⟨start1.p0, start1.e0, start1.about1, start1.theMethod, start1.args0, start1.below0, start1.atStart⟩
end Jvm.Pilot.@@N@@
