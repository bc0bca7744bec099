import JvmDerived
import JvmDerived.Pilot.@@N@@Statement
import JvmDerived.Pilot.@@N@@Code
set_option linter.unusedVariables false
set_option linter.unusedSimpArgs false
namespace Jvm.Own
open Jvm Jvm.ClassFile Sem Op Lib Jvm.Free Jvm.Stand Jvm.LawKit Jvm.RoadKit Bundle
/-! A layer of weakest premises over the library's Stand family: a goal says 'from here the body ends as Q says'; one rule an instruction. -/
abbrev Inf : Type := MethodName × ByteArray × Nat × Option FieldType × Room
abbrev Inf.y (I : Inf) : MethodName := I.1
abbrev Inf.b (I : Inf) : ByteArray := I.2.1
abbrev Inf.n (I : Inf) : Nat := I.2.2.1
abbrev Inf.r (I : Inf) : Option FieldType := I.2.2.2.1
abbrev Inf.R (I : Inf) : Room := I.2.2.2.2
abbrev Wd : Type := Launch × State × List (String × Nat) × Bool
abbrev Wd.l (G : Wd) : Launch := G.1
abbrev Wd.Z (G : Wd) : State := G.2.1
abbrev Wd.E (G : Wd) : List (String × Nat) := G.2.2.1
abbrev Wd.nar (G : Wd) : Bool := G.2.2.2
abbrev Rn : Type := Program × Env × State × MethodId × Array Value × List Frame × Method × Code
abbrev Rn.p (K : Rn) : Program := K.1
abbrev Rn.e (K : Rn) : Env := K.2.1
abbrev Rn.s (K : Rn) : State := K.2.2.1
abbrev Rn.m (K : Rn) : MethodId := K.2.2.2.1
abbrev Rn.args (K : Rn) : Array Value := K.2.2.2.2.1
abbrev Rn.below (K : Rn) : List Frame := K.2.2.2.2.2.1
abbrev Rn.meth (K : Rn) : Method := K.2.2.2.2.2.2.1
abbrev Rn.c (K : Rn) : Code := K.2.2.2.2.2.2.2
abbrev Po : Type := Option Value → Heap → List Addr → Prop
/-- what holds of the run all along -/
def Ok (G : Wd) (I : Inf) (K : Rn) : Prop := K.p.tables.exec = Jvm.exec ∧ K.c.code = I.b ∧ K.c.maxLocals = I.n ∧ K.meth.sig.returnType = I.r ∧ K.meth.locks = false ∧ K.meth.name = I.y.name ∧ ∃ a0, EW G.Z a0 G.E
/-- cells that may be written: new ones, no literal's -/
def Ws (G : Wd) (vm : Vm) (h : Heap) (S : List Addr) : Prop := ∀ x ∈ S, G.Z.heap.size ≤ x ∧ x < h.size ∧ Safe G.Z G.E vm h x
/-- the state at hand -/
def Sd (G : Wd) (I : Inf) (K : Rn) (S : List Addr) (h : Heap) (cs sl : Nat) (vm0 : Vm) (k0 : Nat) (T : State) (L : List Loc) : Prop :=
  Stand K.p G.l K.e I.R (K.s.setVm vm0) K.m K.args K.below K.meth K.c T L cs sl ∧ G.Z.Warmed39 vm0 ∧ K.s.Since vm0 k0 ∧ k0 ≤ h.size ∧ vm0.findClass I.y.cls = some K.m.cls ∧ T.heap = h ∧ Ext G.Z.heap h ∧ Fr G.Z.heap.size L ∧ Ws G vm0 h S ∧ CHr G.Z G.E K.s.vm K.s.heap vm0 h ∧ (G.nar = true → K.s.WarmedH vm0)
/-- what the end owes -/
def Pst (G : Wd) (Q : Po) (R : Room) (s : State) (o : Outcome) (t : State) : Prop :=
  ∃ v L, o = .returned v ∧ ((∃ S, Q v t.heap S ∧ Ws G t.vm t.heap S) ∧ Fr G.Z.heap.size L ∧ Ext G.Z.heap t.heap) ∧ CHr G.Z G.E s.vm s.heap t.vm t.heap ∧ ReturnedEndW s o t L R.cells R.slots ∧ (G.nar = true → s.WarmedH t.vm)
def WP (G : Wd) (I : Inf) (Q : Po) (K : Rn) (S : List Addr) (h : Heap) (cs sl pc : Nat) (ls : Array Slot) (st : List Value) : Prop :=
  Ok G I K → ∀ vm0 k0 T L, Sd G I K S h cs sl vm0 k0 T L →
    ∃ t o, Steps K.p.tables K.e K.below (T.setTop (mkF K.m pc ls st)) t ∧ t.status = .running ∧ Ended t K.below o ∧ Pst G Q I.R K.s o t
/-- a method's contract -/
def Met (G : Wd) (J : Inf) (as' : Array Value) (h : Heap) (S : List Addr) (Q : Po) : Prop :=
  ∀ a1, EW G.Z a1 G.E → Ext G.Z.heap h → ∀ ws : List Jvm.Cond, MetFree G.l J.y (head1 (Jvm.Cond.code J.y J.b J.n J.r :: ws) J.R) (fun a U => a = as' ∧ G.Z.Warmed39 U.vm ∧ U.heap = h ∧ CHv G.Z G.E U.vm h ∧ Ws G U.vm h S) (fun _ _ _ _ _ => True) (fun _ U o U' => Pst G Q J.R U o U')
section Rules
variable {G : Wd} {I J : Inf} {Q Q' : Po} {K : Rn} {S S' : List Addr} {h h' : Heap} {cs sl pc pc' : Nat} {ls ls' : Array Slot} {st st' rest : List Value} {a0 : Array Value}
theorem Met.intro (hpn : plainFor J.y = true) {as' : Array Value} (hef : ∀ m, entryFrame m as' J.n = mkF m 0 ls [])
    (H : ∀ K : Rn, WP G J Q K S h 0 0 0 ls []) : Met G J as' h S Q := by
  intro a0 hEW hO ws
  refine MetFree.of_bodySF hpn hisR ?_
  intro p e s m args below meth c s₁ Bd hml0 hP hK
  obtain ⟨rfl, hZ, hh, hCH, hS⟩ := hP
  have X0 : Stand p G.l e J.R s m args below meth c s₁ [] 0 0 := Stand.of_body Bd
  have e0 : s₁.heap = h := by rw [← hh, Bd.state]; rfl
  have ok : Ok G J (p, e, s, m, args, below, meth, c) := ⟨Bd.exec, Bd.bytes, hml0, Bd.returns, Bd.notSynchronized, (name_of_methodNamed Bd.named Bd.method).1, a0, hEW⟩
  have q : CHr G.Z G.E s.vm s.heap s.vm h := by rw [hh]; exact CHr.refl hCH
  obtain ⟨t, o, st, r1, r2, r3⟩ := H (p, e, s, m, args, below, meth, c) ok s.vm 0 s₁ [] ⟨X0, hZ, (State.WarmedH.refl s).since 0, Nat.zero_le _, findClass_of_methodNamed Bd.named, e0, hO, Fr.nil _, hS, q, fun _ => State.WarmedH.refl s⟩
  exact ⟨t, o, castTop (hef m) st, r1, r2, r3⟩
theorem Ws.nil {vm : Vm} : Ws G vm h [] := fun _ q => nomatch q
theorem Ws.sub {vm : Vm} (H : Ws G vm h S) (q : ∀ x ∈ S', x ∈ S) : Ws G vm h S' := fun x hx => H x (q x hx)
theorem Ws.on {vm vm' : Vm} (H : Ws G vm h S) (C : CHr G.Z G.E vm h vm' h') : Ws G vm' h' S := fun x hx => by
  obtain ⟨h1, h2, h3⟩ := H x hx
  exact ⟨h1, Nat.lt_of_lt_of_le h2 C.2.1, C.safe h2 h3⟩
/-- a step that moves neither heap nor room -/
theorem WP.quiet (hst : ∀ vm0 T L, Ok G I K → Stand K.p G.l K.e I.R (K.s.setVm vm0) K.m K.args K.below K.meth K.c T L cs sl → G.Z.Warmed39 vm0 → vm0.findClass I.y.cls = some K.m.cls → T.heap = h → Ext G.Z.heap h →
      ∃ T', Stand K.p G.l K.e I.R (K.s.setVm vm0) K.m K.args K.below K.meth K.c T' L cs sl ∧ T'.heap = h ∧ ∀ target, Steps K.p.tables K.e K.below (T'.setTop (mkF K.m pc' ls' st')) target → Steps K.p.tables K.e K.below (T.setTop (mkF K.m pc ls st)) target)
    (k : WP G I Q K S h cs sl pc' ls' st') : WP G I Q K S h cs sl pc ls st := by
  intro ok vm0 k0 T L ⟨X, hZ, hS, hk, hf, eT, hE, hr⟩
  obtain ⟨T', X', eT', stp⟩ := hst vm0 T L ok X hZ hf eT hE
  obtain ⟨t, o, st1, r⟩ := k ok vm0 k0 T' L ⟨X', hZ, hS, hk, hf, eT', hE, hr⟩
  exact ⟨t, o, stp _ st1, r⟩
theorem WP.plain (hst : ∀ (T target : State), At T K.m K.c K.below → K.p.tables.exec = Jvm.exec → K.c.code = I.b → Steps K.p.tables K.e K.below (T.setTop (mkF K.m pc' ls' st')) target → Steps K.p.tables K.e K.below (T.setTop (mkF K.m pc ls st)) target)
    (k : WP G I Q K S h cs sl pc' ls' st') : WP G I Q K S h cs sl pc ls st :=
  WP.quiet (fun vm0 T L ok X hZ hf eT hE => ⟨T, X, eT, fun target s => hst T target X.here ok.1 ok.2.1 s⟩) k
/-- a store in one cell -/
theorem WP.write {a : Addr} {i : Nat} {v : Value} (ha : a ∈ S) (hst : ∀ vm0 T L, Ok G I K → Stand K.p G.l K.e I.R (K.s.setVm vm0) K.m K.args K.below K.meth K.c T L cs sl → G.Z.Warmed39 vm0 → vm0.findClass I.y.cls = some K.m.cls → T.heap = h →
      ∃ T' h', Stand K.p G.l K.e I.R (K.s.setVm vm0) K.m K.args K.below K.meth K.c T' (L ++ [⟨a, i⟩]) cs sl ∧ T'.heap = h' ∧ Wr h h' a i v ∧ ∀ target, Steps K.p.tables K.e K.below (T'.setTop (mkF K.m pc' ls' st')) target → Steps K.p.tables K.e K.below (T.setTop (mkF K.m pc ls st)) target)
    (k : ∀ h', Wr h h' a i v → WP G I Q K S h' cs sl pc' ls' st') : WP G I Q K S h cs sl pc ls st := by
  intro ok vm0 k0 T L ⟨X, hZ, hS, hk, hf, eT, hE, hF, hW, hC, hN⟩
  obtain ⟨T', h', X', eT', W, stp⟩ := hst vm0 T L ok X hZ hf eT
  obtain ⟨w1, w2, w3⟩ := hW a ha
  have C : CHr G.Z G.E vm0 h vm0 h' := CHr.wr W w3 hC.1
  have Kp : Keep h h' [a] := Keep.of_wr W
  have hE' : Ext G.Z.heap h' := ⟨Nat.le_trans hE.1 Kp.1, fun x c q => Kp.2.1 x c (hE.2 x c q) (ninS (Nat.ne_of_lt (Nat.lt_of_lt_of_le (Array.getElem?_eq_some_iff.mp q).1 w1)) nin0)⟩
  obtain ⟨t, o, st1, r⟩ := k h' W ok vm0 k0 T' (L ++ [⟨a, i⟩]) ⟨X', hZ, hS, Nat.le_trans hk Kp.1, hf, eT', hE', Fr.snoc X' hF w1, hW.on C, hC.trans C, hN⟩
  exact ⟨t, o, stp _ st1, r⟩
/-- a step that makes one cell -/
theorem WP.alloc {P : Heap → Prop} {n : Nat} (hst : ∀ vm0 T L, Ok G I K → Stand K.p G.l K.e I.R (K.s.setVm vm0) K.m K.args K.below K.meth K.c T L cs sl → G.Z.Warmed39 vm0 → vm0.findClass I.y.cls = some K.m.cls → T.heap = h →
      ∃ T' h', Stand K.p G.l K.e I.R (K.s.setVm vm0) K.m K.args K.below K.meth K.c T' L (cs + 1) (sl + n) ∧ T'.heap = h' ∧ Ext h h' ∧ h.size < h'.size ∧ P h' ∧ ∀ target, Steps K.p.tables K.e K.below (T'.setTop (mkF K.m pc' ls' st')) target → Steps K.p.tables K.e K.below (T.setTop (mkF K.m pc ls st)) target)
    (k : ∀ h', Ext h h' → P h' → WP G I Q K (h.size :: S) h' (cs + 1) (sl + n) pc' ls' st') : WP G I Q K S h cs sl pc ls st := by
  intro ok vm0 k0 T L ⟨X, hZ, hS, hk, hf, eT, hE, hF, hW, hC, hN⟩
  obtain ⟨T', h', X', eT', E, hlt, hP, stp⟩ := hst vm0 T L ok X hZ hf eT
  have C : CHr G.Z G.E vm0 h vm0 h' := CHr.ext E hC.1
  have hW' : Ws G vm0 h' (h.size :: S) := fun x hx => by
    rcases List.mem_cons.mp hx with rfl | hx
    · exact ⟨hE.1, hlt, Safe.ext E hC.1 (Safe.new (Nat.le_refl _))⟩
    · exact hW.on C x hx
  obtain ⟨t, o, st1, r⟩ := k h' E hP ok vm0 k0 T' L ⟨X', hZ, hS, Nat.le_trans hk E.1, hf, eT', ⟨Nat.le_trans hE.1 E.1, fun x c q => E.2 x c (hE.2 x c q)⟩, hF, hW', hC.trans C, hN⟩
  exact ⟨t, o, stp _ st1, r⟩
/-! ### calls -/
theorem Met.back {as' : Array Value} {R : Room} {p : Program} {e : Env} {below : List Frame} {s : State} {args : Array Value} {vm0 : Vm} {W len : Nat} (M : Met G J as' h S' Q') (hZ : G.Z.Warmed39 vm0) (wc : (Jvm.Cond.code J.y J.b J.n J.r).before a0 G.Z = true) (wz : (Jvm.Cond.initialized J.y.cls).before a0 G.Z = true)
    (hf : J.R.frames + 1 ≤ R.frames) (hl : W + (J.n + 11) + J.R.locals ≤ R.locals) {a1 : Array Value} (hEL : EW G.Z a1 G.E) (hO : Ext G.Z.heap h) (H : CHv G.Z G.E vm0 h) (hS : Ws G vm0 h S') :
    BackS G.l R p e below (s.setVm vm0) args J.y len W (fun A a => a = as' ∧ A.U.heap = h ∧ A.cells + J.R.cells ≤ R.cells ∧ A.slots + J.R.slots ≤ R.slots)
      (fun A _ v B => ∃ L, ((∃ S2, Q' v B.U.heap S2 ∧ Ws G B.U.vm B.U.heap S2) ∧ Fr G.Z.heap.size L ∧ Ext G.Z.heap B.U.heap) ∧ B.locs = A.locs ++ L ∧ B.cells = A.cells + J.R.cells ∧ B.slots = A.slots + J.R.slots ∧ CHr G.Z G.E vm0 h B.U.vm B.U.heap ∧ (G.nar = true → (s.setVm vm0).WarmedH B.U.vm)) :=
  BackS.of_freeW (bytes := J.b) (maxL := J.n) (ret := J.r) (E := fun _ first o t L k n => k = J.R.cells ∧ n = J.R.slots ∧ (∃ v, o = .returned v ∧ ((∃ S2, Q' v t.heap S2 ∧ Ws G t.vm t.heap S2) ∧ Fr G.Z.heap.size L ∧ Ext G.Z.heap t.heap)) ∧ CHr G.Z G.E first.vm first.heap t.vm t.heap ∧ (G.nar = true → first.WarmedH t.vm)) (M a1 hEL hO []) hf hl
    (fun m meth c A a Y hp => have hU : G.Z.Warmed39 A.U.vm := wtrans (s := s.setVm vm0) hZ Y.warmed
      ⟨by show (Jvm.Cond.and _ .tt).before a A.U = true; rw [Cond.before_and, mv hU wc]; rfl, mv hU wc, mv hU wz, hp.2.2.1, hp.2.2.2⟩)
    (fun m meth c A a g mk Y hp => ⟨hp.1, wtrans (s := s.setVm vm0) hZ Y.warmed, hp.2.1, (CHv.at (T := A.U) Y hZ hEL H).1, (show Ws G A.U.vm h S' from hS.on (CHv.at (T := A.U) Y hZ hEL H))⟩) (fun _ _ _ _ _ _ _ _ _ => trivial)
    (fun _ _ _ _ ⟨v, L, h1, h2, h3, h4, h5⟩ => ⟨L, _, _, h4, rfl, rfl, ⟨v, h1, h2⟩, h3, h5⟩)
    (fun m meth c A a g mk v t L k n Y hp _ _ ⟨e1, e2, ⟨v', e3, e4⟩, e5, e6⟩ => by
      cases e3; subst e1 e2
      refine ⟨L, e4, rfl, rfl, rfl, (CHv.at Y hZ hEL H).trans ?_, fun hn => State.WarmedH.trans (t := A.U) Y.warmed (e6 hn)⟩
      rw [← hp.2.1]; exact e5)
/-- what each call's rule makes of a callee's coming back -/
theorem WP.came {as' : Array Value} (M : Met G J as' h S' Q') (wc : (Jvm.Cond.code J.y J.b J.n J.r).before a0 G.Z = true) (wz : (Jvm.Cond.initialized J.y.cls).before a0 G.Z = true) (hS' : ∀ x ∈ S', x ∈ S) {W len : Nat} (hf : J.R.frames + 1 ≤ I.R.frames) (hl : W + (J.n + 11) + J.R.locals ≤ I.R.locals)
    (hst : ∀ vm0 T L, Ok G I K → Stand K.p G.l K.e I.R (K.s.setVm vm0) K.m K.args K.below K.meth K.c T L cs sl → G.Z.Warmed39 vm0 → vm0.findClass I.y.cls = some K.m.cls → T.heap = h → ∀ {Post : Pt → Array Value → Option Value → Pt → Prop},
      BackS G.l I.R K.p K.e K.below (K.s.setVm vm0) K.args J.y len W (fun A a => a = as' ∧ A.U.heap = h ∧ A.cells + J.R.cells ≤ I.R.cells ∧ A.slots + J.R.slots ≤ I.R.slots) Post →
      ∃ (v : Option Value) (vm₁ : Vm) (B : Pt), Stand K.p G.l K.e I.R ((K.s.setVm vm0).setVm B.U.vm) K.m K.args K.below K.meth K.c B.U B.locs B.cells B.slots ∧ (K.s.setVm vm0).Since B.U.vm B.U.heap.size ∧ T.heap.size ≤ B.U.heap.size ∧ Post ⟨T.setVm vm₁, L, cs, sl⟩ as' v B ∧
        Steps K.p.tables K.e K.below (T.setTop (mkF K.m pc ls st)) (B.U.setTop (mkF K.m pc' ls (v.toList ++ rest))))
    (k : ∀ v h' S2, Q' v h' S2 → WP G I Q K (S2 ++ S) h' (cs + J.R.cells) (sl + J.R.slots) pc' ls (v.toList ++ rest)) : WP G I Q K S h cs sl pc ls st := by
  intro ok vm0 k0 T L ⟨X, hZ, hS, hk, hf', eT, hE, hF, hW, hC, hN⟩
  obtain ⟨a1, hEL⟩ := ok.2.2.2.2.2.2
  obtain ⟨v, vm₁, B, X', hS2, hgr, ⟨L2, ⟨⟨S2, hQ, hW2⟩, hF2, hE2⟩, l1, l2, l3, hC2, hN2⟩, stp⟩ := hst vm0 T L ok X hZ hf' eT (M.back hZ wc wz hf hl hEL hE hC.1 (hW.sub hS'))
  obtain ⟨U, Ls, c1, n1⟩ := B
  dsimp only [Pt.U, Pt.locs, Pt.cells, Pt.slots] at X' hS2 hgr hQ hW2 hE2 l1 l2 l3 hC2 hN2 stp
  subst l1 l2 l3
  have hW3 : Ws G U.vm U.heap (S2 ++ S) := fun x hx => by
    rcases List.mem_append.mp hx with hx | hx
    · exact hW2 x hx
    · exact hW.on hC2 x hx
  have hS3 : K.s.Since U.vm U.heap.size := hS.trans hS2 (Nat.le_trans hk (by rw [← eT]; exact hgr))
  obtain ⟨t, o, st1, r⟩ := k v U.heap S2 hQ ok U.vm U.heap.size U (L ++ L2) ⟨X', State.Warmed39.trans (t := K.s.setVm vm0) hZ hS2.1, hS3, Nat.le_refl _, by rw [hS2.1.alike.findClass]; exact hf', rfl, hE2, hF.app hF2, hW3, hC.trans hC2, fun hn => State.WarmedH.trans (t := K.s.setVm vm0) (hN hn) (hN2 hn)⟩
  exact ⟨t, o, stp.trans st1, r⟩
end Rules
end Jvm.Own
namespace Jvm.Own
open Jvm Jvm.ClassFile Sem Op Lib Jvm.Free Jvm.Stand Jvm.LawKit Jvm.RoadKit Bundle
/-! ### one rule an instruction -/
def Cd (cd : ClassFile.Cond) (x y : Int32) : Prop := match cd with
  | .eq => x = y | .ne => ¬ x = y | .lt => x < y | .ge => ¬ x < y | .gt => y < x | .le => ¬ y < x
def Nd (cd : ClassFile.Cond) (x y : Int32) : Prop := match cd with
  | .eq => ¬ x = y | .ne => x = y | .lt => ¬ x < y | .ge => x < y | .gt => ¬ y < x | .le => y < x
theorem cd_t {cd : ClassFile.Cond} {x y : Int32} (q : Cd cd x y) : if_icmp.holds cd x y = true := by
  cases cd
  · exact (teq q).1
  · exact (feq q).2
  · exact (tlt q).1
  · exact (flt q).2.1
  · exact (tlt q).2.2.1
  · exact (flt q).2.2.2
theorem cd_f {cd : ClassFile.Cond} {x y : Int32} (q : Nd cd x y) : if_icmp.holds cd x y = false := by
  cases cd
  · exact (feq q).1
  · exact (teq q).2
  · exact (flt q).1
  · exact (tlt q).2.1
  · exact (flt q).2.2.1
  · exact (tlt q).2.2.2
theorem cd_em (cd : ClassFile.Cond) (x y : Int32) : Cd cd x y ∨ Nd cd x y := by
  cases cd
  · exact Classical.em (x = y)
  · exact (Classical.em (x = y)).symm
  · exact Classical.em (x < y)
  · exact (Classical.em (x < y)).symm
  · exact Classical.em (y < x)
  · exact (Classical.em (y < x)).symm
/-- the instruction at pc, and where the next one lies -/
def D1 (b : ByteArray) (pc : Nat) (i : Instr) (n pc' : Nat) : Prop := decode b pc = .ok (i, n) ∧ pc + n = pc'
/-- .. and where a branch leads -/
def DB (b : ByteArray) (pc : Nat) (i : Instr) (n : Nat) (o : Int) (pc1 pc' : Nat) : Prop := decode b pc = .ok (i, n) ∧ pc + n = pc1 ∧ 0 ≤ (pc : Int) + o ∧ ((pc : Int) + o).toNat = pc'
section Plain
variable {G : Wd} {I : Inf} {Q : Po} {K : Rn} {S : List Addr} {h : Heap} {cs sl pc pc1 pc' : Nat} {ls ls' : Array Slot} {st : List Value}
theorem Ru.iload {k : Nat} {x : Int32} (hd : D1 I.b pc (.iload k) 2 pc') (hl : ls[k]? = some (.val (.int x))) (k' : WP G I Q K S h cs sl pc' ls (.int x :: st)) : WP G I Q K S h cs sl pc ls st := by
  obtain ⟨hd, rfl⟩ := hd
  exact WP.plain (fun _ _ hA hx hb s => XS.iload hA hx rfl (hb ▸ hd) hl s) k'
theorem Ru.iloadN {k : Fin 4} {x : Int32} (hd : D1 I.b pc (.iload_n k) 1 pc') (hl : ls[k.val]? = some (.val (.int x))) (k' : WP G I Q K S h cs sl pc' ls (.int x :: st)) : WP G I Q K S h cs sl pc ls st := by
  obtain ⟨hd, rfl⟩ := hd
  exact WP.plain (fun _ _ hA hx hb s => XS.iloadN hA hx rfl (hb ▸ hd) hl s) k'
theorem Ru.lload {k : Nat} {x : Int64} (hd : D1 I.b pc (.lload k) 2 pc') (hl : ls[k]? = some (.val (.long x))) (k' : WP G I Q K S h cs sl pc' ls (.long x :: st)) : WP G I Q K S h cs sl pc ls st := by
  obtain ⟨hd, rfl⟩ := hd
  exact WP.plain (fun _ _ hA hx hb s => XS.lload hA hx rfl (hb ▸ hd) hl s) k'
theorem Ru.lloadN {k : Fin 4} {x : Int64} (hd : D1 I.b pc (.lload_n k) 1 pc') (hl : ls[k.val]? = some (.val (.long x))) (k' : WP G I Q K S h cs sl pc' ls (.long x :: st)) : WP G I Q K S h cs sl pc ls st := by
  obtain ⟨hd, rfl⟩ := hd
  exact WP.plain (fun _ _ hA hx hb s => XS.lloadN hA hx rfl (hb ▸ hd) hl s) k'
theorem Ru.aload {k : Nat} {v : Value} (hd : D1 I.b pc (.aload k) 2 pc') (hl : ls[k]? = some (.val v)) (hv : v.isRef = true) (k' : WP G I Q K S h cs sl pc' ls (v :: st)) : WP G I Q K S h cs sl pc ls st := by
  obtain ⟨hd, rfl⟩ := hd
  exact WP.plain (fun _ _ hA hx hb s => XS.aload hA hx rfl (hb ▸ hd) hl hv s) k'
theorem Ru.aloadN {k : Fin 4} {v : Value} (hd : D1 I.b pc (.aload_n k) 1 pc') (hl : ls[k.val]? = some (.val v)) (hv : v.isRef = true) (k' : WP G I Q K S h cs sl pc' ls (v :: st)) : WP G I Q K S h cs sl pc ls st := by
  obtain ⟨hd, rfl⟩ := hd
  exact WP.plain (fun _ _ hA hx hb s => XS.aloadN hA hx rfl (hb ▸ hd) hl hv s) k'
theorem Ru.istore {k : Nat} {x : Int32} (hd : D1 I.b pc (.istore k) 2 pc') (hl : storeLocals ls k (.int x) = some ls') (k' : WP G I Q K S h cs sl pc' ls' st) : WP G I Q K S h cs sl pc ls (.int x :: st) := by
  obtain ⟨hd, rfl⟩ := hd
  exact WP.plain (fun _ _ hA hx hb s => XS.istore hA hx rfl (hb ▸ hd) rfl hl s) k'
theorem Ru.istoreN {k : Fin 4} {x : Int32} (hd : D1 I.b pc (.istore_n k) 1 pc') (hl : storeLocals ls k.val (.int x) = some ls') (k' : WP G I Q K S h cs sl pc' ls' st) : WP G I Q K S h cs sl pc ls (.int x :: st) := by
  obtain ⟨hd, rfl⟩ := hd
  exact WP.plain (fun _ _ hA hx hb s => XS.istoreN hA hx rfl (hb ▸ hd) rfl hl s) k'
theorem Ru.lstore {k : Nat} {x : Int64} (hd : D1 I.b pc (.lstore k) 2 pc') (hl : storeLocals ls k (.long x) = some ls') (k' : WP G I Q K S h cs sl pc' ls' st) : WP G I Q K S h cs sl pc ls (.long x :: st) := by
  obtain ⟨hd, rfl⟩ := hd
  exact WP.plain (fun _ _ hA hx hb s => XS.lstore hA hx rfl (hb ▸ hd) rfl hl s) k'
theorem Ru.lstoreN {k : Fin 4} {x : Int64} (hd : D1 I.b pc (.lstore_n k) 1 pc') (hl : storeLocals ls k.val (.long x) = some ls') (k' : WP G I Q K S h cs sl pc' ls' st) : WP G I Q K S h cs sl pc ls (.long x :: st) := by
  obtain ⟨hd, rfl⟩ := hd
  exact WP.plain (fun _ _ hA hx hb s => XS.lstoreN hA hx rfl (hb ▸ hd) rfl hl s) k'
theorem Ru.astore {k : Nat} {v : Value} (hd : D1 I.b pc (.astore k) 2 pc') (hv : v.isRef = true) (hl : storeLocals ls k v = some ls') (k' : WP G I Q K S h cs sl pc' ls' st) : WP G I Q K S h cs sl pc ls (v :: st) := by
  obtain ⟨hd, rfl⟩ := hd
  exact WP.plain (fun _ _ hA hx hb s => XS.astore hA hx rfl (hb ▸ hd) rfl hv hl s) k'
theorem Ru.astoreN {k : Fin 4} {v : Value} (hd : D1 I.b pc (.astore_n k) 1 pc') (hv : v.isRef = true) (hl : storeLocals ls k.val v = some ls') (k' : WP G I Q K S h cs sl pc' ls' st) : WP G I Q K S h cs sl pc ls (v :: st) := by
  obtain ⟨hd, rfl⟩ := hd
  exact WP.plain (fun _ _ hA hx hb s => XS.astoreN hA hx rfl (hb ▸ hd) rfl hv hl s) k'
theorem Ru.istoreG {k : Nat} {x : Int32} {o : Slot} (hd : D1 I.b pc (.istore k) 2 pc') (hold : ls[k]? = some o) (ho : One o) (hl : ls.setIfInBounds k (.val (.int x)) = ls') (k' : WP G I Q K S h cs sl pc' ls' st) : WP G I Q K S h cs sl pc ls (.int x :: st) :=
  Ru.istore hd ((XS.store1 hold ho rfl).trans (by rw [hl])) k'
theorem Ru.istoreNG {k : Fin 4} {x : Int32} {o : Slot} (hd : D1 I.b pc (.istore_n k) 1 pc') (hold : ls[k.val]? = some o) (ho : One o) (hl : ls.setIfInBounds k.val (.val (.int x)) = ls') (k' : WP G I Q K S h cs sl pc' ls' st) : WP G I Q K S h cs sl pc ls (.int x :: st) :=
  Ru.istoreN hd ((XS.store1 hold ho rfl).trans (by rw [hl])) k'
theorem Ru.astoreG {k : Nat} {v : Value} {o : Slot} (hd : D1 I.b pc (.astore k) 2 pc') (hv : v.isRef = true) (hold : ls[k]? = some o) (ho : One o) (hl : ls.setIfInBounds k (.val v) = ls') (k' : WP G I Q K S h cs sl pc' ls' st) : WP G I Q K S h cs sl pc ls (v :: st) :=
  Ru.astore hd hv ((XS.store1 hold ho (XT.cat1 hv)).trans (by rw [hl])) k'
theorem Ru.astoreNG {k : Fin 4} {v : Value} {o : Slot} (hd : D1 I.b pc (.astore_n k) 1 pc') (hv : v.isRef = true) (hold : ls[k.val]? = some o) (ho : One o) (hl : ls.setIfInBounds k.val (.val v) = ls') (k' : WP G I Q K S h cs sl pc' ls' st) : WP G I Q K S h cs sl pc ls (v :: st) :=
  Ru.astoreN hd hv ((XS.store1 hold ho (XT.cat1 hv)).trans (by rw [hl])) k'
theorem Ru.iconst {i : Int} {x : Int32} (hd : D1 I.b pc (.iconst i) 1 pc') (hv : Int32.ofInt i = x) (k' : WP G I Q K S h cs sl pc' ls (.int x :: st)) : WP G I Q K S h cs sl pc ls st := by
  obtain ⟨hd, rfl⟩ := hd
  subst hv; exact WP.plain (fun _ _ hA hx hb s => XS.iconst hA hx rfl (hb ▸ hd) s) k'
theorem Ru.bipush {i : Int} {x : Int32} (hd : D1 I.b pc (.bipush i) 2 pc') (hv : (Int8.ofInt i).toInt32 = x) (k' : WP G I Q K S h cs sl pc' ls (.int x :: st)) : WP G I Q K S h cs sl pc ls st := by
  obtain ⟨hd, rfl⟩ := hd
  subst hv; exact WP.plain (fun _ _ hA hx hb s => XS.bipush hA hx rfl (hb ▸ hd) s) k'
theorem Ru.sipush {i : Int} {x : Int32} (hd : D1 I.b pc (.sipush i) 3 pc') (hv : (Int16.ofInt i).toInt32 = x) (k' : WP G I Q K S h cs sl pc' ls (.int x :: st)) : WP G I Q K S h cs sl pc ls st := by
  obtain ⟨hd, rfl⟩ := hd
  subst hv; exact WP.plain (fun _ _ hA hx hb s => XS.sipush hA hx rfl (hb ▸ hd) s) k'
theorem Ru.lconst {k : Fin 2} {x : Int64} (hd : D1 I.b pc (.lconst k) 1 pc') (hv : Int64.ofNat k = x) (k' : WP G I Q K S h cs sl pc' ls (.long x :: st)) : WP G I Q K S h cs sl pc ls st := by
  obtain ⟨hd, rfl⟩ := hd
  subst hv; exact WP.plain (fun _ _ hA hx hb s => XS.lconst hA hx rfl (hb ▸ hd) s) k'
theorem Ru.aconstNull (hd : D1 I.b pc (.aconst_null) 1 pc') (k' : WP G I Q K S h cs sl pc' ls (.null :: st)) : WP G I Q K S h cs sl pc ls st := by
  obtain ⟨hd, rfl⟩ := hd
  exact WP.plain (fun _ _ hA hx hb s => XS.aconstNull hA hx rfl (hb ▸ hd) s) k'
theorem Ru.iadd {x y : Int32} (hd : D1 I.b pc (.iadd) 1 pc') (k' : WP G I Q K S h cs sl pc' ls (.int (x + y) :: st)) : WP G I Q K S h cs sl pc ls (.int y :: .int x :: st) := by
  obtain ⟨hd, rfl⟩ := hd
  exact WP.plain (fun _ _ hA hx hb s => XS.iadd hA hx rfl (hb ▸ hd) rfl s) k'
theorem Ru.isub {x y : Int32} (hd : D1 I.b pc (.isub) 1 pc') (k' : WP G I Q K S h cs sl pc' ls (.int (x - y) :: st)) : WP G I Q K S h cs sl pc ls (.int y :: .int x :: st) := by
  obtain ⟨hd, rfl⟩ := hd
  exact WP.plain (fun _ _ hA hx hb s => XS.isub hA hx rfl (hb ▸ hd) rfl s) k'
theorem Ru.imul {x y : Int32} (hd : D1 I.b pc (.imul) 1 pc') (k' : WP G I Q K S h cs sl pc' ls (.int (x * y) :: st)) : WP G I Q K S h cs sl pc ls (.int y :: .int x :: st) := by
  obtain ⟨hd, rfl⟩ := hd
  exact WP.plain (fun _ _ hA hx hb s => XS.imul hA hx rfl (hb ▸ hd) rfl s) k'
theorem Ru.iand {x y : Int32} (hd : D1 I.b pc (.iand) 1 pc') (k' : WP G I Q K S h cs sl pc' ls (.int (x &&& y) :: st)) : WP G I Q K S h cs sl pc ls (.int y :: .int x :: st) := by
  obtain ⟨hd, rfl⟩ := hd
  exact WP.plain (fun _ _ hA hx hb s => XS.iand hA hx rfl (hb ▸ hd) rfl s) k'
theorem Ru.ior {x y : Int32} (hd : D1 I.b pc (.ior) 1 pc') (k' : WP G I Q K S h cs sl pc' ls (.int (x ||| y) :: st)) : WP G I Q K S h cs sl pc ls (.int y :: .int x :: st) := by
  obtain ⟨hd, rfl⟩ := hd
  exact WP.plain (fun _ _ hA hx hb s => XS.ior hA hx rfl (hb ▸ hd) rfl s) k'
theorem Ru.ixor {x y : Int32} (hd : D1 I.b pc (.ixor) 1 pc') (k' : WP G I Q K S h cs sl pc' ls (.int (x ^^^ y) :: st)) : WP G I Q K S h cs sl pc ls (.int y :: .int x :: st) := by
  obtain ⟨hd, rfl⟩ := hd
  exact WP.plain (fun _ _ hA hx hb s => XS.ixor hA hx rfl (hb ▸ hd) rfl s) k'
theorem Ru.ishl {x y : Int32} (hd : D1 I.b pc (.ishl) 1 pc') (k' : WP G I Q K S h cs sl pc' ls (.int (x <<< (y &&& 31)) :: st)) : WP G I Q K S h cs sl pc ls (.int y :: .int x :: st) := by
  obtain ⟨hd, rfl⟩ := hd
  exact WP.plain (fun _ _ hA hx hb s => XS.ishl hA hx rfl (hb ▸ hd) rfl s) k'
theorem Ru.ishr {x y : Int32} (hd : D1 I.b pc (.ishr) 1 pc') (k' : WP G I Q K S h cs sl pc' ls (.int (x >>> (y &&& 31)) :: st)) : WP G I Q K S h cs sl pc ls (.int y :: .int x :: st) := by
  obtain ⟨hd, rfl⟩ := hd
  exact WP.plain (fun _ _ hA hx hb s => XS.ishr hA hx rfl (hb ▸ hd) rfl s) k'
theorem Ru.iushr {x y : Int32} (hd : D1 I.b pc (.iushr) 1 pc') (k' : WP G I Q K S h cs sl pc' ls (.int ((x.toUInt32 >>> (y &&& 31).toUInt32).toInt32) :: st)) : WP G I Q K S h cs sl pc ls (.int y :: .int x :: st) := by
  obtain ⟨hd, rfl⟩ := hd
  exact WP.plain (fun _ _ hA hx hb s => XS.iushr hA hx rfl (hb ▸ hd) rfl s) k'
theorem Ru.idiv {x y : Int32} (hd : D1 I.b pc (.idiv) 1 pc') (hy : y ≠ 0) (k' : WP G I Q K S h cs sl pc' ls (.int (x / y) :: st)) : WP G I Q K S h cs sl pc ls (.int y :: .int x :: st) := by
  obtain ⟨hd, rfl⟩ := hd
  exact WP.plain (fun _ _ hA hx hb s => XS.idiv hA hx rfl (hb ▸ hd) rfl hy s) k'
theorem Ru.irem {x y : Int32} (hd : D1 I.b pc (.irem) 1 pc') (hy : y ≠ 0) (k' : WP G I Q K S h cs sl pc' ls (.int (x % y) :: st)) : WP G I Q K S h cs sl pc ls (.int y :: .int x :: st) := by
  obtain ⟨hd, rfl⟩ := hd
  exact WP.quiet (fun vm0 T L ok X hZ hf eT hE => ⟨T, X, eT, fun target s => iremM X ok.1 rfl (ok.2.1 ▸ hd) rfl hy s⟩) k'
theorem Ru.ineg {x : Int32} (hd : D1 I.b pc (.ineg) 1 pc') (k' : WP G I Q K S h cs sl pc' ls (.int (-x) :: st)) : WP G I Q K S h cs sl pc ls (.int x :: st) := by
  obtain ⟨hd, rfl⟩ := hd
  exact WP.plain (fun _ _ hA hx hb s => XS.ineg hA hx rfl (hb ▸ hd) rfl s) k'
theorem Ru.ladd {x y : Int64} (hd : D1 I.b pc (.ladd) 1 pc') (k' : WP G I Q K S h cs sl pc' ls (.long (x + y) :: st)) : WP G I Q K S h cs sl pc ls (.long y :: .long x :: st) := by
  obtain ⟨hd, rfl⟩ := hd
  exact WP.plain (fun _ _ hA hx hb s => XS.ladd hA hx rfl (hb ▸ hd) rfl s) k'
theorem Ru.lsub {x y : Int64} (hd : D1 I.b pc (.lsub) 1 pc') (k' : WP G I Q K S h cs sl pc' ls (.long (x - y) :: st)) : WP G I Q K S h cs sl pc ls (.long y :: .long x :: st) := by
  obtain ⟨hd, rfl⟩ := hd
  exact WP.plain (fun _ _ hA hx hb s => XS.lsub hA hx rfl (hb ▸ hd) rfl s) k'
theorem Ru.land {x y : Int64} (hd : D1 I.b pc (.land) 1 pc') (k' : WP G I Q K S h cs sl pc' ls (.long (x &&& y) :: st)) : WP G I Q K S h cs sl pc ls (.long y :: .long x :: st) := by
  obtain ⟨hd, rfl⟩ := hd
  exact WP.plain (fun _ _ hA hx hb s => XS.land hA hx rfl (hb ▸ hd) rfl s) k'
theorem Ru.lushr {x : Int64} {y : Int32} (hd : D1 I.b pc (.lushr) 1 pc') (k' : WP G I Q K S h cs sl pc' ls (.long ((x.toUInt64 >>> (y &&& 0x3f).toInt64.toUInt64).toInt64) :: st)) : WP G I Q K S h cs sl pc ls (.int y :: .long x :: st) := by
  obtain ⟨hd, rfl⟩ := hd
  exact WP.plain (fun _ _ hA hx hb s => XS.lushr hA hx rfl (hb ▸ hd) rfl s) k'
theorem Ru.i2b {x : Int32} (hd : D1 I.b pc (.i2b) 1 pc') (k' : WP G I Q K S h cs sl pc' ls (.int x.toInt8.toInt32 :: st)) : WP G I Q K S h cs sl pc ls (.int x :: st) := by
  obtain ⟨hd, rfl⟩ := hd
  exact WP.plain (fun _ _ hA hx hb s => XS.i2b hA hx rfl (hb ▸ hd) rfl s) k'
theorem Ru.i2c {x : Int32} (hd : D1 I.b pc (.i2c) 1 pc') (k' : WP G I Q K S h cs sl pc' ls (.int x.toUInt32.toUInt16.toUInt32.toInt32 :: st)) : WP G I Q K S h cs sl pc ls (.int x :: st) := by
  obtain ⟨hd, rfl⟩ := hd
  exact WP.plain (fun _ _ hA hx hb s => XS.i2c hA hx rfl (hb ▸ hd) rfl s) k'
theorem Ru.i2l {x : Int32} (hd : D1 I.b pc (.i2l) 1 pc') (k' : WP G I Q K S h cs sl pc' ls (.long x.toInt64 :: st)) : WP G I Q K S h cs sl pc ls (.int x :: st) := by
  obtain ⟨hd, rfl⟩ := hd
  exact WP.plain (fun _ _ hA hx hb s => XS.i2l hA hx rfl (hb ▸ hd) rfl s) k'
theorem Ru.l2i {x : Int64} (hd : D1 I.b pc (.l2i) 1 pc') (k' : WP G I Q K S h cs sl pc' ls (.int x.toInt32 :: st)) : WP G I Q K S h cs sl pc ls (.long x :: st) := by
  obtain ⟨hd, rfl⟩ := hd
  exact WP.plain (fun _ _ hA hx hb s => XS.l2i hA hx rfl (hb ▸ hd) rfl s) k'
theorem Ru.lcmp {x y : Int64} (hd : D1 I.b pc (.lcmp) 1 pc') (k' : WP G I Q K S h cs sl pc' ls (.int (lcmpW x y) :: st)) : WP G I Q K S h cs sl pc ls (.long y :: .long x :: st) := by
  obtain ⟨hd, rfl⟩ := hd
  exact WP.plain (fun _ _ hA hx hb s => XS.lcmp hA hx rfl (hb ▸ hd) rfl s) k'
theorem Ru.iinc {k : Nat} {cst : Int} {x y : Int32} (hd : D1 I.b pc (.iinc k cst) 3 pc') (hl : ls[k]? = some (.val (.int x))) (hv : Int32.ofInt cst = y) (hl' : storeLocals ls k (.int (x + y)) = some ls') (k' : WP G I Q K S h cs sl pc' ls' st) : WP G I Q K S h cs sl pc ls st := by
  obtain ⟨hd, rfl⟩ := hd
  subst hv; exact WP.plain (fun _ _ hA hx hb s => XS.iinc hA hx rfl (hb ▸ hd) hl hl' s) k'
theorem Ru.pop {v : Value} (hd : D1 I.b pc (.pop) 1 pc') (hc : v.category = 1) (k' : WP G I Q K S h cs sl pc' ls st) : WP G I Q K S h cs sl pc ls (v :: st) := by
  obtain ⟨hd, rfl⟩ := hd
  exact WP.plain (fun _ _ hA hx hb s => XS.pop hA hx rfl (hb ▸ hd) rfl hc s) k'
theorem Ru.dup {v : Value} (hd : D1 I.b pc (.dup) 1 pc') (hc : v.category = 1) (k' : WP G I Q K S h cs sl pc' ls (v :: v :: st)) : WP G I Q K S h cs sl pc ls (v :: st) := by
  obtain ⟨hd, rfl⟩ := hd
  exact WP.plain (fun _ _ hA hx hb s => XS.dup hA hx rfl (hb ▸ hd) rfl hc s) k'
theorem Ru.dupX1 {v w : Value} (hd : D1 I.b pc (.dup_x1) 1 pc') (hc : v.category = 1) (hc2 : w.category = 1) (k' : WP G I Q K S h cs sl pc' ls (v :: w :: v :: st)) : WP G I Q K S h cs sl pc ls (v :: w :: st) := by
  obtain ⟨hd, rfl⟩ := hd
  exact WP.plain (fun _ _ hA hx hb s => XS.dupX1 hA hx rfl (hb ▸ hd) rfl hc hc2 s) k'
theorem Ru.dup2 {v w : Value} (hd : D1 I.b pc (.dup2) 1 pc') (hc : v.category = 1) (hc2 : w.category = 1) (k' : WP G I Q K S h cs sl pc' ls (v :: w :: v :: w :: st)) : WP G I Q K S h cs sl pc ls (v :: w :: st) := by
  obtain ⟨hd, rfl⟩ := hd
  exact WP.plain (fun _ _ hA hx hb s => XT.dup2 hA hx rfl (hb ▸ hd) rfl hc hc2 s) k'
theorem Ru.goto {o : Int} (hd : DB I.b pc (.goto o) 3 o pc1 pc') (k' : WP G I Q K S h cs sl pc' ls st) : WP G I Q K S h cs sl pc ls st := by
  obtain ⟨hd, rfl, ho, hp⟩ := hd
  exact WP.plain (fun _ _ hA hx hb s => XS.goto hA hx rfl rfl (hb ▸ hd) ho hp s) k'
theorem Ru.ifc {cd : ClassFile.Cond} {o : Int} {x : Int32} (hd : DB I.b pc (.ifCond cd o) 3 o pc1 pc') (y : Cd cd x 0 → WP G I Q K S h cs sl pc' ls st) (n : Nd cd x 0 → WP G I Q K S h cs sl pc1 ls st) : WP G I Q K S h cs sl pc ls (.int x :: st) := by
  obtain ⟨hd, rfl, ho, hp⟩ := hd
  rcases cd_em cd x 0 with q | q
  · exact WP.plain (fun _ _ hA hx hb s => XS.ifYes hA hx rfl rfl (hb ▸ hd) rfl ((if0 cd x).trans (cd_t q)) ho hp s) (y q)
  · exact WP.plain (fun _ _ hA hx hb s => XS.ifNo hA hx rfl (hb ▸ hd) rfl ((if0 cd x).trans (cd_f q)) s) (n q)
theorem Ru.icmp {cd : ClassFile.Cond} {o : Int} {x z : Int32} (hd : DB I.b pc (.if_icmp cd o) 3 o pc1 pc') (y : Cd cd x z → WP G I Q K S h cs sl pc' ls st) (n : Nd cd x z → WP G I Q K S h cs sl pc1 ls st) : WP G I Q K S h cs sl pc ls (.int z :: .int x :: st) := by
  obtain ⟨hd, rfl, ho, hp⟩ := hd
  rcases cd_em cd x z with q | q
  · exact WP.plain (fun _ _ hA hx hb s => XS.icmpYes hA hx rfl rfl (hb ▸ hd) rfl (cd_t q) ho hp s) (y q)
  · exact WP.plain (fun _ _ hA hx hb s => XS.icmpNo hA hx rfl (hb ▸ hd) rfl (cd_f q) s) (n q)
theorem Ru.ifY {cd : ClassFile.Cond} {o : Int} {x : Int32} (hd : DB I.b pc (.ifCond cd o) 3 o pc1 pc') (q : Cd cd x 0) (k' : WP G I Q K S h cs sl pc' ls st) : WP G I Q K S h cs sl pc ls (.int x :: st) := by
  obtain ⟨hd, rfl, ho, hp⟩ := hd
  exact WP.plain (fun _ _ hA hx hb s => XS.ifYes hA hx rfl rfl (hb ▸ hd) rfl ((if0 cd x).trans (cd_t q)) ho hp s) k'
theorem Ru.ifN {cd : ClassFile.Cond} {o : Int} {x : Int32} (hd : DB I.b pc (.ifCond cd o) 3 o pc1 pc') (q : Nd cd x 0) (k' : WP G I Q K S h cs sl pc1 ls st) : WP G I Q K S h cs sl pc ls (.int x :: st) := by
  obtain ⟨hd, rfl, -, -⟩ := hd
  exact WP.plain (fun _ _ hA hx hb s => XS.ifNo hA hx rfl (hb ▸ hd) rfl ((if0 cd x).trans (cd_f q)) s) k'
theorem Ru.icmpY {cd : ClassFile.Cond} {o : Int} {x z : Int32} (hd : DB I.b pc (.if_icmp cd o) 3 o pc1 pc') (q : Cd cd x z) (k' : WP G I Q K S h cs sl pc' ls st) : WP G I Q K S h cs sl pc ls (.int z :: .int x :: st) := by
  obtain ⟨hd, rfl, ho, hp⟩ := hd
  exact WP.plain (fun _ _ hA hx hb s => XS.icmpYes hA hx rfl rfl (hb ▸ hd) rfl (cd_t q) ho hp s) k'
theorem Ru.icmpN {cd : ClassFile.Cond} {o : Int} {x z : Int32} (hd : DB I.b pc (.if_icmp cd o) 3 o pc1 pc') (q : Nd cd x z) (k' : WP G I Q K S h cs sl pc1 ls st) : WP G I Q K S h cs sl pc ls (.int z :: .int x :: st) := by
  obtain ⟨hd, rfl, -, -⟩ := hd
  exact WP.plain (fun _ _ hA hx hb s => XS.icmpNo hA hx rfl (hb ▸ hd) rfl (cd_f q) s) k'
theorem Ru.ifnullY {o : Int} (hd : DB I.b pc (.ifnull o) 3 o pc1 pc') (k' : WP G I Q K S h cs sl pc' ls st) : WP G I Q K S h cs sl pc ls (.null :: st) := by
  obtain ⟨hd, rfl, ho, hp⟩ := hd
  exact WP.plain (fun _ _ hA hx hb s => XS.ifnullYes hA hx rfl rfl (hb ▸ hd) rfl ho hp s) k'
theorem Ru.ifnullN {o : Int} {a : Addr} (hd : DB I.b pc (.ifnull o) 3 o pc1 pc') (k' : WP G I Q K S h cs sl pc1 ls st) : WP G I Q K S h cs sl pc ls (.ref a :: st) := by
  obtain ⟨hd, rfl, -, -⟩ := hd
  exact WP.plain (fun _ _ hA hx hb s => XS.ifnullNo hA hx rfl (hb ▸ hd) rfl s) k'
theorem Ru.ifnonnullY {o : Int} {a : Addr} (hd : DB I.b pc (.ifnonnull o) 3 o pc1 pc') (k' : WP G I Q K S h cs sl pc' ls st) : WP G I Q K S h cs sl pc ls (.ref a :: st) := by
  obtain ⟨hd, rfl, ho, hp⟩ := hd
  exact WP.plain (fun _ _ hA hx hb s => XS.ifnonnullYes hA hx rfl rfl (hb ▸ hd) rfl ho hp s) k'
theorem Ru.ifnonnullN {o : Int} (hd : DB I.b pc (.ifnonnull o) 3 o pc1 pc') (k' : WP G I Q K S h cs sl pc1 ls st) : WP G I Q K S h cs sl pc ls (.null :: st) := by
  obtain ⟨hd, rfl, -, -⟩ := hd
  exact WP.plain (fun _ _ hA hx hb s => XS.ifnonnullNo hA hx rfl (hb ▸ hd) rfl s) k'
theorem Ru.acmpEqY {o : Int} {v w : Value} (hd : DB I.b pc (.if_acmp .eq o) 3 o pc1 pc') (hv : v.isRef = true) (hw : w.isRef = true) (q : v = w) (k' : WP G I Q K S h cs sl pc' ls st) : WP G I Q K S h cs sl pc ls (w :: v :: st) := by
  obtain ⟨hd, rfl, ho, hp⟩ := hd
  exact WP.plain (fun _ _ hA hx hb s => XT.acmpYes hA hx rfl rfl (hb ▸ hd) rfl hv hw (XT.aa_eq_t q) ho hp s) k'
theorem Ru.acmpEqN {o : Int} {v w : Value} (hd : DB I.b pc (.if_acmp .eq o) 3 o pc1 pc') (hv : v.isRef = true) (hw : w.isRef = true) (q : ¬ v = w) (k' : WP G I Q K S h cs sl pc1 ls st) : WP G I Q K S h cs sl pc ls (w :: v :: st) := by
  obtain ⟨hd, rfl, -, -⟩ := hd
  exact WP.plain (fun _ _ hA hx hb s => XT.acmpNo hA hx rfl (hb ▸ hd) rfl hv hw (XT.aa_eq_f q) s) k'
theorem Ru.acmpNeY {o : Int} {v w : Value} (hd : DB I.b pc (.if_acmp .ne o) 3 o pc1 pc') (hv : v.isRef = true) (hw : w.isRef = true) (q : ¬ v = w) (k' : WP G I Q K S h cs sl pc' ls st) : WP G I Q K S h cs sl pc ls (w :: v :: st) := by
  obtain ⟨hd, rfl, ho, hp⟩ := hd
  exact WP.plain (fun _ _ hA hx hb s => XT.acmpYes hA hx rfl rfl (hb ▸ hd) rfl hv hw (XT.aa_ne_t q) ho hp s) k'
theorem Ru.acmpNeN {o : Int} {v w : Value} (hd : DB I.b pc (.if_acmp .ne o) 3 o pc1 pc') (hv : v.isRef = true) (hw : w.isRef = true) (q : v = w) (k' : WP G I Q K S h cs sl pc1 ls st) : WP G I Q K S h cs sl pc ls (w :: v :: st) := by
  obtain ⟨hd, rfl, -, -⟩ := hd
  exact WP.plain (fun _ _ hA hx hb s => XT.acmpNo hA hx rfl (hb ▸ hd) rfl hv hw (XT.aa_ne_f q) s) k'
/-- whoever knows the end of pc tells it so -/
theorem WP.at (q : pc = pc') (k' : WP G I Q K S h cs sl pc' ls st) : WP G I Q K S h cs sl pc ls st := q ▸ k'
/-- another text of what lies on top -/
theorem WP.top {v w : Value} (q : v = w) (k' : WP G I Q K S h cs sl pc ls (w :: st)) : WP G I Q K S h cs sl pc ls (v :: st) := q ▸ k'
theorem WP.topI {x y : Int32} (q : x = y) (k' : WP G I Q K S h cs sl pc ls (.int y :: st)) : WP G I Q K S h cs sl pc ls (.int x :: st) := q ▸ k'
/-- more room counted than taken -/
theorem WP.more {cs' sl' : Nat} (h1 : cs ≤ cs') (h2 : sl ≤ sl') (k' : WP G I Q K S h cs' sl' pc ls st) : WP G I Q K S h cs sl pc ls st := by
  intro ok vm0 k0 T L ⟨X, r⟩
  exact k' ok vm0 k0 T L ⟨X.mono h1 h2, r⟩
/-- fewer cells that may be written -/
theorem WP.fewer {S' : List Addr} (q : ∀ x ∈ S', x ∈ S) (k' : WP G I Q K S' h cs sl pc ls st) : WP G I Q K S h cs sl pc ls st := by
  intro ok vm0 k0 T L ⟨X, hZ, hS, hk, hf, eT, hE, hF, hW, r⟩
  exact k' ok vm0 k0 T L ⟨X, hZ, hS, hk, hf, eT, hE, hF, hW.sub q, r⟩
/-- the start's heap stands in this one -/
theorem WP.old (k' : Ext G.Z.heap h → WP G I Q K S h cs sl pc ls st) : WP G I Q K S h cs sl pc ls st := by
  intro ok vm0 k0 T L Y
  exact k' Y.2.2.2.2.2.2.1 ok vm0 k0 T L Y
/-- what may be written lies above the start -/
theorem WP.new {a : Addr} (ha : a ∈ S) (k' : G.Z.heap.size ≤ a ∧ a < h.size → WP G I Q K S h cs sl pc ls st) : WP G I Q K S h cs sl pc ls st := by
  intro ok vm0 k0 T L Y
  have q := Y.2.2.2.2.2.2.2.2.1 a ha
  exact k' ⟨q.1, q.2.1⟩ ok vm0 k0 T L Y
end Plain
end Jvm.Own
namespace Jvm.Own
open Jvm Jvm.ClassFile Sem Op Lib Jvm.Free Jvm.Stand Jvm.LawKit Jvm.RoadKit Bundle
/-! ### arrays: the list of what they hold -/
def Ary (Z : State) (h : Heap) (a : Addr) (ty : FieldType) (vs : List Value) : Prop := ∃ c : Cell, Arr Z h a c ty ∧ c.slots.toList = vs ∧ vs.length < 2147483648 ∧ ∀ v ∈ vs, fits ty v = true
theorem Ary.lt {Z : State} {h : Heap} {a : Addr} {ty : FieldType} {vs : List Value} (F : Ary Z h a ty vs) : a < h.size := by obtain ⟨c, A, -⟩ := F; exact A.lt
theorem Ary.ext {Z : State} {h h' : Heap} {a : Addr} {ty : FieldType} {vs : List Value} (F : Ary Z h a ty vs) (E : Ext h h') : Ary Z h' a ty vs := by obtain ⟨c, A, r⟩ := F; exact ⟨c, A.ext E, r⟩
theorem Ary.keep {Z : State} {h h' : Heap} {a : Addr} {ty : FieldType} {vs : List Value} {ws : List Addr} (F : Ary Z h a ty vs) (K : Keep h h' ws) (q : a ∉ ws) : Ary Z h' a ty vs := by obtain ⟨c, A, r⟩ := F; exact ⟨c, ⟨K.2.1 a c A.1 q, A.2⟩, r⟩
theorem Ary.set {Z : State} {h h' : Heap} {a : Addr} {ty : FieldType} {vs : List Value} {i : Nat} {v : Value} (F : Ary Z h a ty vs) (W : Wr h h' a i v) (hv : fits ty v = true) : Ary Z h' a ty (vs.set i v) := by
  obtain ⟨c, A, rfl, hl, hf⟩ := F
  refine ⟨_, A.same W, by simp [Cell.setSlot, Array.toList_setIfInBounds], by simpa using hl, fun w hw => ?_⟩
  rcases List.mem_or_eq_of_mem_set hw with q | q
  · exact hf w q
  · rw [q]; exact hv
theorem Ary.new {Z : State} {h : Heap} {a : Addr} {ty : FieldType} {k : ClassId} {n : Int32} (A : Arr Z h a (newA k ty n) ty) (hn : ¬ n < 0) (hd : fits ty (defaultValue ty) = true) : Ary Z h a ty (List.replicate n.toNatClampNeg (defaultValue ty)) :=
  ⟨_, A, by simp [newA], by have := (back32 hn).2; simpa using this, fun v hv => by rw [(List.mem_replicate.mp hv).2]; exact hd⟩
theorem Ary.arv {Z : State} {h : Heap} {a : Addr} {ty : FieldType} {vs : List Value} {dv : Value} {z : Int32} (F : Ary Z h a ty vs) (hz : z.toNatClampNeg = vs.length) (h0 : ¬ z < 0) : ∃ k, Arv Z h a k ty z vs dv := by
  obtain ⟨c, A, rfl, hl, hf⟩ := F
  refine ⟨c.cls, c, A, rfl, by simp [hz], h0, fun i hi => ?_, fun i hi => ?_⟩
  · simp [List.getD, hi]
  · have : (c.slots.toList.getD i dv) = c.slots[i] := by simp [List.getD, hi]
    rw [this]; exact hf _ (by simp)
theorem Arv.ary {Z : State} {h : Heap} {a : Addr} {ty : FieldType} {vs : List Value} {dv : Value} {z : Int32} {k : ClassId} (F : Arv Z h a k ty z vs dv) (hz : z.toNatClampNeg = vs.length) : Ary Z h a ty vs := by
  obtain ⟨c, A, -, hs, h0, H, Fi⟩ := F
  have e : c.slots.toList = vs := by
    apply List.ext_getElem?
    intro i
    by_cases hi : i < c.slots.size
    · have q := H i hi
      have hi' : i < vs.length := by omega
      rw [Array.getElem?_toList, q]; simp [List.getD, hi']
    · have hi' : vs.length ≤ i := by omega
      rw [Array.getElem?_toList]; simp [Nat.le_of_not_lt hi, hi']
  refine ⟨c, A, e, by have := (back32 h0).2; omega, fun v hv => ?_⟩
  obtain ⟨i, hi, rfl⟩ := List.mem_iff_getElem.mp hv
  have := Fi i (by omega)
  simpa [List.getD, hi] using this
theorem Ary.ne {Z : State} {h : Heap} {a b : Addr} {ty ty' : FieldType} {vs ws : List Value} (A : Ary Z h a ty vs) (B : Ary Z h b ty' ws) (q : ty ≠ ty') : a ≠ b := by
  rintro rfl
  obtain ⟨c, ⟨A1, ⟨-, k1, hk1, comp1, e1⟩, -⟩, -⟩ := A
  obtain ⟨c', ⟨B1, ⟨-, k2, hk2, comp2, e2⟩, -⟩, -⟩ := B
  cases A1.symm.trans B1
  cases hk1.symm.trans hk2
  have := e1.symm.trans e2
  injection this with _ e3
  exact q e3
theorem Ary.ne_exa {Z : State} {h : Heap} {a b : Addr} {ty : FieldType} {vs : List Value} {C : String} {n : Nat} {a0 : Array Value} (F : Exa Z h a C) (wi : (Jvm.Cond.instantiable C n).before a0 Z = true) (A : Ary Z h b ty vs) : a ≠ b := by obtain ⟨c, A, -⟩ := A; exact ne_arr F wi A
theorem xlt {Z : State} {h : Heap} {a : Addr} {C : String} (F : Exa Z h a C) : @LT.lt Nat instLTNat a (Array.size h) := F.lt
theorem alt {Z : State} {h : Heap} {a : Addr} {ty : FieldType} {vs : List Value} (F : Ary Z h a ty vs) : @LT.lt Nat instLTNat a (Array.size h) := F.lt
theorem nne {a b : Nat} (q : a < b ∨ b < a) : @Ne Addr a b := q.elim Nat.ne_of_lt Nat.ne_of_gt
theorem keepE {h h' : Heap} (E : Ext h h') : Keep h h' [] := (Keep.refl h []).ext E
theorem kmono {h h' : Heap} {ws ws' : List Addr} (K : Keep h h' ws) (q : ∀ x ∈ ws, x ∈ ws') : Keep h h' ws' := ⟨K.1, fun x c h1 h2 => K.2.1 x c h1 fun h3 => h2 (q x h3), K.2.2⟩
theorem k0 {h h' : Heap} {ws : List Addr} (K : Keep h h' []) : Keep h h' ws := kmono K fun _ q => nomatch q
theorem extK {h h' : Heap} (K : Keep h h' []) : Ext h h' := ⟨K.1, fun x c q => K.2.1 x c q nin0⟩
theorem nref {t : FieldType} {v : Value} (hv : v.isRef = true) : narrow t v = v := by cases v <;> first | rfl | (cases t <;> rfl) | simp [Value.isRef] at hv
/-! ### contracts' ends -/
def Rt (P : Value → Heap → List Addr → Prop) : Po := fun v h S => ∃ x, v = some x ∧ P x h S
def Rv (P : Heap → List Addr → Prop) : Po := fun v h S => v = none ∧ P h S
def npar (d : String) : Option Nat := (parseMethodDescriptor d).map fun s => s.parameters.length
theorem npar_len {d : String} {n : Nat} (q : npar d = some n) {L : List Value} (hl : L.length = n) : ∀ sig, parseMethodDescriptor d = some sig → L.length = sig.parameters.length := fun sig hs => by
  simp only [npar, hs, Option.map_some, Option.some.injEq] at q
  omega
def wt (L : List Value) : Nat := (L.map fun v => v.category).sum
abbrev noMH (y : MethodName) : Prop := y.cls ≠ "java/lang/invoke/MethodHandle" ∧ y.cls ≠ "java/lang/invoke/VarHandle"
section Heaps
variable {G : Wd} {I J : Inf} {Q : Po} {K : Rn} {S S' : List Addr} {h : Heap} {cs sl pc pc1 pc' : Nat} {ls ls' : Array Slot} {st rest : List Value} {a0 : Array Value}
theorem Ru.getfield {idx : Nat} {R0 O n d : String} {a : Addr} {v : Value} (hd : D1 I.b pc (.getfield idx) 3 pc') (w : (Jvm.Cond.fieldLink I.y.cls idx R0 n d).before a0 G.Z = true) (via : Via G.Z R0 O n d) (F : Fld G.Z h a O n d v)
    (k : WP G I Q K S h cs sl pc' ls (v :: st)) : WP G I Q K S h cs sl pc ls (.ref a :: st) := by
  obtain ⟨hd, rfl⟩ := hd
  exact WP.quiet (fun vm0 T L ok X hZ hf eT hE => getF (s := K.s.setVm vm0) (host := "") X ok.1 hZ hf (Or.inl w) via eT F (g := mkF K.m pc ls (.ref a :: st)) rfl rfl (ok.2.1 ▸ hd)) k
theorem Ru.putfield {idx n' : Nat} {R0 O n d C : String} {ty : FieldType} {a : Addr} {v old : Value} (hd : D1 I.b pc (.putfield idx) 3 pc') (w : (Jvm.Cond.fieldLink I.y.cls idx R0 n d).before a0 G.Z = true) (via : Via G.Z R0 O n d) (ha : a ∈ S) (F : Fld G.Z h a O n d old) (E : Exa G.Z h a C)
    (L : (Jvm.Cond.lays C O n d).before a0 G.Z = true ∨ ((Jvm.Cond.laysFinal C O n d).before a0 G.Z = true ∧ I.y.cls = O ∧ I.y.name = "<init>")) (wi : (Jvm.Cond.instantiable C n').before a0 G.Z = true) (hty : parseFieldDescriptor d = some ty) (hn : narrow ty v = v) (hf : fits ty v = true)
    (k : ∀ h', Wr h h' a (Jvm.RoadKit.slotOf G.Z O n d) v → WP G I Q K S h' cs sl pc' ls st) : WP G I Q K S h cs sl pc ls (v :: .ref a :: st) := by
  obtain ⟨hd, rfl⟩ := hd
  exact WP.write ha (fun vm0 T Ls ok X hZ hf' eT => putF (s := K.s.setVm vm0) (host := "") X ok.1 hZ hf' (Or.inl w) via eT F E (L.imp id fun q => ⟨q.1, q.2.1, ok.2.2.2.2.2.1.trans q.2.2⟩) wi hty hn hf (g := mkF K.m pc ls (v :: .ref a :: st)) rfl rfl (ok.2.1 ▸ hd)) k
theorem Ru.getstatic {idx : Nat} {C n d : String} {v : Value} (hd : D1 I.b pc (.getstatic idx) 3 pc') (w : (Jvm.Cond.fieldLink I.y.cls idx C n d).before a0 G.Z = true) (F : Sta G.Z G.Z.heap C n d v)
    (k : WP G I Q K S h cs sl pc' ls (v :: st)) : WP G I Q K S h cs sl pc ls st := by
  obtain ⟨hd, rfl⟩ := hd
  exact WP.quiet (fun vm0 T L ok X hZ hf eT hE => getS (s := K.s.setVm vm0) (host := "") X ok.1 hZ hf w Via.refl eT (F.ext hE) (g := mkF K.m pc ls st) rfl (ok.2.1 ▸ hd)) k
theorem Ru.checkcast {idx : Nat} {C : String} {a : Addr} (hd : D1 I.b pc (.checkcast idx) 3 pc') (w : (Jvm.Cond.classLink I.y.cls idx C).before a0 G.Z = true) (F : Ins G.Z h a C true)
    (k : WP G I Q K S h cs sl pc' ls (.ref a :: st)) : WP G I Q K S h cs sl pc ls (.ref a :: st) := by
  obtain ⟨hd, rfl⟩ := hd
  exact WP.quiet (fun vm0 T L ok X hZ hf eT hE => castY (s := K.s.setVm vm0) X ok.1 hZ hf w eT F (g := mkF K.m pc ls (.ref a :: st)) rfl rfl (ok.2.1 ▸ hd)) k
theorem Ru.instanceofY {idx : Nat} {C : String} {a : Addr} (hd : D1 I.b pc (.instanceof idx) 3 pc') (w : (Jvm.Cond.classLink I.y.cls idx C).before a0 G.Z = true) (F : Ins G.Z h a C true)
    (k : WP G I Q K S h cs sl pc' ls (.int 1 :: st)) : WP G I Q K S h cs sl pc ls (.ref a :: st) := by
  obtain ⟨hd, rfl⟩ := hd
  exact WP.quiet (fun vm0 T L ok X hZ hf eT hE => instY (s := K.s.setVm vm0) X ok.1 hZ hf w eT F (g := mkF K.m pc ls (.ref a :: st)) rfl rfl (ok.2.1 ▸ hd)) k
theorem Ru.new {idx n : Nat} {C : String} (hd : D1 I.b pc (.new idx) 3 pc') (w : (Jvm.Cond.classLink I.y.cls idx C).before a0 G.Z = true) (wi : (Jvm.Cond.instantiable C n).before a0 G.Z = true) (wz : (Jvm.Cond.initialized C).before a0 G.Z = true) (hc : cs + 1 ≤ I.R.cells) (hl : sl + n ≤ I.R.slots)
    (k : ∀ h' a, h.size = a → Ext h h' → Exa G.Z h' a C → (∀ {O nm d : String} {ty : FieldType}, Laid G.Z a0 C O nm d → parseFieldDescriptor d = some ty → Fld G.Z h' a O nm d (defaultValue ty)) → WP G I Q K (a :: S) h' (cs + 1) (sl + n) pc' ls (.ref a :: st)) : WP G I Q K S h cs sl pc ls st := by
  obtain ⟨hd, rfl⟩ := hd
  exact WP.alloc (fun vm0 T L ok X hZ hf eT => by
    obtain ⟨T', h', X', e', E, Ex, D, -, stp⟩ := newO (s := K.s.setVm vm0) X ok.1 hZ hf w wi wz eT (g := mkF K.m pc ls st) rfl (ok.2.1 ▸ hd) hc hl
    exact ⟨T', h', X', e', E, Ex.lt, ⟨Ex, fun {O nm d ty} q1 q2 => D (O := O) (nm := nm) (d := d) (ty := ty) q1 q2⟩, stp⟩) (P := fun h' => Exa G.Z h' h.size C ∧ ∀ {O nm d : String} {ty : FieldType}, Laid G.Z a0 C O nm d → parseFieldDescriptor d = some ty → Fld G.Z h' h.size O nm d (defaultValue ty)) fun h' E q => k h' _ rfl E q.1 q.2
theorem Ru.newarray {aty : ArrayType} {n : Int32} {cap : Nat} {ty : FieldType} (hd : D1 I.b pc (.newarray aty) 2 pc') (hty : newarray.typeOf aty = ty) (w : (Jvm.Cond.arrayClass ty).before a0 G.Z = true) (hdf : fits ty (defaultValue ty) = true) (hn : ¬ n < 0) (hcap : n.toNatClampNeg ≤ cap) (hb : cap * 8 ≤ 536870912) (hc : cs + 1 ≤ I.R.cells) (hl : sl + cap ≤ I.R.slots)
    (k : ∀ h' a, h.size = a → Ext h h' → Ary G.Z h' a ty (List.replicate n.toNatClampNeg (defaultValue ty)) → WP G I Q K (a :: S) h' (cs + 1) (sl + cap) pc' ls (.ref a :: st)) : WP G I Q K S h cs sl pc ls (.int n :: st) := by
  obtain ⟨hd, rfl⟩ := hd
  subst hty
  exact WP.alloc (fun vm0 T L ok X hZ hf eT => by
    obtain ⟨T', h', cA, X', e', E, A, stp⟩ := newP (s := K.s.setVm vm0) X ok.1 hZ w eT (g := mkF K.m pc ls (.int n :: st)) rfl (ok.2.1 ▸ hd) rfl hn hcap hb hc hl
    exact ⟨T', h', X', e', E, A.lt, Ary.new A hn hdf, stp⟩) fun h' E q => k h' _ rfl E q
theorem ary_in {Z : State} {h : Heap} {a : Addr} {ty : FieldType} {vs : List Value} {j : Int32} {v : Value} (A : Ary Z h a ty vs) (hj : ¬ j < 0) (hv : vs[j.toNatClampNeg]? = some v) : ∃ c : Cell, Arr Z h a c ty ∧ ¬ (j < 0 ∨ c.slots.size ≤ j.toNatClampNeg) ∧ c.slots[j.toNatClampNeg]? = some v := by
  obtain ⟨c, A, rfl, hl, hf⟩ := A
  rw [Array.getElem?_toList] at hv
  refine ⟨c, A, fun q => ?_, hv⟩
  rcases q with q | q
  · exact hj q
  · rw [Array.getElem?_eq_none q] at hv; cases hv
theorem Ru.arraylength {a : Addr} {ty : FieldType} {vs : List Value} {n : Int32} (hd : D1 I.b pc (.arraylength) 1 pc') (A : Ary G.Z h a ty vs) (hn : vs.length.toInt32 = n)
    (k : WP G I Q K S h cs sl pc' ls (.int n :: st)) : WP G I Q K S h cs sl pc ls (.ref a :: st) := by
  obtain ⟨hd, rfl⟩ := hd
  obtain ⟨c, A, e, -⟩ := A
  have e2 : c.slots.size.toInt32 = n := by rw [← hn, ← e]; simp
  subst e2
  exact WP.quiet (fun vm0 T L ok X hZ hf eT hE => ⟨T, X, eT, fun target s => X.arraylength ok.1 (by rw [eT]; exact A.1) (State.isArrayOf_alike (T := K.s.setVm vm0) hZ.alike A.2.1) (g := mkF K.m pc ls (.ref a :: st)) rfl rfl (ok.2.1 ▸ hd) target s⟩) k
theorem Ru.caload {a : Addr} {vs : List Value} {j : Int32} {v : Value} (hd : D1 I.b pc (.caload) 1 pc') (A : Ary G.Z h a .char vs) (hj : ¬ j < 0) (hv : vs[j.toNatClampNeg]? = some v)
    (k : WP G I Q K S h cs sl pc' ls (v :: st)) : WP G I Q K S h cs sl pc ls (.int j :: .ref a :: st) := by
  obtain ⟨hd, rfl⟩ := hd
  obtain ⟨c, A, q1, q2⟩ := ary_in A hj hv
  exact WP.quiet (fun vm0 T L ok X hZ hf eT hE => ⟨T, X, eT, fun target s => X.caload ok.1 (by rw [eT]; exact A.1) (State.isArrayOf_alike (T := K.s.setVm vm0) hZ.alike A.2.1) A.2.2 q1 q2 (g := mkF K.m pc ls (.int j :: .ref a :: st)) rfl rfl (ok.2.1 ▸ hd) target s⟩) k
theorem Ru.iaload {a : Addr} {vs : List Value} {j : Int32} {v : Value} (hd : D1 I.b pc (.iaload) 1 pc') (A : Ary G.Z h a .int vs) (hj : ¬ j < 0) (hv : vs[j.toNatClampNeg]? = some v)
    (k : WP G I Q K S h cs sl pc' ls (v :: st)) : WP G I Q K S h cs sl pc ls (.int j :: .ref a :: st) := by
  obtain ⟨hd, rfl⟩ := hd
  obtain ⟨c, A, q1, q2⟩ := ary_in A hj hv
  exact WP.quiet (fun vm0 T L ok X hZ hf eT hE => ⟨T, X, eT, fun target s => X.iaload ok.1 (by rw [eT]; exact A.1) (State.isArrayOf_alike (T := K.s.setVm vm0) hZ.alike A.2.1) A.2.2 q1 q2 (g := mkF K.m pc ls (.int j :: .ref a :: st)) rfl rfl (ok.2.1 ▸ hd) target s⟩) k
theorem Ru.baload {a : Addr} {vs : List Value} {j : Int32} {v : Value} (hd : D1 I.b pc (.baload) 1 pc') (A : Ary G.Z h a .byte vs) (hj : ¬ j < 0) (hv : vs[j.toNatClampNeg]? = some v)
    (k : WP G I Q K S h cs sl pc' ls (v :: st)) : WP G I Q K S h cs sl pc ls (.int j :: .ref a :: st) := by
  obtain ⟨hd, rfl⟩ := hd
  obtain ⟨c, A, q1, q2⟩ := ary_in A hj hv
  exact WP.quiet (fun vm0 T L ok X hZ hf eT hE => ⟨T, X, eT, fun target s => X.baloadBytes ok.1 (by rw [eT]; exact A.1) (State.isArrayOf_alike (T := K.s.setVm vm0) hZ.alike A.2.1) A.2.2 q1 q2 (g := mkF K.m pc ls (.int j :: .ref a :: st)) rfl rfl (ok.2.1 ▸ hd) target s⟩) k
theorem Ru.aaload {a : Addr} {ty : FieldType} {vs : List Value} {j : Int32} {v : Value} (hd : D1 I.b pc (.aaload) 1 pc') (A : Ary G.Z h a ty vs) (hty : ty.isReference = true) (hj : ¬ j < 0) (hv : vs[j.toNatClampNeg]? = some v)
    (k : WP G I Q K S h cs sl pc' ls (v :: st)) : WP G I Q K S h cs sl pc ls (.int j :: .ref a :: st) := by
  obtain ⟨hd, rfl⟩ := hd
  obtain ⟨c, A, q1, q2⟩ := ary_in A hj hv
  exact WP.quiet (fun vm0 T L ok X hZ hf eT hE => ⟨T, X, eT, fun target s => X.aaload ok.1 (by rw [eT]; exact A.1) (State.isArrayOf_alike (T := K.s.setVm vm0) hZ.alike A.2.1) hty A.2.2 q1 q2 (g := mkF K.m pc ls (.int j :: .ref a :: st)) rfl rfl (ok.2.1 ▸ hd) target s⟩) k
theorem ary_at {Z : State} {h : Heap} {a : Addr} {ty : FieldType} {vs : List Value} {j : Int32} (A : Ary Z h a ty vs) (hj : ¬ j < 0) (hl : j.toNatClampNeg < vs.length) : ∃ c : Cell, Arr Z h a c ty ∧ ¬ (j < 0 ∨ c.slots.size ≤ j.toNatClampNeg) := by
  obtain ⟨c, A1, q1, -⟩ := ary_in A hj (List.getElem?_eq_getElem hl)
  exact ⟨c, A1, q1⟩
theorem Ru.castore {a : Addr} {vs : List Value} {j x x' : Int32} (hd : D1 I.b pc (.castore) 1 pc') (ha : a ∈ S) (A : Ary G.Z h a .char vs) (hj : ¬ j < 0) (hl : j.toNatClampNeg < vs.length) (hx : nar .char x = x')
    (k : ∀ h', Keep h h' [a] → Ary G.Z h' a .char (vs.set j.toNatClampNeg (.int x')) → WP G I Q K S h' cs sl pc' ls st) : WP G I Q K S h cs sl pc ls (.int x :: .int j :: .ref a :: st) := by
  obtain ⟨hd, rfl⟩ := hd
  subst hx
  obtain ⟨c, A1, q1⟩ := ary_at A hj hl
  exact WP.write ha (fun vm0 T L ok X hZ hf eT => stC (s := K.s.setVm vm0) X ok.1 hZ eT A1 q1 (g := mkF K.m pc ls (.int x :: .int j :: .ref a :: st)) rfl rfl (ok.2.1 ▸ hd)) fun h' W => k h' (Keep.of_wr W) (A.set W (fits_nar_char x))
theorem Ru.bastore {a : Addr} {vs : List Value} {j x : Int32} (hd : D1 I.b pc (.bastore) 1 pc') (ha : a ∈ S) (A : Ary G.Z h a .byte vs) (hj : ¬ j < 0) (hl : j.toNatClampNeg < vs.length)
    (k : ∀ h', Keep h h' [a] → Ary G.Z h' a .byte (vs.set j.toNatClampNeg (.int x.toInt8.toInt32)) → WP G I Q K S h' cs sl pc' ls st) : WP G I Q K S h cs sl pc ls (.int x :: .int j :: .ref a :: st) := by
  obtain ⟨hd, rfl⟩ := hd
  obtain ⟨c, A1, q1⟩ := ary_at A hj hl
  exact WP.write ha (fun vm0 T L ok X hZ hf eT => stB (s := K.s.setVm vm0) X ok.1 hZ eT A1 q1 (g := mkF K.m pc ls (.int x :: .int j :: .ref a :: st)) rfl rfl (ok.2.1 ▸ hd)) fun h' W => k h' (Keep.of_wr W) (A.set W (fits_nar_byte x))
theorem Ru.iastore {a : Addr} {vs : List Value} {j x : Int32} (hd : D1 I.b pc (.iastore) 1 pc') (ha : a ∈ S) (A : Ary G.Z h a .int vs) (hj : ¬ j < 0) (hl : j.toNatClampNeg < vs.length)
    (k : ∀ h', Keep h h' [a] → Ary G.Z h' a .int (vs.set j.toNatClampNeg (.int x)) → WP G I Q K S h' cs sl pc' ls st) : WP G I Q K S h cs sl pc ls (.int x :: .int j :: .ref a :: st) := by
  obtain ⟨hd, rfl⟩ := hd
  obtain ⟨c, A1, q1⟩ := ary_at A hj hl
  exact WP.write ha (fun vm0 T L ok X hZ hf eT => stI (s := K.s.setVm vm0) X ok.1 hZ eT A1 q1 (g := mkF K.m pc ls (.int x :: .int j :: .ref a :: st)) rfl rfl (ok.2.1 ▸ hd)) fun h' W => k h' (Keep.of_wr W) (A.set W rfl)
theorem Ru.ldcInt {idx : Nat} {x : Int32} (hd : D1 I.b pc (.ldc idx) 2 pc') (w : (Jvm.Cond.constant I.y.cls idx x).before a0 G.Z = true)
    (k : WP G I Q K S h cs sl pc' ls (.int x :: st)) : WP G I Q K S h cs sl pc ls st := by
  obtain ⟨hd, rfl⟩ := hd
  exact WP.quiet (fun vm0 T L ok X hZ hf eT hE => ⟨T, X, eT, fun target s => X.ldcInt ok.1 hf (mvT (s := K.s.setVm vm0) hZ w) (g := mkF K.m pc ls st) rfl (ok.2.1 ▸ hd) target s⟩) k
theorem Ru.ldc2Long {idx : Nat} {x : Int64} (hd : D1 I.b pc (.ldc2_w idx) 3 pc') (w : (Jvm.Cond.constantLong I.y.cls idx x).before a0 G.Z = true)
    (k : WP G I Q K S h cs sl pc' ls (.long x :: st)) : WP G I Q K S h cs sl pc ls st := by
  obtain ⟨hd, rfl⟩ := hd
  exact WP.quiet (fun vm0 T L ok X hZ hf eT hE => ⟨T, X, eT, fun target s => X.ldc2Long ok.1 hf (mvT (s := K.s.setVm vm0) hZ w) (g := mkF K.m pc ls st) rfl (ok.2.1 ▸ hd) target s⟩) k
/-- a String constant of the list, its text read -/
theorem Ru.ldcStr {idx n : Nat} {text : String} {vs : List Value} (hnar : G.nar = false) (hd : D1 I.b pc (.ldc idx) 2 pc') (hm : (I.y.cls, idx) ∈ G.E) (w : (Jvm.Cond.stringLink I.y.cls idx text).before a0 G.Z = true) (wS : ∀ a ∈ Bundle.stringAtoms, a.before a0 G.Z = true)
    (ht : (∀ c ∈ text.toList, c.toNat < 256) ∧ text.toList.map (fun c => Value.int (Jvm.Lit.byteI c.toNat.toUInt16)) = vs) (hlen : vs.length < 134217728) (hn : 4 * text.toList.length ≤ n) (hbig : n ≤ 536870912) (hc : cs + 2 ≤ I.R.cells) (hl : sl + (n + 4) ≤ I.R.slots)
    (k : ∀ h' a b, Ext h h' → Exa G.Z h' a "java/lang/String" → Fld G.Z h' a "java/lang/String" "coder" "B" (.int 0) → Fld G.Z h' a "java/lang/String" "value" "[B" (.ref b) → Ary G.Z h' b .byte vs → (∀ x ∈ S, x ≠ a ∧ x ≠ b) → WP G I Q K S h' (cs + 2) (sl + (n + 4)) pc' ls (.ref a :: st)) : WP G I Q K S h cs sl pc ls st := by
  obtain ⟨hd, rfl⟩ := hd
  intro ok vm0 k0 T L ⟨X, hZ, hS, hk, hf, eT, hE, hF, hW, hC, hN⟩
  obtain ⟨a1, hEL⟩ := ok.2.2.2.2.2.2
  have z1 : ¬ (vs.length.toInt32) < 0 ∧ vs.length.toInt32.toNatClampNeg = vs.length := by
    have e : (vs.length.toInt32).toInt = vs.length := by
      rw [show vs.length.toInt32 = Int32.ofNat vs.length from rfl, Int32.toInt_ofNat_of_lt (by omega)]
    refine ⟨by rw [Int32.lt_iff_toInt_lt, e]; simp, ?_⟩
    rw [Int32.toNatClampNeg, e]; simp
  obtain ⟨a, T', h', k1, b, kk, X', e', E, hS', hk', hZ', hf', x1, x2, x3, x4, x5, x6, hC', -, hsf, stp⟩ := ldcCH (a0 := a0) X ok.1 hZ hf w wS eT hS hk (fun p hp => by obtain ⟨t, q1, q2⟩ := hEL p hp; exact ⟨t, by simpa [Jvm.Cond.before, Jvm.Cond.holds, Jvm.Cond.value] using q1, q2⟩) hm hC.1 ht z1.1 z1.2 (g := mkF K.m pc ls st) rfl (ok.2.1 ▸ hd) hn hbig hc hl
  obtain ⟨t, o, st1, r⟩ := k h' a b E x1 x2 x3 (Arv.ary x4 z1.2) (fun x hx => hsf x (hC'.safe (hW x hx).2.1 (hW x hx).2.2)) ok T'.vm k1 T' L ⟨X', hZ', hS', hk', hf', e', ⟨Nat.le_trans hE.1 E.1, fun x c q => E.2 x c (hE.2 x c q)⟩, hF, hW.on hC', hC.trans hC', fun q => by rw [hnar] at q; cases q⟩
  exact ⟨t, o, stp _ st1, r⟩
/-- a String constant, unread -/
theorem Ru.ldcO {idx n : Nat} {text : String} (hnar : G.nar = false) (hd : D1 I.b pc (.ldc idx) 2 pc') (w : (Jvm.Cond.stringLink I.y.cls idx text).before a0 G.Z = true) (wS : ∀ a ∈ Bundle.stringAtoms, a.before a0 G.Z = true)
    (hn : 4 * text.toList.length ≤ n) (hbig : n ≤ 536870912) (hc : cs + 2 ≤ I.R.cells) (hl : sl + (n + 4) ≤ I.R.slots)
    (k : ∀ h' a, Ext h h' → WP G I Q K S h' (cs + 2) (sl + (n + 4)) pc' ls (.ref a :: st)) : WP G I Q K S h cs sl pc ls st := by
  obtain ⟨hd, rfl⟩ := hd
  intro ok vm0 k0 T L ⟨X, hZ, hS, hk, hf, eT, hE, hF, hW, hC, hN⟩
  obtain ⟨a1, hEL⟩ := ok.2.2.2.2.2.2
  obtain ⟨a2, hEL2⟩ : ∃ a2, EW G.Z a2 G.E := ⟨a1, hEL⟩
  obtain ⟨a, T', h', k1, X', e', E, hS', hk', hZ', hf', hC', -, stp⟩ := ldcOH (a0 := a0) X ok.1 hZ hf w wS eT hS hk (fun p hp => by obtain ⟨t, q1, q2⟩ := hEL p hp; exact ⟨t, by simpa [Jvm.Cond.before, Jvm.Cond.holds, Jvm.Cond.value] using q1, q2⟩) hC.1 (g := mkF K.m pc ls st) rfl (ok.2.1 ▸ hd) hn hbig hc hl
  obtain ⟨t, o, st1, r⟩ := k h' a E ok T'.vm k1 T' L ⟨X', hZ', hS', hk', hf', e', ⟨Nat.le_trans hE.1 E.1, fun x c q => E.2 x c (hE.2 x c q)⟩, hF, hW.on hC', hC.trans hC', fun q => by rw [hnar] at q; cases q⟩
  exact ⟨t, o, stp _ st1, r⟩
/-- Object's constructor -/
theorem Ru.initO {idx : Nat} {a : Addr} (hd : D1 I.b pc (.invokespecial idx) 3 pc') (w1 : (Jvm.Cond.methodLink I.y.cls idx Lib.objectInit).before a0 G.Z = true) (w2 : (Jvm.Cond.instanceMethod Lib.objectInit).before a0 G.Z = true) (w3 : (Jvm.Cond.code Lib.objectInit ⟨#[0xb1]⟩ 1 none).before a0 G.Z = true)
    (hs : ls.size = I.n) (hf : 1 ≤ I.R.frames) (hl : wt st + 12 ≤ I.R.locals) (k : WP G I Q K S h cs sl pc' ls st) : WP G I Q K S h cs sl pc ls (.ref a :: st) := by
  obtain ⟨hd, rfl⟩ := hd
  exact WP.quiet (fun vm0 T L ok X hZ hf' eT hE => RoadKit.initO (s := K.s.setVm vm0) X ok.1 hZ hf' w1 w2 w3 eT (g := mkF K.m pc ls (.ref a :: st)) rfl (hs.trans ok.2.2.1.symm) rfl (ok.2.1 ▸ hd) hf (W := wt st) (by show 2 * 0 + _ ≤ _; exact Nat.le_of_eq (Nat.zero_add _)) hl) k
/-! returns -/
theorem Ru.out {v : Option Value} (hv : I.r = none → v = none) (hs : ∀ x ∈ S', x ∈ S) (hc : cs ≤ I.R.cells) (hl : sl ≤ I.R.slots) (hq : Q v h S')
    (hst : ∀ vm0 T L, Ok G I K → Stand K.p G.l K.e I.R (K.s.setVm vm0) K.m K.args K.below K.meth K.c T L cs sl → ∀ fs, (∀ (f : JFrame) (acts : List Action), f.method = K.m → f.locked = none → f.entered = [] → (doReturn K.e (T.setTop f) acts v).1 = T.setFrames fs) → Steps K.p.tables K.e K.below (T.setTop (mkF K.m pc ls st)) (T.setFrames fs)) : WP G I Q K S h cs sl pc ls st := by
  intro ok vm0 k0 T L ⟨X, hZ, hS, hk, hf, eT, hE, hF, hW, hC, hN⟩
  obtain ⟨fs, hr, h1, h2, h3⟩ := X.leaveW hS (by rw [eT]; exact hk) (v := v) (fun q => hv (ok.2.2.2.1.symm.trans q)) ok.2.2.2.2.1
  have hT : (T.setFrames fs).heap = h := eT
  have hvm : (T.setFrames fs).vm = T.vm := rfl
  obtain ⟨a1, hEL⟩ := ok.2.2.2.2.2.2
  have C2 : CHr G.Z G.E vm0 h T.vm h := CHv.at X hZ hEL hC.1
  refine ⟨_, _, hst vm0 T L ok X fs hr, h1, h2, v, L, rfl, ⟨⟨S', by rw [hT]; exact hq, by rw [hT, hvm]; exact (hW.on C2).sub hs⟩, hF, by rw [hT]; exact hE⟩, by rw [hT, hvm]; exact hC.trans C2, ?_, fun hn => State.WarmedH.trans (t := K.s.setVm vm0) (hN hn) X.warmed⟩
  exact ⟨h3.1, h3.2.1, h3.2.2.1, h3.2.2.2.mono hc hl⟩
theorem Ru.ret (hd : D1 I.b pc (.return_) 1 pc') (hr : I.r = none) (S' : List Addr) (hs : ∀ x ∈ S', x ∈ S) (hc : cs ≤ I.R.cells) (hl : sl ≤ I.R.slots) (hq : Q none h S') : WP G I Q K S h cs sl pc ls [] :=
  Ru.out (fun _ => rfl) hs hc hl hq fun vm0 T L ok X fs hf => X.returnOut ok.1 (ok.2.2.2.1.trans hr) (ok.2.1 ▸ hd.1) hf
theorem Ru.ireturn {x : Int32} (hd : D1 I.b pc (.ireturn) 1 pc') (hr : I.r = some .int) (S' : List Addr) (hs : ∀ x ∈ S', x ∈ S) (hc : cs ≤ I.R.cells) (hl : sl ≤ I.R.slots) (hq : Q (some (.int x)) h S') : WP G I Q K S h cs sl pc ls (.int x :: st) :=
  Ru.out (fun q => by rw [hr] at q; cases q) hs hc hl hq fun vm0 T L ok X fs hf => retOut X ok.1 (t := .int) (i := .ireturn) (ok.2.2.2.1.trans hr) rfl (Or.inl ⟨rfl, Or.inl rfl, x, rfl⟩) (ok.2.1 ▸ hd.1) hf
theorem Ru.ireturnN {x x' : Int32} {t : FieldType} (hd : D1 I.b pc (.ireturn) 1 pc') (hr : I.r = some t) (ht : t = .boolean ∨ t = .byte ∨ t = .char ∨ t = .short) (hx : nar t x = x') (S' : List Addr) (hs : ∀ x ∈ S', x ∈ S) (hc : cs ≤ I.R.cells) (hl : sl ≤ I.R.slots) (hq : Q (some (.int x')) h S') : WP G I Q K S h cs sl pc ls (.int x :: st) := by
  subst hx
  exact Ru.out (fun q => by rw [hr] at q; cases q) hs hc hl hq fun vm0 T L ok X fs hf => retN X ok.1 (t := t) (ok.2.2.2.1.trans hr) ht (ok.2.1 ▸ hd.1) hf
theorem Ru.lreturn {x : Int64} (hd : D1 I.b pc (.lreturn) 1 pc') (hr : I.r = some .long) (S' : List Addr) (hs : ∀ x ∈ S', x ∈ S) (hc : cs ≤ I.R.cells) (hl : sl ≤ I.R.slots) (hq : Q (some (.long x)) h S') : WP G I Q K S h cs sl pc ls (.long x :: st) :=
  Ru.out (fun q => by rw [hr] at q; cases q) hs hc hl hq fun vm0 T L ok X fs hf => retOut X ok.1 (t := .long) (i := .lreturn) (ok.2.2.2.1.trans hr) rfl (Or.inr (Or.inl ⟨rfl, rfl, x, rfl⟩)) (ok.2.1 ▸ hd.1) hf
theorem Ru.areturn {v : Value} {t : FieldType} (hd : D1 I.b pc (.areturn) 1 pc') (hr : I.r = some t) (ht : t.isReference = true) (hv : v.isRef = true) (hn : narrow t v = v) (S' : List Addr) (hs : ∀ x ∈ S', x ∈ S) (hc : cs ≤ I.R.cells) (hl : sl ≤ I.R.slots) (hq : Q (some v) h S') : WP G I Q K S h cs sl pc ls (v :: st) :=
  Ru.out (fun q => by rw [hr] at q; cases q) hs hc hl hq fun vm0 T L ok X fs hf => retOut X ok.1 (t := t) (i := .areturn) (ok.2.2.2.1.trans hr) hn (Or.inr (Or.inr (Or.inr (Or.inr ⟨rfl, ht, hv⟩)))) (ok.2.1 ▸ hd.1) hf
/-! calls -/
theorem Ru.callS0 {as' : Array Value} {idx : Nat} {argsL : List Value} {Q' : Po} (M : Met G J as' h S' Q') (hd : D1 I.b pc (.invokestatic idx) 3 pc') (w1 : (Jvm.Cond.methodLink I.y.cls idx J.y).before a0 G.Z = true) (w2 : (Jvm.Cond.static J.y).before a0 G.Z = true) (w3 : (Jvm.Cond.initialized J.y.cls).before a0 G.Z = true) (w4 : (Jvm.Cond.code J.y J.b J.n J.r).before a0 G.Z = true)
    (hy : noMH J.y) (hnp : npar J.y.desc = some argsL.length) (hs : ls.size = I.n) (ha : as' = argsL.toArray) (hst : st = argsL.reverse ++ rest) (hS' : ∀ x ∈ S', x ∈ S) (hf : J.R.frames + 1 ≤ I.R.frames) (hl : wt rest + (J.n + 11) + J.R.locals ≤ I.R.locals) (hc : cs + J.R.cells ≤ I.R.cells) (hsl : sl + J.R.slots ≤ I.R.slots)
    (k : ∀ v h' S2, Q' v h' S2 → WP G I Q K (S2 ++ S) h' (cs + J.R.cells) (sl + J.R.slots) pc' ls (v.toList ++ rest)) : WP G I Q K S h cs sl pc ls st := by
  obtain ⟨hd, rfl⟩ := hd
  subst ha hst
  refine WP.came M w4 w3 hS' (W := wt rest) (len := 3) hf hl (rest := rest) (pc' := pc + 3) ?_ k
  intro vm0 T L ok X hZ hf' eT Post hB
  obtain ⟨v, vm₁, B, -, X', h1, h2, h3, h4⟩ := callSS (s := K.s.setVm vm0) X ok.1 hf' (mvT (s := K.s.setVm vm0) hZ w1) (mvT (s := K.s.setVm vm0) hZ w2) (mvT (s := K.s.setVm vm0) hZ w3) (mvT (s := K.s.setVm vm0) hZ w4) hy hB (g := mkF K.m pc ls (argsL.reverse ++ rest)) rfl (hs.trans ok.2.2.1.symm) (argsL := argsL) (rest := rest) (npar_len hnp rfl) rfl (by show 2 * 0 + _ ≤ _; exact Nat.le_of_eq (Nat.zero_add _)) (ok.2.1 ▸ hd) (fun _ _ => ⟨rfl, eT, hc, hsl⟩)
  exact ⟨v, vm₁, B, X', h1, h2, h3, h4⟩
theorem Ru.callI0 {as' : Array Value} {idx : Nat} {argsL : List Value} {a : Addr} {Q' : Po} (M : Met G J as' h S' Q') (hd : D1 I.b pc (.invokespecial idx) 3 pc') (hr : J.r = none) (hn : J.y.name = "<init>") (w1 : (Jvm.Cond.methodLink I.y.cls idx J.y).before a0 G.Z = true) (w2 : (Jvm.Cond.instanceMethod J.y).before a0 G.Z = true) (w3 : (Jvm.Cond.initialized J.y.cls).before a0 G.Z = true) (w4 : (Jvm.Cond.code J.y J.b J.n J.r).before a0 G.Z = true)
    (hy : noMH J.y) (hnp : npar J.y.desc = some argsL.length) (hs : ls.size = I.n) (ha : as' = (.ref a :: argsL).toArray) (hst : st = argsL.reverse ++ .ref a :: rest) (hS' : ∀ x ∈ S', x ∈ S) (hf : J.R.frames + 1 ≤ I.R.frames) (hl : wt rest + (J.n + 11) + J.R.locals ≤ I.R.locals) (hc : cs + J.R.cells ≤ I.R.cells) (hsl : sl + J.R.slots ≤ I.R.slots)
    (k : ∀ v h' S2, Q' v h' S2 → WP G I Q K (S2 ++ S) h' (cs + J.R.cells) (sl + J.R.slots) pc' ls (v.toList ++ rest)) : WP G I Q K S h cs sl pc ls st := by
  obtain ⟨hd, rfl⟩ := hd
  subst ha hst
  refine WP.came M w4 w3 hS' (W := wt rest) (len := 3) hf hl (rest := rest) (pc' := pc + 3) ?_ k
  intro vm0 T L ok X hZ hf' eT Post hB
  rw [hr] at w4
  obtain ⟨v, vm₁, B, -, X', h1, h2, h3, h4⟩ := X.specialBackS ok.1 hn hf' (mvT (s := K.s.setVm vm0) hZ w1) (mvT (s := K.s.setVm vm0) hZ w2) (mvT (s := K.s.setVm vm0) hZ w4) hy hB (g := mkF K.m pc ls (argsL.reverse ++ .ref a :: rest)) rfl (hs.trans ok.2.2.1.symm) (Steps.refl _) (a := a) (argsL := argsL) (rest := rest) (npar_len hnp rfl) rfl (by show 2 * 0 + _ ≤ _; exact Nat.le_of_eq (Nat.zero_add _)) (ok.2.1 ▸ hd) (fun _ _ => ⟨rfl, eT, hc, hsl⟩)
  exact ⟨v, vm₁, B, X', h1, h2, h3, h4⟩
theorem Ru.callV0 {as' : Array Value} {idx : Nat} {argsL : List Value} {a : Addr} {C : String} {y : MethodName} {Q' : Po} (M : Met G J as' h S' Q') (hd : D1 I.b pc (.invokevirtual idx) 3 pc') (E : Exa G.Z h a C) (w1 : (Jvm.Cond.methodLink I.y.cls idx y).before a0 G.Z = true) (w2 : (Jvm.Cond.declares y).before a0 G.Z = true) (hnf : ∀ s : State, G.Z.Warmed39 s.vm → NotFace s y) (w3 : (Jvm.Cond.selects C y J.y).before a0 G.Z = true) (w4 : (Jvm.Cond.instanceMethod J.y).before a0 G.Z = true) (w5 : (Jvm.Cond.initialized J.y.cls).before a0 G.Z = true) (w6 : (Jvm.Cond.code J.y J.b J.n J.r).before a0 G.Z = true)
    (hy : noMH y) (hnp : npar y.desc = some argsL.length) (hs : ls.size = I.n) (ha : as' = (.ref a :: argsL).toArray) (hst : st = argsL.reverse ++ .ref a :: rest) (hS' : ∀ x ∈ S', x ∈ S) (hf : J.R.frames + 1 ≤ I.R.frames) (hl : wt rest + (J.n + 11) + J.R.locals ≤ I.R.locals) (hc : cs + J.R.cells ≤ I.R.cells) (hsl : sl + J.R.slots ≤ I.R.slots)
    (k : ∀ v h' S2, Q' v h' S2 → WP G I Q K (S2 ++ S) h' (cs + J.R.cells) (sl + J.R.slots) pc' ls (v.toList ++ rest)) : WP G I Q K S h cs sl pc ls st := by
  obtain ⟨hd, rfl⟩ := hd
  subst ha hst
  refine WP.came M w6 w5 hS' (W := wt rest) (len := 3) hf hl (rest := rest) (pc' := pc + 3) ?_ k
  intro vm0 T L ok X hZ hf' eT Post hB
  obtain ⟨cq, kq, qa, qb, qc⟩ := isOf (s := K.s.setVm vm0) (T := T) hZ eT E
  obtain ⟨v, vm₁, B, -, X', h1, h2, h3, h4⟩ := X.virtualBackS ok.1 hf' (mvT (s := K.s.setVm vm0) hZ w1) (mvT (s := K.s.setVm vm0) hZ w2) (hnf (K.s.setVm vm0) hZ) (mvT (s := K.s.setVm vm0) hZ w3) (mvT (s := K.s.setVm vm0) hZ w4) hy hB qa qc (g := mkF K.m pc ls (argsL.reverse ++ .ref a :: rest)) rfl (hs.trans ok.2.2.1.symm) (Steps.refl _) (argsL := argsL) (rest := rest) (npar_len hnp rfl) rfl (by show 2 * 0 + _ ≤ _; exact Nat.le_of_eq (Nat.zero_add _)) (ok.2.1 ▸ hd) (fun _ _ => ⟨rfl, eT, hc, hsl⟩)
  exact ⟨v, vm₁, B, X', h1, h2, h3, h4⟩
theorem WP.rt {P : Value → Heap → List Addr → Prop} {cs' sl' : Nat} (k : ∀ x h' S2, P x h' S2 → WP G I Q K (S2 ++ S) h' cs' sl' pc' ls (x :: rest)) : ∀ v h' S2, Rt P v h' S2 → WP G I Q K (S2 ++ S) h' cs' sl' pc' ls (v.toList ++ rest) := by
  rintro v h' S2 ⟨x, rfl, q⟩
  exact k x h' S2 q
theorem WP.rv {P : Heap → List Addr → Prop} {cs' sl' : Nat} (k : ∀ h' S2, P h' S2 → WP G I Q K (S2 ++ S) h' cs' sl' pc' ls rest) : ∀ v h' S2, Rv P v h' S2 → WP G I Q K (S2 ++ S) h' cs' sl' pc' ls (v.toList ++ rest) := by
  rintro v h' S2 ⟨rfl, q⟩
  exact k h' S2 q
theorem nf_sel {C : String} {y : MethodName} {Z : State} (w : (Jvm.Cond.selects C y y).before a0 Z = true) : ∀ s : State, Z.Warmed39 s.vm → NotFace s y := fun s hZ => notFace_of_selects (args := #[]) (mvT (s := s) hZ w)
end Heaps
end Jvm.Own
namespace Jvm.Own
open Jvm Jvm.ClassFile Sem Op Lib Jvm.Free Jvm.Stand Jvm.LawKit Jvm.RoadKit Bundle
/-! ### small naturals as ints; chars; Strings -/
def n32 (n : Nat) : Int32 := Int32.ofNat n
theorem n32_int {n : Nat} (h : n < 2147483648) : (n32 n).toInt = n := Int32.toInt_ofNat_of_lt (by omega)
theorem n32_cl {n : Nat} (h : n < 2147483648) : (n32 n).toNatClampNeg = n := by rw [Int32.toNatClampNeg, n32_int h]; simp
theorem n32_nn {n : Nat} (h : n < 2147483648) : ¬ n32 n < 0 := by rw [Int32.lt_iff_toInt_lt, n32_int h]; simp
theorem n32_lt {n m : Nat} (h : n < 2147483648) (h' : m < 2147483648) : n32 n < n32 m ↔ n < m := by rw [Int32.lt_iff_toInt_lt, n32_int h, n32_int h']; omega
theorem n32_eq {n m : Nat} (h : n < 2147483648) (h' : m < 2147483648) : n32 n = n32 m ↔ n = m := ⟨fun q => by have := congrArg Int32.toInt q; rw [n32_int h, n32_int h'] at this; omega, fun q => by rw [q]⟩
theorem n32_add (n m : Nat) : n32 n + n32 m = n32 (n + m) := (Int32.ofNat_add n m).symm
theorem n32_succ (n : Nat) : n32 n + (1 : Int32) = n32 (n + 1) := n32_add n 1
theorem n32_sub {n m : Nat} (h : n < 2147483648) (q : m ≤ n) : n32 n - n32 m = n32 (n - m) := by
  apply Int32.toInt_inj.mp
  rw [Int32.toInt_sub, n32_int h, n32_int (by omega), n32_int (by omega)]
  rw [Int.bmod_eq_of_le (by omega) (by omega)]; omega
theorem n32_len (vs : List Value) : vs.length.toInt32 = n32 vs.length := rfl
/-- a char; a char of Latin-1 -/
def IsC (c : Int32) : Prop := ¬ c < 0 ∧ ¬ (65535 : Int32) < c
def IsL (c : Int32) : Prop := ¬ c < 0 ∧ ¬ (255 : Int32) < c
theorem IsL.c {c : Int32} (q : IsL c) : IsC c := by
  obtain ⟨h1, h2⟩ := q
  refine ⟨h1, fun h => h2 ?_⟩
  rw [Int32.lt_iff_toInt_lt] at *
  exact Int.lt_trans (by decide) h
theorem IsC.int {c : Int32} (q : IsC c) : 0 ≤ c.toInt ∧ c.toInt < 65536 := by
  obtain ⟨h1, h2⟩ := q
  rw [Int32.lt_iff_toInt_lt] at h1 h2
  have e1 : (0 : Int32).toInt = 0 := rfl
  have e2 : (65535 : Int32).toInt = 65535 := rfl
  omega
theorem IsL.int {c : Int32} (q : IsL c) : 0 ≤ c.toInt ∧ c.toInt < 256 := by
  obtain ⟨h1, h2⟩ := q
  rw [Int32.lt_iff_toInt_lt] at h1 h2
  have e1 : (0 : Int32).toInt = 0 := rfl
  have e2 : (255 : Int32).toInt = 255 := rfl
  omega
theorem IsC.of {c : Int32} (h1 : 0 ≤ c.toInt) (h2 : c.toInt < 65536) : IsC c := by
  constructor <;> rw [Int32.lt_iff_toInt_lt]
  · have : (0 : Int32).toInt = 0 := rfl
    omega
  · have : (65535 : Int32).toInt = 65535 := rfl
    omega
theorem IsL.of {c : Int32} (h1 : 0 ≤ c.toInt) (h2 : c.toInt < 256) : IsL c := by
  constructor <;> rw [Int32.lt_iff_toInt_lt]
  · have : (0 : Int32).toInt = 0 := rfl
    omega
  · have : (255 : Int32).toInt = 255 := rfl
    omega
theorem i2c_id {c : Int32} (q : IsC c) : c.toUInt32.toUInt16.toUInt32.toInt32 = c := by
  have h := q.int
  have h2 := c_i2c c
  apply Int32.toInt_inj.mp
  omega
theorem nar_c {c : Int32} (q : IsC c) : nar .char c = c := i2c_id q
theorem i2c_isC (x : Int32) : IsC x.toUInt32.toUInt16.toUInt32.toInt32 := by
  have h := c_i2c x
  exact IsC.of (by omega) (by omega)
theorem and255_isL (x : Int32) : IsL (x &&& 255) := by
  have h := c_mask x 255 8 (by decide) (by decide)
  refine IsL.of ?_ ?_ <;> rw [h]
  · exact Int.emod_nonneg _ (by decide)
  · exact Int.emod_lt_of_pos _ (by decide)
theorem i8i8 (x : Int32) : x.toInt8.toInt32.toInt8.toInt32 = x.toInt8.toInt32 := by simp
/-- a char's byte in Latin-1 -/
def lat (c : Int32) : Value := .int c.toInt8.toInt32
theorem set_step {α β : Type} (f : α → β) {cs : List α} {vs : List β} {i : Nat} {c : α} (hc : cs[i]? = some c) (hv : i < vs.length) : ((cs.take i).map f ++ vs.drop i).set i (f c) = (cs.take (i + 1)).map f ++ vs.drop (i + 1) := by
  have hi : i < cs.length := (List.getElem?_eq_some_iff.mp hc).1
  have e : cs[i] = c := (List.getElem?_eq_some_iff.mp hc).2
  have e1 : (List.map f (cs.take i)).length = i := by simp; omega
  rw [List.set_append, e1, if_neg (Nat.lt_irrefl i), Nat.sub_self, List.take_succ_eq_append_getElem hi, e, List.map_append, List.append_assoc]
  congr 1
  rw [List.drop_eq_getElem_cons hv]
  rfl
theorem cfal_nar {n m : Nat} (hq : n ≤ m) (hl : m < 2147483648) : nar .byte (((n32 n - n32 m).toUInt32 >>> ((31 : Int32) &&& 31).toUInt32).toInt32).toInt8.toInt32 = if m = n then (0 : Int32) else (1 : Int32) := by
  by_cases e : m = n
  · subst e
    rw [if_pos rfl, Int32.sub_self]; decide
  · rw [if_neg e]
    have h1 : (n32 n - n32 m).toInt = (n : Int) - m := by
      rw [Int32.toInt_sub, n32_int (by omega), n32_int hl, Int.bmod_eq_of_le (by omega) (by omega)]
    have h2 := c_iushr (n32 n - n32 m) 31 31 (by decide) (by decide)
    rw [h1] at h2
    have h3 : ((n : Int) - m) % 4294967296 / ((2 ^ 31 : Nat) : Int) = 1 := by omega
    rw [h3] at h2
    have h4 : ((n32 n - n32 m).toUInt32 >>> ((31 : Int32) &&& 31).toUInt32).toInt32 = 1 := Int32.toInt_inj.mp (h2.trans rfl)
    rw [h4]; decide
/-- a String whose chars are all of Latin-1: its object a, its byte[] t -/
def StrL (Z : State) (h : Heap) (a t : Addr) (cs : List Int32) : Prop := Exa Z h a "java/lang/String" ∧ Fld Z h a "java/lang/String" "value" "[B" (.ref t) ∧ Fld Z h a "java/lang/String" "coder" "B" (.int 0) ∧ Ary Z h t .byte (cs.map lat) ∧ ∀ c ∈ cs, IsL c
theorem StrL.keep {Z : State} {h h' : Heap} {a t : Addr} {cs : List Int32} {ws : List Addr} (F : StrL Z h a t cs) (K : Keep h h' ws) (qa : a ∉ ws) (qt : t ∉ ws) : StrL Z h' a t cs :=
  ⟨F.1.keep K, F.2.1.keep K qa, F.2.2.1.keep K qa, F.2.2.2.1.keep K qt, F.2.2.2.2⟩
theorem StrL.ext {Z : State} {h h' : Heap} {a t : Addr} {cs : List Int32} (F : StrL Z h a t cs) (E : Ext h h') : StrL Z h' a t cs := F.keep (keepE E) nin0 nin0
theorem StrL.lt {Z : State} {h : Heap} {a t : Addr} {cs : List Int32} (F : StrL Z h a t cs) : a < h.size ∧ t < h.size := ⟨F.1.lt, F.2.2.2.1.lt⟩
end Jvm.Own
namespace Jvm.Own
open Jvm Jvm.ClassFile Sem Op Lib Jvm.Free Jvm.Stand Jvm.LawKit Jvm.RoadKit Bundle
/-- Long's table of boxes -/
def LCache (G : Wd) : Prop := ∃ ca vs, Sta G.Z G.Z.heap "java/lang/Long$LongCache" "cache" "[Ljava/lang/Long;" (.ref ca) ∧ Ary G.Z G.Z.heap ca (.object "java/lang/Long") vs ∧ ∀ j : Int32, ¬ j < 0 → j < 256 → ∃ r, vs[j.toNatClampNeg]? = some (.ref r) ∧ Exa G.Z G.Z.heap r "java/lang/Long" ∧ Fld G.Z G.Z.heap r "java/lang/Long" "value" "J" (.long (j - 128).toInt64)
theorem lc_idx {v : Int64} (h1 : ¬ v < -128) (h2 : ¬ 127 < v) : ¬ (v.toInt32 + (128 : Int32) < 0) ∧ v.toInt32 + (128 : Int32) < 256 ∧ (v.toInt32 + (128 : Int32) - 128).toInt64 = v := by
  rw [Int64.lt_iff_toInt_lt] at h1 h2
  have e1 : (-128 : Int64).toInt = -128 := by decide
  have e2 : (127 : Int64).toInt = 127 := by decide
  have e3 : (128 : Int32).toInt = 128 := by decide
  have e4 : (256 : Int32).toInt = 256 := by decide
  have e5 : (0 : Int32).toInt = 0 := by decide
  rw [e1] at h1; rw [e2] at h2
  have q1 : v.toInt32.toInt = v.toInt := by rw [Int64.toInt_toInt32]; exact Int.bmod_eq_of_le (by omega) (by omega)
  have q2 : (v.toInt32 + (128 : Int32)).toInt = v.toInt + 128 := by rw [Int32.toInt_add, q1, e3]; exact Int.bmod_eq_of_le (by omega) (by omega)
  have q3 : (v.toInt32 + (128 : Int32) - 128).toInt = v.toInt := by rw [Int32.toInt_sub, q2, e3]; rw [Int.bmod_eq_of_le (by omega) (by omega)]; omega
  refine ⟨by rw [Int32.lt_iff_toInt_lt, q2, e5]; omega, by rw [Int32.lt_iff_toInt_lt, q2, e4]; omega, ?_⟩
  apply Int64.toInt_inj.mp
  rw [Int32.toInt_toInt64, q3]
theorem fits_ref_of {C : String} {v : Value} (hv : v.isRef = true) : fits (.object C) v = true := by cases v <;> first | rfl | simp [Value.isRef] at hv
end Jvm.Own
namespace Jvm.Own
open Jvm Jvm.ClassFile Sem Op Lib Jvm.Free Jvm.Stand Jvm.LawKit Jvm.RoadKit Bundle
theorem len_start {Z : State} {args : Array Value} {t : Term} {a : Addr} {c : Cell} {ty : FieldType} {n : Int32} (ev : t.eval args Z none [] Z = some (.ref a)) (A : Arr Z Z.heap a c ty) (h : (Term.length t).eval args Z none [] Z = some (.int n)) : c.slots.size < 2 ^ 31 ∧ c.slots.size.toInt32 = n := by
  have q := A.fin (U := Z) (Vm.Alike.refl _)
  simpa [Term.eval, ev, q] using h
theorem ary_start {Z : State} {a : Addr} {c : Cell} {ty : FieldType} (hf : Fit Z) (A : Arr Z Z.heap a c ty) (hl : c.slots.size < 2 ^ 31) : Ary Z Z.heap a ty c.slots.toList := by
  refine ⟨c, A, rfl, by simpa using hl, fun v hv => ?_⟩
  obtain ⟨i, hi, rfl⟩ := List.mem_iff_getElem.mp hv
  have hi' : i < c.slots.size := by simpa using hi
  have e : (n32 i).toNatClampNeg = i := n32_cl (by omega)
  refine elem_fits (j := n32 i) hf A (fun q => ?_) (by rw [e]; simp [hi'])
  rcases q with q | q
  · exact n32_nn (by omega) q
  · rw [e] at q; omega
theorem LCache.start {G : Wd} {args : Array Value} (hf : Fit G.Z) (h10 : (Jvm.Cond.initializedFor "java/lang/Long$LongCache" "cache" "[Ljava/lang/Long;").before args G.Z = true)
    (h11 : (Jvm.Cond.arrayOf (Term.static "java/lang/Long$LongCache" "cache" "[Ljava/lang/Long;") (.object "java/lang/Long")).before args G.Z = true)
    (h13 : (Jvm.Cond.eq (Term.length (Term.static "java/lang/Long$LongCache" "cache" "[Ljava/lang/Long;")) (Term.int 256)).before args G.Z = true)
    (h14 : (Jvm.Cond.all (Term.static "java/lang/Long$LongCache" "cache" "[Ljava/lang/Long;") (.and (.exactly (.elem (Term.static "java/lang/Long$LongCache" "cache" "[Ljava/lang/Long;") (.index 0)) "java/lang/Long") (.eq (.field (.elem (Term.static "java/lang/Long$LongCache" "cache" "[Ljava/lang/Long;") (.index 0)) "java/lang/Long" "value" "J") (.op1 .i2l (.sub (.index 0) (.int 128)))))).before args G.Z = true) : LCache G := by
  obtain ⟨ca, ev⟩ := arr_v (Cond.before_iff.mp h11)
  obtain ⟨c, A⟩ := Arr.start ev (Cond.before_iff.mp h11)
  have hl := eqv_i (Term.int_eval 256) (Cond.before_iff.mp h13)
  obtain ⟨q1, q2⟩ := len_start ev A hl
  have B := Bxs.start (val := fun j => .long (j - 128).toInt64) (z := 256) (fun idx => by simpa [Term.eval] using ev) A q1 q2 (by decide) (Cond.before_iff.mp h14) (fun X j hj hq => by
    have e1 : (Term.index 0).eval args G.Z none [j.toNatClampNeg] G.Z = some (.int j) := idx_at hj
    have e2 : (Term.sub (.index 0) (.int 128)).eval args G.Z none [j.toNatClampNeg] G.Z = some (.int (j - 128)) := by
      have e3 : (Term.int 128).eval args G.Z none [j.toNatClampNeg] G.Z = some (.int 128) := Term.int_eval 128
      simp [Term.eval] at e1 ⊢
      simp [e1]
    exact eqv_l (i2l_at e2) hq)
  have hs : c.slots.size = 256 := B.2.1.trans (by decide)
  refine ⟨ca, c.slots.toList, Sta.start ev (Or.inl h10), ary_start hf A q1, fun j hj hj2 => ?_⟩
  have hlt : j.toNatClampNeg < 256 := by
    rw [Int32.lt_iff_toInt_lt] at hj hj2
    have e5 : (0 : Int32).toInt = 0 := by decide
    have e4 : (256 : Int32).toInt = 256 := by decide
    rw [e5] at hj; rw [e4] at hj2
    rw [Int32.toNatClampNeg]; omega
  obtain ⟨r, r1, r2, r3⟩ := B.2.2.2 j (fun q => by rcases q with q | q; · exact hj q
                                                   · omega)
  exact ⟨r, by rw [Array.getElem?_toList]; exact r1, r2, r3⟩
/-- an object that a static names -/
theorem sta_exa {Z : State} {args : Array Value} {C n d K : String} (h : (Jvm.Cond.exactly (Term.static C n d) K).value args Z none Z [] = some true) (hi : (Jvm.Cond.initialized C).before args Z = true) (hl : (Jvm.Cond.laysStatic C n d).before args Z = true) :
    ∃ a, (Term.static C n d).eval args Z none [] Z = some (.ref a) ∧ Sta Z Z.heap C n d (.ref a) ∧ Exa Z Z.heap a K := by
  obtain ⟨a, ev⟩ := exa_v h
  exact ⟨a, ev, Sta.start ev (Or.inr ⟨hi, hl⟩), Exa.start ev h⟩
theorem fld_eq {Z : State} {args : Array Value} {t : Term} {a : Addr} {C n d : String} {y : Int32} (ev : t.eval args Z none [] Z = some (.ref a)) (h : (Jvm.Cond.eq (.field t C n d) (.int y)).value args Z none Z [] = some true) : Fld Z Z.heap a C n d (.int y) :=
  Fld.start ((fld_at ev).symm.trans (eqv_i (Term.int_eval y) h))
end Jvm.Own
namespace Jvm.Own
open Jvm Jvm.ClassFile Sem Op Lib Jvm.Free Jvm.Stand Jvm.LawKit Jvm.RoadKit Bundle
/-! ### Strings of any chars: Latin-1 or UTF-16 (little end first) -/
def hi8 (c : Int32) : Value := .int (c >>> ((8 : Int32) &&& 31)).toInt8.toInt32
def u16 (c : Int32) : List Value := [lat c, hi8 c]
theorem shr0 (c : Int32) : c >>> ((0 : Int32) &&& 31) = c := by
  apply Int32.toInt_inj.mp
  rw [c_ishr c 0 0 (by decide)]; simp
theorem shl0 (c : Int32) : c <<< ((0 : Int32) &&& 31) = c := by
  have h := c_ishl c 0 0 (by decide)
  have h1 := rng32 c
  have h2 := rng32 (c <<< ((0 : Int32) &&& 31))
  apply Int32.toInt_inj.mp
  omega
theorem lat_mask {c : Int32} (q : IsL c) : c.toInt8.toInt32 &&& (255 : Int32) = c := by
  have h := c_mask c.toInt8.toInt32 255 8 (by decide) (by decide)
  have h1 := c_i2b c
  have h2 := q.int
  apply Int32.toInt_inj.mp
  omega
theorem lo_mask {c : Int32} (q : IsC c) : (c.toInt8.toInt32 &&& (255 : Int32)).toInt = c.toInt % 256 := by
  have h := c_mask c.toInt8.toInt32 255 8 (by decide) (by decide)
  have h1 := c_i2b c
  omega
theorem hi_mask {c : Int32} (q : IsC c) : ((c >>> ((8 : Int32) &&& 31)).toInt8.toInt32 &&& (255 : Int32)).toInt = c.toInt / 256 := by
  have h0 := c_ishr c 8 8 (by decide)
  have h := c_mask (c >>> ((8 : Int32) &&& 31)).toInt8.toInt32 255 8 (by decide) (by decide)
  have h1 := c_i2b (c >>> ((8 : Int32) &&& 31))
  have h2 := q.int
  omega
theorem get_u16 {c : Int32} (q : IsC c) : (((c.toInt8.toInt32 &&& (255 : Int32)) <<< ((0 : Int32) &&& 31)) ||| (((c >>> ((8 : Int32) &&& 31)).toInt8.toInt32 &&& (255 : Int32)) <<< ((8 : Int32) &&& 31))) = c := by
  rw [shl0]
  have h1 := lo_mask q
  have h2 := hi_mask q
  have h3 := q.int
  generalize c.toInt8.toInt32 &&& (255 : Int32) = lo at h1
  generalize (c >>> ((8 : Int32) &&& 31)).toInt8.toInt32 &&& (255 : Int32) = hi at h2
  have h4 := c_ishl hi 8 8 (by decide)
  have h5 := rng32 (hi <<< ((8 : Int32) &&& 31))
  generalize hi <<< ((8 : Int32) &&& 31) = hs at h4 h5
  have h6 : hs.toInt = hi.toInt * 256 := by omega
  have h7 := c_or' lo hs 8 (by decide) 256 (by decide) (by omega) (by omega) (by omega)
  have h8 := rng32 (lo ||| hs)
  apply Int32.toInt_inj.mp
  omega
theorem u16_len (cs : List Int32) : (cs.flatMap u16).length = 2 * cs.length := by
  induction cs with
  | nil => rfl
  | cons c r ih => simp [u16, ih]; omega
theorem u16_at {cs : List Int32} {i : Nat} {c : Int32} (hc : cs[i]? = some c) : (cs.flatMap u16)[2 * i]? = some (lat c) ∧ (cs.flatMap u16)[2 * i + 1]? = some (hi8 c) := by
  induction cs generalizing i with
  | nil => simp at hc
  | cons d r ih =>
    cases i with
    | zero => simp at hc; subst hc; simp [u16]
    | succ i =>
      simp at hc
      obtain ⟨h1, h2⟩ := ih hc
      have e1 : 2 * (i + 1) = 2 * i + 2 := by omega
      have e2 : 2 * (i + 1) + 1 = (2 * i + 1) + 2 := by omega
      constructor
      · rw [e1]; simpa [u16] using h1
      · rw [e2]; simpa [u16] using h2
theorem set2 {cs : List Int32} {vs : List Value} {i : Nat} {c : Int32} (hc : cs[i]? = some c) (hv : 2 * i + 1 < vs.length) : (((cs.take i).flatMap u16 ++ vs.drop (2 * i)).set (2 * i) (lat c)).set (2 * i + 1) (hi8 c) = (cs.take (i + 1)).flatMap u16 ++ vs.drop (2 * (i + 1)) := by
  have hi : i < cs.length := (List.getElem?_eq_some_iff.mp hc).1
  have e : cs[i] = c := (List.getElem?_eq_some_iff.mp hc).2
  have e1 : ((cs.take i).flatMap u16).length = 2 * i := by rw [u16_len]; simp; omega
  have e2 : vs.drop (2 * i) = vs[2 * i]'(by omega) :: vs[2 * i + 1] :: vs.drop (2 * (i + 1)) := by
    rw [List.drop_eq_getElem_cons (by omega), List.drop_eq_getElem_cons (i := 2 * i + 1) (by omega)]
    rfl
  rw [List.set_append, e1, if_neg (Nat.lt_irrefl _), Nat.sub_self, List.set_append, e1, if_neg (by omega), e2, List.take_succ_eq_append_getElem hi, e, List.flatMap_append, List.append_assoc]
  congr 1
  have e3 : 2 * i + 1 - 2 * i = 1 := by omega
  rw [e3]
  rfl
/-- a String with a char beyond Latin-1 -/
def StrU (Z : State) (h : Heap) (a t : Addr) (cs : List Int32) : Prop := Exa Z h a "java/lang/String" ∧ Fld Z h a "java/lang/String" "value" "[B" (.ref t) ∧ Fld Z h a "java/lang/String" "coder" "B" (.int 1) ∧ Ary Z h t .byte (cs.flatMap u16) ∧ (∀ c ∈ cs, IsC c) ∧ ∃ c ∈ cs, (255 : Int32) < c
theorem StrU.keep {Z : State} {h h' : Heap} {a t : Addr} {cs : List Int32} {ws : List Addr} (F : StrU Z h a t cs) (K : Keep h h' ws) (qa : a ∉ ws) (qt : t ∉ ws) : StrU Z h' a t cs :=
  ⟨F.1.keep K, F.2.1.keep K qa, F.2.2.1.keep K qa, F.2.2.2.1.keep K qt, F.2.2.2.2⟩
/-- any String -/
def Str (Z : State) (h : Heap) (a t : Addr) (cs : List Int32) : Prop := StrL Z h a t cs ∨ StrU Z h a t cs
theorem Str.keep {Z : State} {h h' : Heap} {a t : Addr} {cs : List Int32} {ws : List Addr} (F : Str Z h a t cs) (K : Keep h h' ws) (qa : a ∉ ws) (qt : t ∉ ws) : Str Z h' a t cs := F.imp (fun q => q.keep K qa qt) (fun q => q.keep K qa qt)
theorem Str.ext {Z : State} {h h' : Heap} {a t : Addr} {cs : List Int32} (F : Str Z h a t cs) (E : Ext h h') : Str Z h' a t cs := F.keep (keepE E) nin0 nin0
theorem Str.exa {Z : State} {h : Heap} {a t : Addr} {cs : List Int32} (F : Str Z h a t cs) : Exa Z h a "java/lang/String" := by rcases F with F | F <;> exact F.1
theorem Str.val {Z : State} {h : Heap} {a t : Addr} {cs : List Int32} (F : Str Z h a t cs) : Fld Z h a "java/lang/String" "value" "[B" (.ref t) := by rcases F with F | F <;> exact F.2.1
theorem Str.isC {Z : State} {h : Heap} {a t : Addr} {cs : List Int32} (F : Str Z h a t cs) : ∀ c ∈ cs, IsC c := by
  rcases F with F | F
  · exact fun c q => (F.2.2.2.2 c q).c
  · exact F.2.2.2.2.1
theorem Str.lt {Z : State} {h : Heap} {a t : Addr} {cs : List Int32} (F : Str Z h a t cs) : a < h.size ∧ t < h.size := by
  rcases F with F | F
  · exact F.lt
  · exact ⟨F.1.lt, F.2.2.2.1.lt⟩
end Jvm.Own
namespace Jvm.Own
open Jvm Jvm.ClassFile Sem Op Lib Jvm.Free Jvm.Stand Jvm.LawKit Jvm.RoadKit Bundle
theorem n32_shl1 {n : Nat} (h : n < 1073741824) : n32 n <<< ((1 : Int32) &&& 31) = n32 (2 * n) := by
  have h1 := c_ishl (n32 n) 1 1 (by decide)
  have h2 := rng32 (n32 n <<< ((1 : Int32) &&& 31))
  apply Int32.toInt_inj.mp
  rw [n32_int (by omega)] at h1
  rw [n32_int (by omega)]
  omega
theorem n32_shr1 {n : Nat} (h : n < 1073741824) : n32 (2 * n) >>> ((1 : Int32) &&& 31) = n32 n := by
  have h1 := c_ishr (n32 (2 * n)) 1 1 (by decide)
  apply Int32.toInt_inj.mp
  rw [n32_int (by omega)] at h1
  rw [n32_int (by omega)]
  omega
theorem n32_or0 {n m k : Nat} (hn : n < 2147483648) (hm : m < 2147483648) (hk : k < 2147483648) : ¬ ((n32 n ||| n32 m) ||| n32 k) < 0 := by
  have h1 := c_or0 (n32 n) (n32 m) (by rw [n32_int hn]; omega) (by rw [n32_int hm]; omega)
  have h2 := c_or0 (n32 n ||| n32 m) (n32 k) (by rw [n32_int hn] at h1; omega) (by rw [n32_int hk]; omega)
  rw [Int32.lt_iff_toInt_lt]
  have e : (0 : Int32).toInt = 0 := rfl
  rw [n32_int hk] at h2
  omega
theorem ncf {c : Int32} (q : IsC c) : narrow .char (.int c) = .int c ∧ fits .char (.int c) = true := by
  refine ⟨congrArg Value.int (nar_c q), ?_⟩
  have := fits_nar_char c
  rw [nar_c q] at this
  exact this
theorem getc {c : Int32} (q : IsC c) : nar .char ((((c.toInt8.toInt32 &&& (255 : Int32)) <<< ((0 : Int32) &&& 31)) ||| (((c >>> ((8 : Int32) &&& 31)).toInt8.toInt32 &&& (255 : Int32)) <<< ((8 : Int32) &&& 31))).toUInt32.toUInt16.toUInt32.toInt32) = c := by
  rw [get_u16 q, i2c_id q, nar_c q]
theorem take_get {α : Type} {cs : List α} {n r : Nat} {c : α} (h : cs[r]? = some c) (q : r < n) : (cs.take n)[r]? = some c := by rw [List.getElem?_take, if_pos q]; exact h
end Jvm.Own
namespace Jvm.Own
open Jvm Jvm.ClassFile Sem Op Lib Jvm.Free Jvm.Stand Jvm.LawKit Jvm.RoadKit Bundle
theorem notL_of {cs : List Int32} (h1 : ∀ c ∈ cs, IsL c) (h2 : ∃ c ∈ cs, (255 : Int32) < c) : False := by
  obtain ⟨c, q1, q2⟩ := h2
  exact (h1 c q1).2 q2
/-- two Strings of the same chars: one coder, the same bytes -/
theorem str_pair {Z : State} {h : Heap} {a b t u : Addr} {cs : List Int32} (A : Str Z h a t cs) (B : Str Z h b u cs) : ∃ (co : Int32) (vs : List Value), Fld Z h a "java/lang/String" "coder" "B" (.int co) ∧ Fld Z h b "java/lang/String" "coder" "B" (.int co) ∧ Ary Z h t .byte vs ∧ Ary Z h u .byte vs ∧ ∀ x ∈ vs, ∃ z, x = .int z := by
  rcases A with A | A <;> rcases B with B | B
  · exact ⟨0, _, A.2.2.1, B.2.2.1, A.2.2.2.1, B.2.2.2.1, fun x hx => by obtain ⟨c, -, rfl⟩ := List.mem_map.mp hx; exact ⟨_, rfl⟩⟩
  · exact (notL_of A.2.2.2.2 B.2.2.2.2.2).elim
  · exact (notL_of B.2.2.2.2 A.2.2.2.2.2).elim
  · exact ⟨1, _, A.2.2.1, B.2.2.1, A.2.2.2.1, B.2.2.2.1, fun x hx => by
      obtain ⟨c, -, hc⟩ := List.mem_flatMap.mp hx
      simp only [u16, List.mem_cons, List.not_mem_nil, or_false] at hc
      rcases hc with rfl | rfl <;> exact ⟨_, rfl⟩⟩
end Jvm.Own
namespace Jvm.Pilot.@@N@@
open Jvm Jvm.ClassFile Sem Op Lib Jvm.Free Jvm.Stand Jvm.LawKit Jvm.RoadKit Bundle Jvm.Pilot.@@N@@.Jvm.D Jvm.Own
def lits_1 : List (String × Nat) := [("java/lang/String", 7)]
def Ev (G : Own.Wd) (a0 : Array Value) : Prop := (∀ d ∈ tables_1, d.before a0 G.Z = true) ∧ (∃ cz : Int32, Sta G.Z G.Z.heap "java/lang/String" "COMPACT_STRINGS" "Z" (.int cz) ∧ ¬ cz = 0) ∧ G.nar = false ∧ (∀ p ∈ lits_1, p ∈ G.E) ∧ Sta G.Z G.Z.heap "java/lang/StringUTF16" "$assertionsDisabled" "Z" (.int 1) ∧ Sta G.Z G.Z.heap "java/lang/StringUTF16" "HI_BYTE_SHIFT" "I" (.int 0) ∧ Sta G.Z G.Z.heap "java/lang/StringUTF16" "LO_BYTE_SHIFT" "I" (.int 8) ∧ (∃ v : Value, v.isRef = true ∧ Sta G.Z G.Z.heap "jdk/internal/util/Preconditions" "SIOOBE_FORMATTER" "Ljava/util/function/BiFunction;" v) ∧ True
theorem Ev.w {G : Own.Wd} {a0 : Array Value} (e : Ev G a0) (i : Nat) {d : Jvm.Cond} (q : tables_1[i]? = some d) : d.before a0 G.Z = true := e.1 d (List.mem_of_getElem? q)
theorem Ev.cz {G : Own.Wd} {a0 : Array Value} (e : Ev G a0) : ∃ cz : Int32, Sta G.Z G.Z.heap "java/lang/String" "COMPACT_STRINGS" "Z" (.int cz) ∧ ¬ cz = 0 := e.2.1
theorem Ev.nar {G : Own.Wd} {a0 : Array Value} (e : Ev G a0) : G.nar = false := e.2.2.1
theorem Ev.el {G : Own.Wd} {a0 : Array Value} (e : Ev G a0) : ∀ p ∈ lits_1, p ∈ G.E := e.2.2.2.1
theorem str_atoms : ∀ a ∈ Bundle.stringAtoms, a ∈ tables_1 := by decide +kernel
theorem Ev.sa {G : Own.Wd} {a0 : Array Value} (e : Ev G a0) : ∀ a ∈ Bundle.stringAtoms, a.before a0 G.Z = true := fun a h => e.1 a (str_atoms a h)
theorem Ev.ad {G : Own.Wd} {a0 : Array Value} (e : Ev G a0) : Sta G.Z G.Z.heap "java/lang/StringUTF16" "$assertionsDisabled" "Z" (.int 1) := e.2.2.2.2.1
theorem Ev.hi {G : Own.Wd} {a0 : Array Value} (e : Ev G a0) : Sta G.Z G.Z.heap "java/lang/StringUTF16" "HI_BYTE_SHIFT" "I" (.int 0) := e.2.2.2.2.2.1
theorem Ev.lo {G : Own.Wd} {a0 : Array Value} (e : Ev G a0) : Sta G.Z G.Z.heap "java/lang/StringUTF16" "LO_BYTE_SHIFT" "I" (.int 8) := e.2.2.2.2.2.2.1
theorem Ev.fm {G : Own.Wd} {a0 : Array Value} (e : Ev G a0) : (∃ v : Value, v.isRef = true ∧ Sta G.Z G.Z.heap "jdk/internal/util/Preconditions" "SIOOBE_FORMATTER" "Ljava/util/function/BiFunction;" v) := e.2.2.2.2.2.2.2.1
theorem Ev.more {G : Own.Wd} {a0 : Array Value} (e : Ev G a0) : True := e.2.2.2.2.2.2.2.2
abbrev I_comp2 : Own.Inf := (⟨"java/lang/StringUTF16", "compress", "([CI[BII)I"⟩, jdk_52_method_21_code, 7, (Option.some Jvm.ClassFile.FieldType.int), { frames := 0, cells := 0, slots := 0, locals := 0 })
theorem d_comp2_0 : Own.D1 jdk_52_method_21_code 0 (.iconst 0) 1 1 := ⟨by decide +kernel, rfl⟩
theorem d_comp2_1 : Own.D1 jdk_52_method_21_code 1 (.istore 5) 2 3 := ⟨by decide +kernel, rfl⟩
theorem d_comp2_3 : Own.D1 jdk_52_method_21_code 3 (.iload 5) 2 5 := ⟨by decide +kernel, rfl⟩
theorem d_comp2_5 : Own.D1 jdk_52_method_21_code 5 (.iload 4) 2 7 := ⟨by decide +kernel, rfl⟩
theorem d_comp2_7 : Own.DB jdk_52_method_21_code 7 (.if_icmp .ge 37) 3 (37) 10 44 := ⟨by decide +kernel, rfl, by decide, rfl⟩
theorem d_comp2_10 : Own.D1 jdk_52_method_21_code 10 (.aload_n 0) 1 11 := ⟨by decide +kernel, rfl⟩
theorem d_comp2_11 : Own.D1 jdk_52_method_21_code 11 (.iload_n 1) 1 12 := ⟨by decide +kernel, rfl⟩
theorem d_comp2_12 : Own.D1 jdk_52_method_21_code 12 .caload 1 13 := ⟨by decide +kernel, rfl⟩
theorem d_comp2_13 : Own.D1 jdk_52_method_21_code 13 (.istore 6) 2 15 := ⟨by decide +kernel, rfl⟩
theorem d_comp2_15 : Own.D1 jdk_52_method_21_code 15 (.iload 6) 2 17 := ⟨by decide +kernel, rfl⟩
theorem d_comp2_17 : Own.D1 jdk_52_method_21_code 17 (.sipush 255) 3 20 := ⟨by decide +kernel, rfl⟩
theorem d_comp2_20 : Own.DB jdk_52_method_21_code 20 (.if_icmp .le 6) 3 (6) 23 26 := ⟨by decide +kernel, rfl, by decide, rfl⟩
theorem d_comp2_23 : Own.D1 jdk_52_method_21_code 23 (.iload 5) 2 25 := ⟨by decide +kernel, rfl⟩
theorem d_comp2_25 : Own.D1 jdk_52_method_21_code 25 .ireturn 1 26 := ⟨by decide +kernel, rfl⟩
theorem d_comp2_26 : Own.D1 jdk_52_method_21_code 26 (.aload_n 2) 1 27 := ⟨by decide +kernel, rfl⟩
theorem d_comp2_27 : Own.D1 jdk_52_method_21_code 27 (.iload_n 3) 1 28 := ⟨by decide +kernel, rfl⟩
theorem d_comp2_28 : Own.D1 jdk_52_method_21_code 28 (.iload 6) 2 30 := ⟨by decide +kernel, rfl⟩
theorem d_comp2_30 : Own.D1 jdk_52_method_21_code 30 .i2b 1 31 := ⟨by decide +kernel, rfl⟩
theorem d_comp2_31 : Own.D1 jdk_52_method_21_code 31 .bastore 1 32 := ⟨by decide +kernel, rfl⟩
theorem d_comp2_32 : Own.D1 jdk_52_method_21_code 32 (.iinc 1 1) 3 35 := ⟨by decide +kernel, rfl⟩
theorem d_comp2_35 : Own.D1 jdk_52_method_21_code 35 (.iinc 3 1) 3 38 := ⟨by decide +kernel, rfl⟩
theorem d_comp2_38 : Own.D1 jdk_52_method_21_code 38 (.iinc 5 1) 3 41 := ⟨by decide +kernel, rfl⟩
theorem d_comp2_41 : Own.DB jdk_52_method_21_code 41 (.goto (-38)) 3 (-38) 44 3 := ⟨by decide +kernel, rfl, by decide, rfl⟩
theorem d_comp2_44 : Own.D1 jdk_52_method_21_code 44 (.iload 4) 2 46 := ⟨by decide +kernel, rfl⟩
theorem d_comp2_46 : Own.D1 jdk_52_method_21_code 46 .ireturn 1 47 := ⟨by decide +kernel, rfl⟩
theorem pn_0 : plainName "java/lang/StringUTF16" = true := by first | (simp [plainName, overriddenIn]; done) | decide +kernel
theorem np_comp2 : Own.npar "([CI[BII)I" = some 5 := by decide +kernel
set_option maxRecDepth 65536 in
set_option maxHeartbeats 40000000 in
theorem c_comp2 {G : Own.Wd} {a0 : Array Value} (e : Ev G a0) {a b : Addr} {cs : List Int32} {vs : List Value} {n : Nat} {h : Heap} (hA : Ary G.Z h a .char (cs.map Value.int)) (hC : ∀ c ∈ cs, IsC c) (hB : Ary G.Z h b .byte vs) (hn : n ≤ cs.length) (hv : n ≤ vs.length) : Met G I_comp2 #[(.ref a), (.int (n32 0)), (.ref b), (.int (n32 0)), (.int (n32 n))] h [b] (Rt (fun x h' S' => S' = [] ∧ ∃ r, r ≤ n ∧ x = .int (n32 r) ∧ (∀ c ∈ cs.take r, IsL c) ∧ (r < n → ∃ c, cs[r]? = some c ∧ (255 : Int32) < c) ∧ Keep h h' [b] ∧ Ary G.Z h' b .byte ((cs.take r).map lat ++ vs.drop r))) := by
  refine Met.intro (ls := #[.val (.ref a), .val (.int (n32 0)), .val (.ref b), .val (.int (n32 0)), .val (.int (n32 n)), .unset, .unset]) (plainFor_of_name pn_0) (fun m => by first | (simp [entryFrame, mkF, argsToLocals, Value.category, I_comp2]; done) | (simp [entryFrame, mkF, argsToLocals, Value.category]; rfl) | rfl) ?_
  intro K
  have hab : a ≠ b := hA.ne hB (by decide)
  have hcs : cs.length < 2147483648 := by obtain ⟨c, -, e1, e2, -⟩ := hA; simpa using e2
  have loop : ∀ (d i : Nat) (o6 : Slot) (h1 : Heap), One o6 → i + d = n → (∀ c ∈ cs.take i, IsL c) → Keep h h1 [b] → Ary G.Z h1 b .byte ((cs.take i).map lat ++ vs.drop i) → WP G I_comp2 (Rt (fun x h' S' => S' = [] ∧ ∃ r, r ≤ n ∧ x = .int (n32 r) ∧ (∀ c ∈ cs.take r, IsL c) ∧ (r < n → ∃ c, cs[r]? = some c ∧ (255 : Int32) < c) ∧ Keep h h' [b] ∧ Ary G.Z h' b .byte ((cs.take r).map lat ++ vs.drop r))) K [b] h1 0 0 3 #[.val (.ref a), .val (.int (n32 i)), .val (.ref b), .val (.int (n32 i)), .val (.int (n32 n)), .val (.int (n32 i)), o6] [] := by
    intro d
    induction d with
    | zero =>
      intro i o6 h1 ho hi hL hK hB1
      obtain rfl : i = n := by omega
      refine Ru.iload d_comp2_3 rfl ?_
      refine Ru.iload d_comp2_5 rfl ?_
      refine Ru.icmpY d_comp2_7 (show ¬ (n32 i) < (n32 i) from (by simp)) ?_
      refine Ru.iload d_comp2_44 rfl ?_
      exact Ru.ireturn d_comp2_46 rfl [] (fun _ q => nomatch q) (Nat.le_of_ble_eq_true rfl) (Nat.le_of_ble_eq_true rfl) ⟨_, rfl, rfl, i, Nat.le_refl _, rfl, hL, fun q => absurd q (Nat.lt_irrefl _), hK, hB1⟩
    | succ d ih =>
      intro i o6 h1 ho hi hL hK hB1
      have hin : i < n := by omega
      have hic : i < cs.length := by omega
      obtain ⟨c, hc⟩ : ∃ c, cs[i]? = some c := ⟨_, List.getElem?_eq_getElem hic⟩
      have hA1 := hA.keep hK (ninS hab nin0)
      refine Ru.iload d_comp2_3 rfl ?_
      refine Ru.iload d_comp2_5 rfl ?_
      refine Ru.icmpN d_comp2_7 (show (n32 i) < (n32 n) from ((n32_lt (by omega) (by omega)).mpr hin)) ?_
      refine Ru.aloadN d_comp2_10 rfl rfl ?_
      refine Ru.iloadN d_comp2_11 rfl ?_
      refine Ru.caload (v := (.int c)) d_comp2_12 hA1 (n32_nn (by omega)) (by rw [n32_cl (by omega)]; simp [hc]) ?_
      refine Ru.istoreG d_comp2_13 (ls' := #[.val (.ref a), .val (.int (n32 i)), .val (.ref b), .val (.int (n32 i)), .val (.int (n32 n)), .val (.int (n32 i)), .val (.int c)]) rfl ho rfl ?_
      refine Ru.iload d_comp2_15 rfl ?_
      refine Ru.sipush (x := 255) d_comp2_17 rfl ?_
      refine Ru.icmp d_comp2_20 (fun (c1 : ¬ (255 : Int32) < c) => ?_) (fun (c1 : (255 : Int32) < c) => ?_)
      · refine Ru.aloadN d_comp2_26 rfl rfl ?_
        refine Ru.iloadN d_comp2_27 rfl ?_
        refine Ru.iload d_comp2_28 rfl ?_
        refine Ru.i2b d_comp2_30 ?_
        refine Ru.bastore d_comp2_31 (by simp) hB1 (n32_nn (by omega)) (by rw [n32_cl (by omega)]; simp; omega) ?_
        intro h2 K2 hB2
        rw [n32_cl (by omega), i8i8, show (Value.int c.toInt8.toInt32) = lat c from rfl, set_step lat hc (by omega)] at hB2
        refine Ru.iinc (y := (1 : Int32)) d_comp2_32 rfl rfl (ls' := #[.val (.ref a), .val (.int ((n32 i) + (1 : Int32))), .val (.ref b), .val (.int (n32 i)), .val (.int (n32 n)), .val (.int (n32 i)), .val (.int c)]) rfl ?_
        refine Ru.iinc (y := (1 : Int32)) d_comp2_35 rfl rfl (ls' := #[.val (.ref a), .val (.int ((n32 i) + (1 : Int32))), .val (.ref b), .val (.int ((n32 i) + (1 : Int32))), .val (.int (n32 n)), .val (.int (n32 i)), .val (.int c)]) rfl ?_
        refine Ru.iinc (y := (1 : Int32)) d_comp2_38 rfl rfl (ls' := #[.val (.ref a), .val (.int ((n32 i) + (1 : Int32))), .val (.ref b), .val (.int ((n32 i) + (1 : Int32))), .val (.int (n32 n)), .val (.int ((n32 i) + (1 : Int32))), .val (.int c)]) rfl ?_
        refine Ru.goto d_comp2_41 ?_
        rw [n32_succ]
        refine ih (i + 1) _ h2 (One.val rfl) (by omega) ?_ (hK.trans K2 (by simp)) hB2
        rw [List.take_succ_eq_append_getElem hic, (List.getElem?_eq_some_iff.mp hc).2]
        intro z hz; rcases List.mem_append.mp hz with hz | hz
        · exact hL z hz
        · rw [List.mem_singleton.mp hz]; exact ⟨(hC c (List.mem_of_getElem? hc)).1, c1⟩
      · refine Ru.iload d_comp2_23 rfl ?_
        exact Ru.ireturn d_comp2_25 rfl [] (fun _ q => nomatch q) (Nat.le_of_ble_eq_true rfl) (Nat.le_of_ble_eq_true rfl) ⟨_, rfl, rfl, i, by omega, rfl, hL, fun _ => ⟨c, hc, c1⟩, hK, hB1⟩
  refine Ru.iconst (x := 0) d_comp2_0 rfl ?_
  refine WP.topI (show (0 : Int32) = n32 0 from rfl) ?_
  refine Ru.istore d_comp2_1 (ls' := #[.val (.ref a), .val (.int (n32 0)), .val (.ref b), .val (.int (n32 0)), .val (.int (n32 n)), .val (.int (n32 0)), .unset]) rfl ?_
  exact loop n 0 _ h One.u (by omega) (by simp) (Keep.refl _ _) (by simpa using hB)
abbrev I_cfal : Own.Inf := (⟨"java/lang/StringUTF16", "coderFromArrayLen", "([BI)B"⟩, jdk_52_method_15_code, 2, (Option.some Jvm.ClassFile.FieldType.byte), { frames := 0, cells := 0, slots := 0, locals := 0 })
theorem d_cfal_0 : Own.D1 jdk_52_method_15_code 0 (.iload_n 1) 1 1 := ⟨by decide +kernel, rfl⟩
theorem d_cfal_1 : Own.D1 jdk_52_method_15_code 1 (.aload_n 0) 1 2 := ⟨by decide +kernel, rfl⟩
theorem d_cfal_2 : Own.D1 jdk_52_method_15_code 2 .arraylength 1 3 := ⟨by decide +kernel, rfl⟩
theorem d_cfal_3 : Own.D1 jdk_52_method_15_code 3 .isub 1 4 := ⟨by decide +kernel, rfl⟩
theorem d_cfal_4 : Own.D1 jdk_52_method_15_code 4 (.bipush 31) 2 6 := ⟨by decide +kernel, rfl⟩
theorem d_cfal_6 : Own.D1 jdk_52_method_15_code 6 .iushr 1 7 := ⟨by decide +kernel, rfl⟩
theorem d_cfal_7 : Own.D1 jdk_52_method_15_code 7 .i2b 1 8 := ⟨by decide +kernel, rfl⟩
theorem d_cfal_8 : Own.D1 jdk_52_method_15_code 8 .ireturn 1 9 := ⟨by decide +kernel, rfl⟩
theorem np_cfal : Own.npar "([BI)B" = some 2 := by decide +kernel
set_option maxRecDepth 65536 in
set_option maxHeartbeats 40000000 in
theorem c_cfal {G : Own.Wd} {a0 : Array Value} (e : Ev G a0) {t : Addr} {vs : List Value} {n : Nat} {h : Heap} (hA : Ary G.Z h t .byte vs) (hq : n ≤ vs.length) (hl : vs.length < 2147483648) : Met G I_cfal #[(.ref t), (.int (n32 n))] h [] (Rt (fun x h' S' => S' = [] ∧ h' = h ∧ x = .int (if vs.length = n then (0 : Int32) else (1 : Int32)))) := by
  refine Met.intro (ls := #[.val (.ref t), .val (.int (n32 n))]) (plainFor_of_name pn_0) (fun m => by first | (simp [entryFrame, mkF, argsToLocals, Value.category, I_cfal]; done) | (simp [entryFrame, mkF, argsToLocals, Value.category]; rfl) | rfl) ?_
  intro K
  refine Ru.iloadN d_cfal_0 rfl ?_
  refine Ru.aloadN d_cfal_1 rfl rfl ?_
  refine Ru.arraylength (n := (n32 vs.length)) d_cfal_2 hA rfl ?_
  refine Ru.isub d_cfal_3 ?_
  refine Ru.bipush (x := 31) d_cfal_4 rfl ?_
  refine Ru.iushr d_cfal_6 ?_
  refine Ru.i2b d_cfal_7 ?_
  exact Ru.ireturnN (t := .byte) d_cfal_8 rfl (by simp) (cfal_nar hq hl) [] (fun _ q => nomatch q) (Nat.le_of_ble_eq_true rfl) (Nat.le_of_ble_eq_true rfl) ⟨_, rfl, rfl, rfl, rfl⟩
abbrev I_nbl : Own.Inf := (⟨"java/lang/StringUTF16", "newBytesLength", "(I)I"⟩, jdk_52_method_3_code, 1, (Option.some Jvm.ClassFile.FieldType.int), { frames := 0, cells := 0, slots := 0, locals := 0 })
theorem d_nbl_0 : Own.D1 jdk_52_method_3_code 0 (.iload_n 0) 1 1 := ⟨by decide +kernel, rfl⟩
theorem d_nbl_1 : Own.DB jdk_52_method_3_code 1 (.ifCond .ge 11) 3 (11) 4 12 := ⟨by decide +kernel, rfl, by decide, rfl⟩
theorem d_nbl_4 : Own.D1 jdk_52_method_3_code 4 (.new 17) 3 7 := ⟨by decide +kernel, rfl⟩
theorem d_nbl_7 : Own.D1 jdk_52_method_3_code 7 .dup 1 8 := ⟨by decide +kernel, rfl⟩
theorem d_nbl_8 : Own.D1 jdk_52_method_3_code 8 (.invokespecial 19) 3 11 := ⟨by decide +kernel, rfl⟩
theorem d_nbl_11 : Own.D1 jdk_52_method_3_code 11 .athrow 1 12 := ⟨by decide +kernel, rfl⟩
theorem d_nbl_12 : Own.D1 jdk_52_method_3_code 12 (.iload_n 0) 1 13 := ⟨by decide +kernel, rfl⟩
theorem d_nbl_13 : Own.D1 jdk_52_method_3_code 13 (.ldc 20) 2 15 := ⟨by decide +kernel, rfl⟩
theorem d_nbl_15 : Own.DB jdk_52_method_3_code 15 (.if_icmp .lt 40) 3 (40) 18 55 := ⟨by decide +kernel, rfl, by decide, rfl⟩
theorem d_nbl_18 : Own.D1 jdk_52_method_3_code 18 (.new 21) 3 21 := ⟨by decide +kernel, rfl⟩
theorem d_nbl_21 : Own.D1 jdk_52_method_3_code 21 .dup 1 22 := ⟨by decide +kernel, rfl⟩
theorem d_nbl_22 : Own.D1 jdk_52_method_3_code 22 (.new 23) 3 25 := ⟨by decide +kernel, rfl⟩
theorem d_nbl_25 : Own.D1 jdk_52_method_3_code 25 .dup 1 26 := ⟨by decide +kernel, rfl⟩
theorem d_nbl_26 : Own.D1 jdk_52_method_3_code 26 (.invokespecial 25) 3 29 := ⟨by decide +kernel, rfl⟩
theorem d_nbl_29 : Own.D1 jdk_52_method_3_code 29 (.ldc 26) 2 31 := ⟨by decide +kernel, rfl⟩
theorem d_nbl_31 : Own.D1 jdk_52_method_3_code 31 (.invokevirtual 28) 3 34 := ⟨by decide +kernel, rfl⟩
theorem d_nbl_34 : Own.D1 jdk_52_method_3_code 34 (.iload_n 0) 1 35 := ⟨by decide +kernel, rfl⟩
theorem d_nbl_35 : Own.D1 jdk_52_method_3_code 35 (.invokevirtual 32) 3 38 := ⟨by decide +kernel, rfl⟩
theorem d_nbl_38 : Own.D1 jdk_52_method_3_code 38 (.ldc 35) 2 40 := ⟨by decide +kernel, rfl⟩
theorem d_nbl_40 : Own.D1 jdk_52_method_3_code 40 (.invokevirtual 28) 3 43 := ⟨by decide +kernel, rfl⟩
theorem d_nbl_43 : Own.D1 jdk_52_method_3_code 43 (.ldc 20) 2 45 := ⟨by decide +kernel, rfl⟩
theorem d_nbl_45 : Own.D1 jdk_52_method_3_code 45 (.invokevirtual 32) 3 48 := ⟨by decide +kernel, rfl⟩
theorem d_nbl_48 : Own.D1 jdk_52_method_3_code 48 (.invokevirtual 37) 3 51 := ⟨by decide +kernel, rfl⟩
theorem d_nbl_51 : Own.D1 jdk_52_method_3_code 51 (.invokespecial 41) 3 54 := ⟨by decide +kernel, rfl⟩
theorem d_nbl_54 : Own.D1 jdk_52_method_3_code 54 .athrow 1 55 := ⟨by decide +kernel, rfl⟩
theorem d_nbl_55 : Own.D1 jdk_52_method_3_code 55 (.iload_n 0) 1 56 := ⟨by decide +kernel, rfl⟩
theorem d_nbl_56 : Own.D1 jdk_52_method_3_code 56 (.iconst 1) 1 57 := ⟨by decide +kernel, rfl⟩
theorem d_nbl_57 : Own.D1 jdk_52_method_3_code 57 .ishl 1 58 := ⟨by decide +kernel, rfl⟩
theorem d_nbl_58 : Own.D1 jdk_52_method_3_code 58 .ireturn 1 59 := ⟨by decide +kernel, rfl⟩
theorem np_nbl : Own.npar "(I)I" = some 1 := by decide +kernel
set_option maxRecDepth 65536 in
set_option maxHeartbeats 40000000 in
theorem c_nbl {G : Own.Wd} {a0 : Array Value} (e : Ev G a0) {n : Nat} {h : Heap} (hn : n < 1073741823) : Met G I_nbl #[(.int (n32 n))] h [] (Rt (fun x h' S' => S' = [] ∧ h' = h ∧ x = .int (n32 (2 * n)))) := by
  refine Met.intro (ls := #[.val (.int (n32 n))]) (plainFor_of_name pn_0) (fun m => by first | (simp [entryFrame, mkF, argsToLocals, Value.category, I_nbl]; done) | (simp [entryFrame, mkF, argsToLocals, Value.category]; rfl) | rfl) ?_
  intro K
  refine Ru.iloadN d_nbl_0 rfl ?_
  refine Ru.ifY d_nbl_1 (show ¬ (n32 n) < (0 : Int32) from (n32_nn (by omega))) ?_
  refine Ru.iloadN d_nbl_12 rfl ?_
  refine Ru.ldcInt d_nbl_13 (e.w 94 rfl) ?_
  refine Ru.icmpY d_nbl_15 (show (n32 n) < (1073741823 : Int32) from ((n32_lt (n := n) (m := 1073741823) (by omega) (by omega)).mpr (by omega))) ?_
  refine Ru.iloadN d_nbl_55 rfl ?_
  refine Ru.iconst (x := 1) d_nbl_56 rfl ?_
  refine Ru.ishl d_nbl_57 ?_
  refine WP.topI (show ((n32 n) <<< ((1 : Int32) &&& 31)) = (n32 (2 * n)) from (n32_shl1 (by omega))) ?_
  exact Ru.ireturn d_nbl_58 rfl [] (fun _ q => nomatch q) (Nat.le_of_ble_eq_true rfl) (Nat.le_of_ble_eq_true rfl) ⟨_, rfl, rfl, rfl, rfl⟩
abbrev I_nbf : Own.Inf := (⟨"java/lang/StringUTF16", "newBytesFor", "(I)[B"⟩, jdk_52_method_2_code, 1, (Option.some (Jvm.ClassFile.FieldType.array Jvm.ClassFile.FieldType.byte)), { frames := 1, cells := 1, slots := 12, locals := 12 })
theorem d_nbf_0 : Own.D1 jdk_52_method_2_code 0 (.iload_n 0) 1 1 := ⟨by decide +kernel, rfl⟩
theorem d_nbf_1 : Own.D1 jdk_52_method_2_code 1 (.invokestatic 11) 3 4 := ⟨by decide +kernel, rfl⟩
theorem d_nbf_4 : Own.D1 jdk_52_method_2_code 4 (.newarray .byte) 2 6 := ⟨by decide +kernel, rfl⟩
theorem d_nbf_6 : Own.D1 jdk_52_method_2_code 6 .areturn 1 7 := ⟨by decide +kernel, rfl⟩
theorem np_nbf : Own.npar "(I)[B" = some 1 := by decide +kernel
set_option maxRecDepth 65536 in
set_option maxHeartbeats 40000000 in
theorem c_nbf {G : Own.Wd} {a0 : Array Value} (e : Ev G a0) {n : Nat} {h : Heap} (hn : n ≤ 6) : Met G I_nbf #[(.int (n32 n))] h [] (Rt (fun x h' S' => ∃ t, x = .ref t ∧ h.size ≤ t ∧ S' = [t] ∧ Keep h h' [] ∧ Ary G.Z h' t .byte (List.replicate (2 * n) (defaultValue .byte)))) := by
  refine Met.intro (ls := #[.val (.int (n32 n))]) (plainFor_of_name pn_0) (fun m => by first | (simp [entryFrame, mkF, argsToLocals, Value.category, I_nbf]; done) | (simp [entryFrame, mkF, argsToLocals, Value.category]; rfl) | rfl) ?_
  intro K
  refine Ru.iloadN d_nbf_0 rfl ?_
  refine Ru.callS0 (J := I_nbl) (c_nbl e (n := n) (by omega)) d_nbf_1 (e.w 91 rfl) (e.w 92 rfl) (e.w 23 rfl) (e.w 93 rfl) (by decide) np_nbl rfl (argsL := [(.int (n32 n))]) (rest := []) rfl rfl (fun _ q => nomatch q) (Nat.le_of_ble_eq_true rfl) (Nat.le_of_ble_eq_true rfl) (Nat.le_of_ble_eq_true rfl) (Nat.le_of_ble_eq_true rfl) (WP.rt ?_)
  rintro _ _ S1 ⟨rfl, rfl, rfl⟩
  refine Ru.newarray (cap := 12) d_nbf_4 (ty := .byte) rfl (e.w 25 rfl) rfl (n32_nn (by omega)) (by rw [n32_cl (by omega)]; omega) (Nat.le_of_ble_eq_true rfl) (Nat.le_of_ble_eq_true rfl) (Nat.le_of_ble_eq_true rfl) ?_
  intro h1 t gt E1 T1
  rw [n32_cl (by omega)] at T1
  exact Ru.areturn (t := (.array .byte)) d_nbf_6 rfl rfl rfl rfl [t] (by simp) (Nat.le_of_ble_eq_true rfl) (Nat.le_of_ble_eq_true rfl) ⟨_, rfl, t, rfl, by omega, rfl, keepE E1, T1⟩
abbrev I_putc : Own.Inf := (⟨"java/lang/StringUTF16", "putChar", "([BII)V"⟩, jdk_52_method_4_code, 3, (Option.none : Option Jvm.ClassFile.FieldType), { frames := 0, cells := 0, slots := 0, locals := 0 })
theorem d_putc_0 : Own.D1 jdk_52_method_4_code 0 (.getstatic 44) 3 3 := ⟨by decide +kernel, rfl⟩
theorem d_putc_3 : Own.DB jdk_52_method_4_code 3 (.ifCond .ne 25) 3 (25) 6 28 := ⟨by decide +kernel, rfl, by decide, rfl⟩
theorem d_putc_6 : Own.D1 jdk_52_method_4_code 6 (.iload_n 1) 1 7 := ⟨by decide +kernel, rfl⟩
theorem d_putc_7 : Own.DB jdk_52_method_4_code 7 (.ifCond .lt 11) 3 (11) 10 18 := ⟨by decide +kernel, rfl, by decide, rfl⟩
theorem d_putc_10 : Own.D1 jdk_52_method_4_code 10 (.iload_n 1) 1 11 := ⟨by decide +kernel, rfl⟩
theorem d_putc_11 : Own.D1 jdk_52_method_4_code 11 (.aload_n 0) 1 12 := ⟨by decide +kernel, rfl⟩
theorem d_putc_12 : Own.D1 jdk_52_method_4_code 12 (.invokestatic 48) 3 15 := ⟨by decide +kernel, rfl⟩
theorem d_putc_15 : Own.DB jdk_52_method_4_code 15 (.if_icmp .lt 13) 3 (13) 18 28 := ⟨by decide +kernel, rfl, by decide, rfl⟩
theorem d_putc_18 : Own.D1 jdk_52_method_4_code 18 (.new 52) 3 21 := ⟨by decide +kernel, rfl⟩
theorem d_putc_21 : Own.D1 jdk_52_method_4_code 21 .dup 1 22 := ⟨by decide +kernel, rfl⟩
theorem d_putc_22 : Own.D1 jdk_52_method_4_code 22 (.ldc 54) 2 24 := ⟨by decide +kernel, rfl⟩
theorem d_putc_24 : Own.D1 jdk_52_method_4_code 24 (.invokespecial 56) 3 27 := ⟨by decide +kernel, rfl⟩
theorem d_putc_27 : Own.D1 jdk_52_method_4_code 27 .athrow 1 28 := ⟨by decide +kernel, rfl⟩
theorem d_putc_28 : Own.D1 jdk_52_method_4_code 28 (.iload_n 1) 1 29 := ⟨by decide +kernel, rfl⟩
theorem d_putc_29 : Own.D1 jdk_52_method_4_code 29 (.iconst 1) 1 30 := ⟨by decide +kernel, rfl⟩
theorem d_putc_30 : Own.D1 jdk_52_method_4_code 30 .ishl 1 31 := ⟨by decide +kernel, rfl⟩
theorem d_putc_31 : Own.D1 jdk_52_method_4_code 31 (.istore_n 1) 1 32 := ⟨by decide +kernel, rfl⟩
theorem d_putc_32 : Own.D1 jdk_52_method_4_code 32 (.aload_n 0) 1 33 := ⟨by decide +kernel, rfl⟩
theorem d_putc_33 : Own.D1 jdk_52_method_4_code 33 (.iload_n 1) 1 34 := ⟨by decide +kernel, rfl⟩
theorem d_putc_34 : Own.D1 jdk_52_method_4_code 34 (.iinc 1 1) 3 37 := ⟨by decide +kernel, rfl⟩
theorem d_putc_37 : Own.D1 jdk_52_method_4_code 37 (.iload_n 2) 1 38 := ⟨by decide +kernel, rfl⟩
theorem d_putc_38 : Own.D1 jdk_52_method_4_code 38 (.getstatic 59) 3 41 := ⟨by decide +kernel, rfl⟩
theorem d_putc_41 : Own.D1 jdk_52_method_4_code 41 .ishr 1 42 := ⟨by decide +kernel, rfl⟩
theorem d_putc_42 : Own.D1 jdk_52_method_4_code 42 .i2b 1 43 := ⟨by decide +kernel, rfl⟩
theorem d_putc_43 : Own.D1 jdk_52_method_4_code 43 .bastore 1 44 := ⟨by decide +kernel, rfl⟩
theorem d_putc_44 : Own.D1 jdk_52_method_4_code 44 (.aload_n 0) 1 45 := ⟨by decide +kernel, rfl⟩
theorem d_putc_45 : Own.D1 jdk_52_method_4_code 45 (.iload_n 1) 1 46 := ⟨by decide +kernel, rfl⟩
theorem d_putc_46 : Own.D1 jdk_52_method_4_code 46 (.iload_n 2) 1 47 := ⟨by decide +kernel, rfl⟩
theorem d_putc_47 : Own.D1 jdk_52_method_4_code 47 (.getstatic 63) 3 50 := ⟨by decide +kernel, rfl⟩
theorem d_putc_50 : Own.D1 jdk_52_method_4_code 50 .ishr 1 51 := ⟨by decide +kernel, rfl⟩
theorem d_putc_51 : Own.D1 jdk_52_method_4_code 51 .i2b 1 52 := ⟨by decide +kernel, rfl⟩
theorem d_putc_52 : Own.D1 jdk_52_method_4_code 52 .bastore 1 53 := ⟨by decide +kernel, rfl⟩
theorem d_putc_53 : Own.D1 jdk_52_method_4_code 53 .return_ 1 54 := ⟨by decide +kernel, rfl⟩
theorem np_putc : Own.npar "([BII)V" = some 3 := by decide +kernel
set_option maxRecDepth 65536 in
set_option maxHeartbeats 40000000 in
theorem c_putc {G : Own.Wd} {a0 : Array Value} (e : Ev G a0) {b : Addr} {vs : List Value} {i : Nat} {c : Int32} {h : Heap} (hB : Ary G.Z h b .byte vs) (hi : 2 * i + 1 < vs.length) : Met G I_putc #[(.ref b), (.int (n32 i)), (.int c)] h [b] (Rv (fun h' S' => S' = [] ∧ Keep h h' [b] ∧ Ary G.Z h' b .byte ((vs.set (2 * i) (lat c)).set (2 * i + 1) (hi8 c)))) := by
  refine Met.intro (ls := #[.val (.ref b), .val (.int (n32 i)), .val (.int c)]) (plainFor_of_name pn_0) (fun m => by first | (simp [entryFrame, mkF, argsToLocals, Value.category, I_putc]; done) | (simp [entryFrame, mkF, argsToLocals, Value.category]; rfl) | rfl) ?_
  intro K
  have hvl : vs.length < 2147483648 := by obtain ⟨c, -, e1, e2, -⟩ := hB; exact e2
  refine Ru.getstatic d_putc_0 (e.w 98 rfl) e.ad ?_
  refine Ru.ifY d_putc_3 (show ¬ (1 : Int32) = (0 : Int32) from (by decide)) ?_
  refine Ru.iloadN d_putc_28 rfl ?_
  refine Ru.iconst (x := 1) d_putc_29 rfl ?_
  refine Ru.ishl d_putc_30 ?_
  refine WP.topI (show ((n32 i) <<< ((1 : Int32) &&& 31)) = (n32 (2 * i)) from (n32_shl1 (by omega))) ?_
  refine Ru.istoreN d_putc_31 (ls' := #[.val (.ref b), .val (.int (n32 (2 * i))), .val (.int c)]) rfl ?_
  refine Ru.aloadN d_putc_32 rfl rfl ?_
  refine Ru.iloadN d_putc_33 rfl ?_
  refine Ru.iinc (y := (1 : Int32)) d_putc_34 rfl rfl (ls' := #[.val (.ref b), .val (.int ((n32 (2 * i)) + (1 : Int32))), .val (.int c)]) rfl ?_
  refine Ru.iloadN d_putc_37 rfl ?_
  refine Ru.getstatic d_putc_38 (e.w 99 rfl) e.hi ?_
  refine Ru.ishr d_putc_41 ?_
  refine Ru.i2b d_putc_42 ?_
  refine Ru.bastore d_putc_43 (by simp) hB (n32_nn (by omega)) (by rw [n32_cl (by omega)]; omega) ?_
  intro h1 K1 B1
  rw [n32_cl (by omega), i8i8, shr0] at B1
  refine Ru.aloadN d_putc_44 rfl rfl ?_
  refine Ru.iloadN d_putc_45 rfl ?_
  refine WP.topI (show ((n32 (2 * i)) + (1 : Int32)) = (n32 (2 * i + 1)) from (n32_succ _)) ?_
  refine Ru.iloadN d_putc_46 rfl ?_
  refine Ru.getstatic d_putc_47 (e.w 100 rfl) e.lo ?_
  refine Ru.ishr d_putc_50 ?_
  refine Ru.i2b d_putc_51 ?_
  refine Ru.bastore d_putc_52 (by simp) B1 (n32_nn (by omega)) (by rw [n32_cl (by omega)]; simp; omega) ?_
  intro h2 K2 B2
  rw [n32_cl (by omega), i8i8] at B2
  exact Ru.ret d_putc_53 rfl [] (fun _ q => nomatch q) (Nat.le_of_ble_eq_true rfl) (Nat.le_of_ble_eq_true rfl) ⟨rfl, rfl, K1.trans K2 (by simp), B2⟩
abbrev I_tobs : Own.Inf := (⟨"java/lang/StringUTF16", "toBytes", "([CII)[B"⟩, jdk_52_method_14_code, 5, (Option.some (Jvm.ClassFile.FieldType.array Jvm.ClassFile.FieldType.byte)), { frames := 2, cells := 1, slots := 12, locals := 24 })
theorem d_tobs_0 : Own.D1 jdk_52_method_14_code 0 (.iload_n 2) 1 1 := ⟨by decide +kernel, rfl⟩
theorem d_tobs_1 : Own.D1 jdk_52_method_14_code 1 (.invokestatic 107) 3 4 := ⟨by decide +kernel, rfl⟩
theorem d_tobs_4 : Own.D1 jdk_52_method_14_code 4 (.astore_n 3) 1 5 := ⟨by decide +kernel, rfl⟩
theorem d_tobs_5 : Own.D1 jdk_52_method_14_code 5 (.iconst 0) 1 6 := ⟨by decide +kernel, rfl⟩
theorem d_tobs_6 : Own.D1 jdk_52_method_14_code 6 (.istore 4) 2 8 := ⟨by decide +kernel, rfl⟩
theorem d_tobs_8 : Own.D1 jdk_52_method_14_code 8 (.iload 4) 2 10 := ⟨by decide +kernel, rfl⟩
theorem d_tobs_10 : Own.D1 jdk_52_method_14_code 10 (.iload_n 2) 1 11 := ⟨by decide +kernel, rfl⟩
theorem d_tobs_11 : Own.DB jdk_52_method_14_code 11 (.if_icmp .ge 21) 3 (21) 14 32 := ⟨by decide +kernel, rfl, by decide, rfl⟩
theorem d_tobs_14 : Own.D1 jdk_52_method_14_code 14 (.aload_n 3) 1 15 := ⟨by decide +kernel, rfl⟩
theorem d_tobs_15 : Own.D1 jdk_52_method_14_code 15 (.iload 4) 2 17 := ⟨by decide +kernel, rfl⟩
theorem d_tobs_17 : Own.D1 jdk_52_method_14_code 17 (.aload_n 0) 1 18 := ⟨by decide +kernel, rfl⟩
theorem d_tobs_18 : Own.D1 jdk_52_method_14_code 18 (.iload_n 1) 1 19 := ⟨by decide +kernel, rfl⟩
theorem d_tobs_19 : Own.D1 jdk_52_method_14_code 19 .caload 1 20 := ⟨by decide +kernel, rfl⟩
theorem d_tobs_20 : Own.D1 jdk_52_method_14_code 20 (.invokestatic 111) 3 23 := ⟨by decide +kernel, rfl⟩
theorem d_tobs_23 : Own.D1 jdk_52_method_14_code 23 (.iinc 1 1) 3 26 := ⟨by decide +kernel, rfl⟩
theorem d_tobs_26 : Own.D1 jdk_52_method_14_code 26 (.iinc 4 1) 3 29 := ⟨by decide +kernel, rfl⟩
theorem d_tobs_29 : Own.DB jdk_52_method_14_code 29 (.goto (-21)) 3 (-21) 32 8 := ⟨by decide +kernel, rfl, by decide, rfl⟩
theorem d_tobs_32 : Own.D1 jdk_52_method_14_code 32 (.aload_n 3) 1 33 := ⟨by decide +kernel, rfl⟩
theorem d_tobs_33 : Own.D1 jdk_52_method_14_code 33 .areturn 1 34 := ⟨by decide +kernel, rfl⟩
theorem np_tobs : Own.npar "([CII)[B" = some 3 := by decide +kernel
set_option maxRecDepth 65536 in
set_option maxHeartbeats 40000000 in
theorem c_tobs {G : Own.Wd} {a0 : Array Value} (e : Ev G a0) {a : Addr} {cs : List Int32} {n : Nat} {h : Heap} (hA : Ary G.Z h a .char (cs.map Value.int)) (hn : n ≤ cs.length) (hcap : n ≤ 6) : Met G I_tobs #[(.ref a), (.int (n32 0)), (.int (n32 n))] h [] (Rt (fun x h' S' => ∃ t, x = .ref t ∧ h.size ≤ t ∧ S' = [t] ∧ Keep h h' [] ∧ Ary G.Z h' t .byte ((cs.take n).flatMap u16))) := by
  refine Met.intro (ls := #[.val (.ref a), .val (.int (n32 0)), .val (.int (n32 n)), .unset, .unset]) (plainFor_of_name pn_0) (fun m => by first | (simp [entryFrame, mkF, argsToLocals, Value.category, I_tobs]; done) | (simp [entryFrame, mkF, argsToLocals, Value.category]; rfl) | rfl) ?_
  intro K
  have hcs : cs.length < 2147483648 := by obtain ⟨c, -, e1, e2, -⟩ := hA; simpa using e2
  refine Ru.iloadN d_tobs_0 rfl ?_
  refine Ru.callS0 (J := I_nbf) (c_nbf e (n := n) (by omega)) d_tobs_1 (e.w 88 rfl) (e.w 89 rfl) (e.w 23 rfl) (e.w 90 rfl) (by decide) np_nbf rfl (argsL := [(.int (n32 n))]) (rest := []) rfl rfl (fun _ q => nomatch q) (Nat.le_of_ble_eq_true rfl) (Nat.le_of_ble_eq_true rfl) (Nat.le_of_ble_eq_true rfl) (Nat.le_of_ble_eq_true rfl) (WP.rt ?_)
  rintro _ h1 S1 ⟨t, rfl, gt, rfl, K1, T1⟩
  have hA1 := hA.keep K1 nin0; have hat : a ≠ t := hA1.ne T1 (by decide)
  refine Ru.astoreN d_tobs_4 rfl (ls' := #[.val (.ref a), .val (.int (n32 0)), .val (.int (n32 n)), .val (.ref t), .unset]) rfl ?_
  refine Ru.iconst (x := 0) d_tobs_5 rfl ?_
  refine WP.topI (show (0 : Int32) = (n32 0) from rfl) ?_
  refine Ru.istore d_tobs_6 (ls' := #[.val (.ref a), .val (.int (n32 0)), .val (.int (n32 n)), .val (.ref t), .val (.int (n32 0))]) rfl ?_
  have loop : ∀ (d i : Nat) (h2 : Heap), i + d = n → Keep h1 h2 [t] → Ary G.Z h2 t .byte ((cs.take i).flatMap u16 ++ (List.replicate (2 * n) (defaultValue .byte)).drop (2 * i)) → WP G I_tobs (Rt (fun x h' S' => ∃ t, x = .ref t ∧ h.size ≤ t ∧ S' = [t] ∧ Keep h h' [] ∧ Ary G.Z h' t .byte ((cs.take n).flatMap u16))) K ([t] ++ []) h2 (0 + I_nbf.R.cells) (0 + I_nbf.R.slots) 8 #[.val (.ref a), .val (.int (n32 i)), .val (.int (n32 n)), .val (.ref t), .val (.int (n32 i))] [] := by
    intro d
    induction d with
    | zero =>
      intro i h2 hi K2 T2
      obtain rfl : i = n := by omega
      refine Ru.iload d_tobs_8 rfl ?_
      refine Ru.iloadN d_tobs_10 rfl ?_
      refine Ru.icmpY d_tobs_11 (show ¬ (n32 i) < (n32 i) from (by simp)) ?_
      refine Ru.aloadN d_tobs_32 rfl rfl ?_
      exact Ru.areturn (t := (.array .byte)) d_tobs_33 rfl rfl rfl rfl [t] (by simp) (Nat.le_of_ble_eq_true rfl) (Nat.le_of_ble_eq_true rfl) ⟨_, rfl, t, rfl, gt, rfl, ((K1.trans K2 (by simp; omega))), by simpa using T2⟩
    | succ d ih =>
      intro i h2 hi K2 T2
      have hin : i < n := by omega
      have hic : i < cs.length := by omega
      obtain ⟨c, hc⟩ : ∃ c, cs[i]? = some c := ⟨_, List.getElem?_eq_getElem hic⟩
      have hA2 := hA1.keep K2 (ninS hat nin0)
      refine Ru.iload d_tobs_8 rfl ?_
      refine Ru.iloadN d_tobs_10 rfl ?_
      refine Ru.icmpN d_tobs_11 (show (n32 i) < (n32 n) from ((n32_lt (by omega) (by omega)).mpr hin)) ?_
      refine Ru.aloadN d_tobs_14 rfl rfl ?_
      refine Ru.iload d_tobs_15 rfl ?_
      refine Ru.aloadN d_tobs_17 rfl rfl ?_
      refine Ru.iloadN d_tobs_18 rfl ?_
      refine Ru.caload (v := (.int c)) d_tobs_19 hA2 (n32_nn (by omega)) (by rw [n32_cl (by omega)]; simp [hc]) ?_
      refine Ru.callS0 (J := I_putc) (c_putc e (c := c) (i := i) T2 (by rw [List.length_append, u16_len, List.length_drop, List.length_replicate, List.length_take]; omega)) d_tobs_20 (e.w 95 rfl) (e.w 96 rfl) (e.w 23 rfl) (e.w 97 rfl) (by decide) np_putc rfl (argsL := [(.ref t), (.int (n32 i)), (.int c)]) (rest := []) rfl rfl (by simp) (Nat.le_of_ble_eq_true rfl) (Nat.le_of_ble_eq_true rfl) (Nat.le_of_ble_eq_true rfl) (Nat.le_of_ble_eq_true rfl) (WP.rv ?_)
      rintro h3 S3 ⟨rfl, K3, T3⟩
      rw [set2 hc (by simp; omega)] at T3
      refine Ru.iinc (y := (1 : Int32)) d_tobs_23 rfl rfl (ls' := #[.val (.ref a), .val (.int ((n32 i) + (1 : Int32))), .val (.int (n32 n)), .val (.ref t), .val (.int (n32 i))]) rfl ?_
      refine Ru.iinc (y := (1 : Int32)) d_tobs_26 rfl rfl (ls' := #[.val (.ref a), .val (.int ((n32 i) + (1 : Int32))), .val (.int (n32 n)), .val (.ref t), .val (.int ((n32 i) + (1 : Int32)))]) rfl ?_
      refine Ru.goto d_tobs_29 ?_
      rw [n32_succ]
      exact ih (i + 1) h3 (by omega) (K2.trans K3 (by simp)) T3
  exact loop n 0 h1 (by omega) (Keep.refl _ _) (by simpa using T1)
abbrev I_getc : Own.Inf := (⟨"java/lang/StringUTF16", "getChar", "([BI)C"⟩, jdk_52_method_5_code, 2, (Option.some Jvm.ClassFile.FieldType.char), { frames := 0, cells := 0, slots := 0, locals := 0 })
theorem d_getc_0 : Own.D1 jdk_52_method_5_code 0 (.getstatic 44) 3 3 := ⟨by decide +kernel, rfl⟩
theorem d_getc_3 : Own.DB jdk_52_method_5_code 3 (.ifCond .ne 25) 3 (25) 6 28 := ⟨by decide +kernel, rfl, by decide, rfl⟩
theorem d_getc_6 : Own.D1 jdk_52_method_5_code 6 (.iload_n 1) 1 7 := ⟨by decide +kernel, rfl⟩
theorem d_getc_7 : Own.DB jdk_52_method_5_code 7 (.ifCond .lt 11) 3 (11) 10 18 := ⟨by decide +kernel, rfl, by decide, rfl⟩
theorem d_getc_10 : Own.D1 jdk_52_method_5_code 10 (.iload_n 1) 1 11 := ⟨by decide +kernel, rfl⟩
theorem d_getc_11 : Own.D1 jdk_52_method_5_code 11 (.aload_n 0) 1 12 := ⟨by decide +kernel, rfl⟩
theorem d_getc_12 : Own.D1 jdk_52_method_5_code 12 (.invokestatic 48) 3 15 := ⟨by decide +kernel, rfl⟩
theorem d_getc_15 : Own.DB jdk_52_method_5_code 15 (.if_icmp .lt 13) 3 (13) 18 28 := ⟨by decide +kernel, rfl, by decide, rfl⟩
theorem d_getc_18 : Own.D1 jdk_52_method_5_code 18 (.new 52) 3 21 := ⟨by decide +kernel, rfl⟩
theorem d_getc_21 : Own.D1 jdk_52_method_5_code 21 .dup 1 22 := ⟨by decide +kernel, rfl⟩
theorem d_getc_22 : Own.D1 jdk_52_method_5_code 22 (.ldc 54) 2 24 := ⟨by decide +kernel, rfl⟩
theorem d_getc_24 : Own.D1 jdk_52_method_5_code 24 (.invokespecial 56) 3 27 := ⟨by decide +kernel, rfl⟩
theorem d_getc_27 : Own.D1 jdk_52_method_5_code 27 .athrow 1 28 := ⟨by decide +kernel, rfl⟩
theorem d_getc_28 : Own.D1 jdk_52_method_5_code 28 (.iload_n 1) 1 29 := ⟨by decide +kernel, rfl⟩
theorem d_getc_29 : Own.D1 jdk_52_method_5_code 29 (.iconst 1) 1 30 := ⟨by decide +kernel, rfl⟩
theorem d_getc_30 : Own.D1 jdk_52_method_5_code 30 .ishl 1 31 := ⟨by decide +kernel, rfl⟩
theorem d_getc_31 : Own.D1 jdk_52_method_5_code 31 (.istore_n 1) 1 32 := ⟨by decide +kernel, rfl⟩
theorem d_getc_32 : Own.D1 jdk_52_method_5_code 32 (.aload_n 0) 1 33 := ⟨by decide +kernel, rfl⟩
theorem d_getc_33 : Own.D1 jdk_52_method_5_code 33 (.iload_n 1) 1 34 := ⟨by decide +kernel, rfl⟩
theorem d_getc_34 : Own.D1 jdk_52_method_5_code 34 (.iinc 1 1) 3 37 := ⟨by decide +kernel, rfl⟩
theorem d_getc_37 : Own.D1 jdk_52_method_5_code 37 .baload 1 38 := ⟨by decide +kernel, rfl⟩
theorem d_getc_38 : Own.D1 jdk_52_method_5_code 38 (.sipush 255) 3 41 := ⟨by decide +kernel, rfl⟩
theorem d_getc_41 : Own.D1 jdk_52_method_5_code 41 .iand 1 42 := ⟨by decide +kernel, rfl⟩
theorem d_getc_42 : Own.D1 jdk_52_method_5_code 42 (.getstatic 59) 3 45 := ⟨by decide +kernel, rfl⟩
theorem d_getc_45 : Own.D1 jdk_52_method_5_code 45 .ishl 1 46 := ⟨by decide +kernel, rfl⟩
theorem d_getc_46 : Own.D1 jdk_52_method_5_code 46 (.aload_n 0) 1 47 := ⟨by decide +kernel, rfl⟩
theorem d_getc_47 : Own.D1 jdk_52_method_5_code 47 (.iload_n 1) 1 48 := ⟨by decide +kernel, rfl⟩
theorem d_getc_48 : Own.D1 jdk_52_method_5_code 48 .baload 1 49 := ⟨by decide +kernel, rfl⟩
theorem d_getc_49 : Own.D1 jdk_52_method_5_code 49 (.sipush 255) 3 52 := ⟨by decide +kernel, rfl⟩
theorem d_getc_52 : Own.D1 jdk_52_method_5_code 52 .iand 1 53 := ⟨by decide +kernel, rfl⟩
theorem d_getc_53 : Own.D1 jdk_52_method_5_code 53 (.getstatic 63) 3 56 := ⟨by decide +kernel, rfl⟩
theorem d_getc_56 : Own.D1 jdk_52_method_5_code 56 .ishl 1 57 := ⟨by decide +kernel, rfl⟩
theorem d_getc_57 : Own.D1 jdk_52_method_5_code 57 .ior 1 58 := ⟨by decide +kernel, rfl⟩
theorem d_getc_58 : Own.D1 jdk_52_method_5_code 58 .i2c 1 59 := ⟨by decide +kernel, rfl⟩
theorem d_getc_59 : Own.D1 jdk_52_method_5_code 59 .ireturn 1 60 := ⟨by decide +kernel, rfl⟩
theorem np_getc : Own.npar "([BI)C" = some 2 := by decide +kernel
set_option maxRecDepth 65536 in
set_option maxHeartbeats 40000000 in
theorem c_getc {G : Own.Wd} {a0 : Array Value} (e : Ev G a0) {b : Addr} {cs : List Int32} {i : Nat} {c : Int32} {h : Heap} (hB : Ary G.Z h b .byte (cs.flatMap u16)) (hc : cs[i]? = some c) (hC : IsC c) : Met G I_getc #[(.ref b), (.int (n32 i))] h [] (Rt (fun x h' S' => S' = [] ∧ h' = h ∧ x = .int c)) := by
  refine Met.intro (ls := #[.val (.ref b), .val (.int (n32 i))]) (plainFor_of_name pn_0) (fun m => by first | (simp [entryFrame, mkF, argsToLocals, Value.category, I_getc]; done) | (simp [entryFrame, mkF, argsToLocals, Value.category]; rfl) | rfl) ?_
  intro K
  have hvl : 2 * cs.length < 2147483648 := by obtain ⟨c, -, e1, e2, -⟩ := hB; rw [u16_len] at e2; exact e2
  have hi : i < cs.length := (List.getElem?_eq_some_iff.mp hc).1
  obtain ⟨u1, u2⟩ := u16_at hc
  refine Ru.getstatic d_getc_0 (e.w 98 rfl) e.ad ?_
  refine Ru.ifY d_getc_3 (show ¬ (1 : Int32) = (0 : Int32) from (by decide)) ?_
  refine Ru.iloadN d_getc_28 rfl ?_
  refine Ru.iconst (x := 1) d_getc_29 rfl ?_
  refine Ru.ishl d_getc_30 ?_
  refine WP.topI (show ((n32 i) <<< ((1 : Int32) &&& 31)) = (n32 (2 * i)) from (n32_shl1 (by omega))) ?_
  refine Ru.istoreN d_getc_31 (ls' := #[.val (.ref b), .val (.int (n32 (2 * i)))]) rfl ?_
  refine Ru.aloadN d_getc_32 rfl rfl ?_
  refine Ru.iloadN d_getc_33 rfl ?_
  refine Ru.iinc (y := (1 : Int32)) d_getc_34 rfl rfl (ls' := #[.val (.ref b), .val (.int ((n32 (2 * i)) + (1 : Int32)))]) rfl ?_
  refine Ru.baload (v := (.int c.toInt8.toInt32)) d_getc_37 hB (n32_nn (by omega)) (by rw [n32_cl (by omega)]; exact u1) ?_
  refine Ru.sipush (x := 255) d_getc_38 rfl ?_
  refine Ru.iand d_getc_41 ?_
  refine Ru.getstatic d_getc_42 (e.w 99 rfl) e.hi ?_
  refine Ru.ishl d_getc_45 ?_
  refine Ru.aloadN d_getc_46 rfl rfl ?_
  refine Ru.iloadN d_getc_47 rfl ?_
  refine WP.topI (show ((n32 (2 * i)) + (1 : Int32)) = (n32 (2 * i + 1)) from (n32_succ _)) ?_
  refine Ru.baload (v := (.int ((c >>> ((8 : Int32) &&& 31)).toInt8.toInt32))) d_getc_48 hB (n32_nn (by omega)) (by rw [n32_cl (by omega)]; exact u2) ?_
  refine Ru.sipush (x := 255) d_getc_49 rfl ?_
  refine Ru.iand d_getc_52 ?_
  refine Ru.getstatic d_getc_53 (e.w 100 rfl) e.lo ?_
  refine Ru.ishl d_getc_56 ?_
  refine Ru.ior d_getc_57 ?_
  refine Ru.i2c d_getc_58 ?_
  exact Ru.ireturnN (t := .char) d_getc_59 rfl (by simp) (getc hC) [] (fun _ q => nomatch q) (Nat.le_of_ble_eq_true rfl) (Nat.le_of_ble_eq_true rfl) ⟨_, rfl, rfl, rfl, rfl⟩
abbrev I_comp1 : Own.Inf := (⟨"java/lang/StringUTF16", "compress", "([CII)[B"⟩, jdk_52_method_16_code, 6, (Option.some (Jvm.ClassFile.FieldType.array Jvm.ClassFile.FieldType.byte)), { frames := 3, cells := 2, slots := 18, locals := 40 })
theorem d_comp1_0 : Own.D1 jdk_52_method_16_code 0 (.iload_n 2) 1 1 := ⟨by decide +kernel, rfl⟩
theorem d_comp1_1 : Own.D1 jdk_52_method_16_code 1 (.newarray .byte) 2 3 := ⟨by decide +kernel, rfl⟩
theorem d_comp1_3 : Own.D1 jdk_52_method_16_code 3 (.astore_n 3) 1 4 := ⟨by decide +kernel, rfl⟩
theorem d_comp1_4 : Own.D1 jdk_52_method_16_code 4 (.aload_n 0) 1 5 := ⟨by decide +kernel, rfl⟩
theorem d_comp1_5 : Own.D1 jdk_52_method_16_code 5 (.iload_n 1) 1 6 := ⟨by decide +kernel, rfl⟩
theorem d_comp1_6 : Own.D1 jdk_52_method_16_code 6 (.aload_n 3) 1 7 := ⟨by decide +kernel, rfl⟩
theorem d_comp1_7 : Own.D1 jdk_52_method_16_code 7 (.iconst 0) 1 8 := ⟨by decide +kernel, rfl⟩
theorem d_comp1_8 : Own.D1 jdk_52_method_16_code 8 (.iload_n 2) 1 9 := ⟨by decide +kernel, rfl⟩
theorem d_comp1_9 : Own.D1 jdk_52_method_16_code 9 (.invokestatic 115) 3 12 := ⟨by decide +kernel, rfl⟩
theorem d_comp1_12 : Own.D1 jdk_52_method_16_code 12 (.istore 4) 2 14 := ⟨by decide +kernel, rfl⟩
theorem d_comp1_14 : Own.D1 jdk_52_method_16_code 14 (.iload 4) 2 16 := ⟨by decide +kernel, rfl⟩
theorem d_comp1_16 : Own.D1 jdk_52_method_16_code 16 (.iload_n 2) 1 17 := ⟨by decide +kernel, rfl⟩
theorem d_comp1_17 : Own.DB jdk_52_method_16_code 17 (.if_icmp .eq 40) 3 (40) 20 57 := ⟨by decide +kernel, rfl, by decide, rfl⟩
theorem d_comp1_20 : Own.D1 jdk_52_method_16_code 20 (.aload_n 0) 1 21 := ⟨by decide +kernel, rfl⟩
theorem d_comp1_21 : Own.D1 jdk_52_method_16_code 21 (.iload_n 1) 1 22 := ⟨by decide +kernel, rfl⟩
theorem d_comp1_22 : Own.D1 jdk_52_method_16_code 22 (.iload_n 2) 1 23 := ⟨by decide +kernel, rfl⟩
theorem d_comp1_23 : Own.D1 jdk_52_method_16_code 23 (.invokestatic 119) 3 26 := ⟨by decide +kernel, rfl⟩
theorem d_comp1_26 : Own.D1 jdk_52_method_16_code 26 (.astore 5) 2 28 := ⟨by decide +kernel, rfl⟩
theorem d_comp1_28 : Own.D1 jdk_52_method_16_code 28 (.aload 5) 2 30 := ⟨by decide +kernel, rfl⟩
theorem d_comp1_30 : Own.D1 jdk_52_method_16_code 30 (.iload 4) 2 32 := ⟨by decide +kernel, rfl⟩
theorem d_comp1_32 : Own.D1 jdk_52_method_16_code 32 (.invokestatic 71) 3 35 := ⟨by decide +kernel, rfl⟩
theorem d_comp1_35 : Own.D1 jdk_52_method_16_code 35 (.sipush 255) 3 38 := ⟨by decide +kernel, rfl⟩
theorem d_comp1_38 : Own.DB jdk_52_method_16_code 38 (.if_icmp .gt 16) 3 (16) 41 54 := ⟨by decide +kernel, rfl, by decide, rfl⟩
theorem d_comp1_41 : Own.D1 jdk_52_method_16_code 41 (.aload 5) 2 43 := ⟨by decide +kernel, rfl⟩
theorem d_comp1_43 : Own.D1 jdk_52_method_16_code 43 (.iconst 0) 1 44 := ⟨by decide +kernel, rfl⟩
theorem d_comp1_44 : Own.D1 jdk_52_method_16_code 44 (.aload_n 3) 1 45 := ⟨by decide +kernel, rfl⟩
theorem d_comp1_45 : Own.D1 jdk_52_method_16_code 45 (.iconst 0) 1 46 := ⟨by decide +kernel, rfl⟩
theorem d_comp1_46 : Own.D1 jdk_52_method_16_code 46 (.iload_n 2) 1 47 := ⟨by decide +kernel, rfl⟩
theorem d_comp1_47 : Own.D1 jdk_52_method_16_code 47 (.invokestatic 123) 3 50 := ⟨by decide +kernel, rfl⟩
theorem d_comp1_50 : Own.D1 jdk_52_method_16_code 50 (.iload_n 2) 1 51 := ⟨by decide +kernel, rfl⟩
theorem d_comp1_51 : Own.DB jdk_52_method_16_code 51 (.if_icmp .eq 6) 3 (6) 54 57 := ⟨by decide +kernel, rfl, by decide, rfl⟩
theorem d_comp1_54 : Own.D1 jdk_52_method_16_code 54 (.aload 5) 2 56 := ⟨by decide +kernel, rfl⟩
theorem d_comp1_56 : Own.D1 jdk_52_method_16_code 56 .areturn 1 57 := ⟨by decide +kernel, rfl⟩
theorem d_comp1_57 : Own.D1 jdk_52_method_16_code 57 (.aload_n 3) 1 58 := ⟨by decide +kernel, rfl⟩
theorem d_comp1_58 : Own.D1 jdk_52_method_16_code 58 .areturn 1 59 := ⟨by decide +kernel, rfl⟩
theorem np_comp1 : Own.npar "([CII)[B" = some 3 := by decide +kernel
set_option maxRecDepth 65536 in
set_option maxHeartbeats 40000000 in
theorem c_comp1 {G : Own.Wd} {a0 : Array Value} (e : Ev G a0) {a : Addr} {cs : List Int32} {n : Nat} {h : Heap} (hA : Ary G.Z h a .char (cs.map Value.int)) (hC : ∀ c ∈ cs, IsC c) (hn : n ≤ cs.length) (hcap : n ≤ 6) : Met G I_comp1 #[(.ref a), (.int (n32 0)), (.int (n32 n))] h [] (Rt (fun x h' S' => ∃ t, x = .ref t ∧ h.size ≤ t ∧ S' = [t] ∧ Keep h h' [] ∧ (((∀ c ∈ cs.take n, IsL c) ∧ Ary G.Z h' t .byte ((cs.take n).map lat)) ∨ ((∃ c ∈ cs.take n, (255 : Int32) < c) ∧ Ary G.Z h' t .byte ((cs.take n).flatMap u16))))) := by
  refine Met.intro (ls := #[.val (.ref a), .val (.int (n32 0)), .val (.int (n32 n)), .unset, .unset, .unset]) (plainFor_of_name pn_0) (fun m => by first | (simp [entryFrame, mkF, argsToLocals, Value.category, I_comp1]; done) | (simp [entryFrame, mkF, argsToLocals, Value.category]; rfl) | rfl) ?_
  intro K
  have hcs : cs.length < 2147483648 := by obtain ⟨c, -, e1, e2, -⟩ := hA; simpa using e2
  refine Ru.iloadN d_comp1_0 rfl ?_
  refine Ru.newarray (cap := 6) d_comp1_1 (ty := .byte) rfl (e.w 25 rfl) rfl (n32_nn (by omega)) (by rw [n32_cl (by omega)]; exact hcap) (Nat.le_of_ble_eq_true rfl) (Nat.le_of_ble_eq_true rfl) (Nat.le_of_ble_eq_true rfl) ?_
  intro h1 t gt E1 T1
  rw [n32_cl (by omega)] at T1
  have hA1 := hA.ext E1
  refine Ru.astoreN d_comp1_3 rfl (ls' := #[.val (.ref a), .val (.int (n32 0)), .val (.int (n32 n)), .val (.ref t), .unset, .unset]) rfl ?_
  refine Ru.aloadN d_comp1_4 rfl rfl ?_
  refine Ru.iloadN d_comp1_5 rfl ?_
  refine Ru.aloadN d_comp1_6 rfl rfl ?_
  refine Ru.iconst (x := 0) d_comp1_7 rfl ?_
  refine WP.topI (show (0 : Int32) = (n32 0) from rfl) ?_
  refine Ru.iloadN d_comp1_8 rfl ?_
  refine Ru.callS0 (J := I_comp2) (c_comp2 e (n := n) hA1 hC T1 hn (by simp)) d_comp1_9 (e.w 26 rfl) (e.w 27 rfl) (e.w 23 rfl) (e.w 28 rfl) (by decide) np_comp2 rfl (argsL := [(.ref a), (.int (n32 0)), (.ref t), (.int (n32 0)), (.int (n32 n))]) (rest := []) rfl rfl (by simp) (Nat.le_of_ble_eq_true rfl) (Nat.le_of_ble_eq_true rfl) (Nat.le_of_ble_eq_true rfl) (Nat.le_of_ble_eq_true rfl) (WP.rt ?_)
  rintro _ h2 S2 ⟨rfl, r, hr, rfl, hL2, hr2, K2, T2⟩
  refine Ru.istore d_comp1_12 (ls' := #[.val (.ref a), .val (.int (n32 0)), .val (.int (n32 n)), .val (.ref t), .val (.int (n32 r)), .unset]) rfl ?_
  refine Ru.iload d_comp1_14 rfl ?_
  refine Ru.iloadN d_comp1_16 rfl ?_
  by_cases q : n = r
  · subst q
    refine Ru.icmpY d_comp1_17 (show (n32 n) = (n32 n) from rfl) ?_
    refine Ru.aloadN d_comp1_57 rfl rfl ?_
    have T3 : Ary G.Z h2 t .byte ((cs.take n).map lat) := by simpa using T2
    exact Ru.areturn (t := (.array .byte)) d_comp1_58 rfl rfl rfl rfl [t] (by simp) (Nat.le_of_ble_eq_true rfl) (Nat.le_of_ble_eq_true rfl) ⟨_, rfl, t, rfl, by omega, rfl, ((keepE E1).trans K2 (by simp; omega)), Or.inl ⟨hL2, T3⟩⟩
  · have hrn : r < n := by omega
    obtain ⟨c, hc, hc2⟩ := hr2 hrn
    refine Ru.icmpN d_comp1_17 (show ¬ (n32 r) = (n32 n) from (fun z => q ((n32_eq (by omega) (by omega)).mp z).symm)) ?_
    refine Ru.aloadN d_comp1_20 rfl rfl ?_
    refine Ru.iloadN d_comp1_21 rfl ?_
    refine Ru.iloadN d_comp1_22 rfl ?_
    have hat : a ≠ t := hA1.ne T1 (by decide)
    have hA2 := hA1.keep K2 (ninS hat nin0)
    refine Ru.callS0 (J := I_tobs) (c_tobs e (n := n) hA2 hn hcap) d_comp1_23 (e.w 85 rfl) (e.w 86 rfl) (e.w 23 rfl) (e.w 87 rfl) (by decide) np_tobs rfl (argsL := [(.ref a), (.int (n32 0)), (.int (n32 n))]) (rest := []) rfl rfl (fun _ q => nomatch q) (Nat.le_of_ble_eq_true rfl) (Nat.le_of_ble_eq_true rfl) (Nat.le_of_ble_eq_true rfl) (Nat.le_of_ble_eq_true rfl) (WP.rt ?_)
    rintro _ h3 S3 ⟨b, rfl, gb, rfl, K3, B3⟩
    refine Ru.astore d_comp1_26 rfl (ls' := #[.val (.ref a), .val (.int (n32 0)), .val (.int (n32 n)), .val (.ref t), .val (.int (n32 r)), .val (.ref b)]) rfl ?_
    refine Ru.aload d_comp1_28 rfl rfl ?_
    refine Ru.iload d_comp1_30 rfl ?_
    refine Ru.callS0 (J := I_getc) (c_getc e B3 (take_get hc hrn) (hC c (List.mem_of_getElem? hc))) d_comp1_32 (e.w 101 rfl) (e.w 102 rfl) (e.w 23 rfl) (e.w 103 rfl) (by decide) np_getc rfl (argsL := [(.ref b), (.int (n32 r))]) (rest := []) rfl rfl (fun _ q => nomatch q) (Nat.le_of_ble_eq_true rfl) (Nat.le_of_ble_eq_true rfl) (Nat.le_of_ble_eq_true rfl) (Nat.le_of_ble_eq_true rfl) (WP.rt ?_)
    rintro _ _ S4 ⟨rfl, rfl, rfl⟩
    refine Ru.sipush (x := 255) d_comp1_35 rfl ?_
    refine Ru.icmpY d_comp1_38 (show (255 : Int32) < c from hc2) ?_
    refine Ru.aload d_comp1_54 rfl rfl ?_
    have g3 := K2.1; have g1 := E1.1
    exact Ru.areturn (t := (.array .byte)) d_comp1_56 rfl rfl rfl rfl [b] (by simp) (Nat.le_of_ble_eq_true rfl) (Nat.le_of_ble_eq_true rfl) ⟨_, rfl, b, rfl, by omega, rfl, (((keepE E1).trans K2 (by simp; omega)).trans K3 (by simp)), Or.inr ⟨⟨c, List.mem_of_getElem? (take_get hc hrn), hc2⟩, B3⟩⟩
abbrev I_si4 : Own.Inf := (⟨"java/lang/String", "<init>", "([CIILjava/lang/Void;)V"⟩, jdk_42_method_149_code, 6, (Option.none : Option Jvm.ClassFile.FieldType), { frames := 4, cells := 2, slots := 18, locals := 57 })
theorem d_si4_0 : Own.D1 jdk_42_method_149_code 0 (.aload_n 0) 1 1 := ⟨by decide +kernel, rfl⟩
theorem d_si4_1 : Own.D1 jdk_42_method_149_code 1 (.invokespecial 1) 3 4 := ⟨by decide +kernel, rfl⟩
theorem d_si4_4 : Own.D1 jdk_42_method_149_code 4 (.iload_n 3) 1 5 := ⟨by decide +kernel, rfl⟩
theorem d_si4_5 : Own.DB jdk_42_method_149_code 5 (.ifCond .ne 22) 3 (22) 8 27 := ⟨by decide +kernel, rfl, by decide, rfl⟩
theorem d_si4_8 : Own.D1 jdk_42_method_149_code 8 (.aload_n 0) 1 9 := ⟨by decide +kernel, rfl⟩
theorem d_si4_9 : Own.D1 jdk_42_method_149_code 9 (.ldc 7) 2 11 := ⟨by decide +kernel, rfl⟩
theorem d_si4_11 : Own.D1 jdk_42_method_149_code 11 (.getfield 9) 3 14 := ⟨by decide +kernel, rfl⟩
theorem d_si4_14 : Own.D1 jdk_42_method_149_code 14 (.putfield 9) 3 17 := ⟨by decide +kernel, rfl⟩
theorem d_si4_17 : Own.D1 jdk_42_method_149_code 17 (.aload_n 0) 1 18 := ⟨by decide +kernel, rfl⟩
theorem d_si4_18 : Own.D1 jdk_42_method_149_code 18 (.ldc 7) 2 20 := ⟨by decide +kernel, rfl⟩
theorem d_si4_20 : Own.D1 jdk_42_method_149_code 20 (.getfield 15) 3 23 := ⟨by decide +kernel, rfl⟩
theorem d_si4_23 : Own.D1 jdk_42_method_149_code 23 (.putfield 15) 3 26 := ⟨by decide +kernel, rfl⟩
theorem d_si4_26 : Own.D1 jdk_42_method_149_code 26 .return_ 1 27 := ⟨by decide +kernel, rfl⟩
theorem d_si4_27 : Own.D1 jdk_42_method_149_code 27 (.getstatic 38) 3 30 := ⟨by decide +kernel, rfl⟩
theorem d_si4_30 : Own.DB jdk_42_method_149_code 30 (.ifCond .eq 28) 3 (28) 33 58 := ⟨by decide +kernel, rfl, by decide, rfl⟩
theorem d_si4_33 : Own.D1 jdk_42_method_149_code 33 (.aload_n 1) 1 34 := ⟨by decide +kernel, rfl⟩
theorem d_si4_34 : Own.D1 jdk_42_method_149_code 34 (.iload_n 2) 1 35 := ⟨by decide +kernel, rfl⟩
theorem d_si4_35 : Own.D1 jdk_42_method_149_code 35 (.iload_n 3) 1 36 := ⟨by decide +kernel, rfl⟩
theorem d_si4_36 : Own.D1 jdk_42_method_149_code 36 (.invokestatic 177) 3 39 := ⟨by decide +kernel, rfl⟩
theorem d_si4_39 : Own.D1 jdk_42_method_149_code 39 (.astore 5) 2 41 := ⟨by decide +kernel, rfl⟩
theorem d_si4_41 : Own.D1 jdk_42_method_149_code 41 (.aload_n 0) 1 42 := ⟨by decide +kernel, rfl⟩
theorem d_si4_42 : Own.D1 jdk_42_method_149_code 42 (.aload 5) 2 44 := ⟨by decide +kernel, rfl⟩
theorem d_si4_44 : Own.D1 jdk_42_method_149_code 44 (.iload_n 3) 1 45 := ⟨by decide +kernel, rfl⟩
theorem d_si4_45 : Own.D1 jdk_42_method_149_code 45 (.invokestatic 47) 3 48 := ⟨by decide +kernel, rfl⟩
theorem d_si4_48 : Own.D1 jdk_42_method_149_code 48 (.putfield 15) 3 51 := ⟨by decide +kernel, rfl⟩
theorem d_si4_51 : Own.D1 jdk_42_method_149_code 51 (.aload_n 0) 1 52 := ⟨by decide +kernel, rfl⟩
theorem d_si4_52 : Own.D1 jdk_42_method_149_code 52 (.aload 5) 2 54 := ⟨by decide +kernel, rfl⟩
theorem d_si4_54 : Own.D1 jdk_42_method_149_code 54 (.putfield 9) 3 57 := ⟨by decide +kernel, rfl⟩
theorem d_si4_57 : Own.D1 jdk_42_method_149_code 57 .return_ 1 58 := ⟨by decide +kernel, rfl⟩
theorem d_si4_58 : Own.D1 jdk_42_method_149_code 58 (.aload_n 0) 1 59 := ⟨by decide +kernel, rfl⟩
theorem d_si4_59 : Own.D1 jdk_42_method_149_code 59 (.iconst 1) 1 60 := ⟨by decide +kernel, rfl⟩
theorem d_si4_60 : Own.D1 jdk_42_method_149_code 60 (.putfield 15) 3 63 := ⟨by decide +kernel, rfl⟩
theorem d_si4_63 : Own.D1 jdk_42_method_149_code 63 (.aload_n 0) 1 64 := ⟨by decide +kernel, rfl⟩
theorem d_si4_64 : Own.D1 jdk_42_method_149_code 64 (.aload_n 1) 1 65 := ⟨by decide +kernel, rfl⟩
theorem d_si4_65 : Own.D1 jdk_42_method_149_code 65 (.iload_n 2) 1 66 := ⟨by decide +kernel, rfl⟩
theorem d_si4_66 : Own.D1 jdk_42_method_149_code 66 (.iload_n 3) 1 67 := ⟨by decide +kernel, rfl⟩
theorem d_si4_67 : Own.D1 jdk_42_method_149_code 67 (.invokestatic 180) 3 70 := ⟨by decide +kernel, rfl⟩
theorem d_si4_70 : Own.D1 jdk_42_method_149_code 70 (.putfield 9) 3 73 := ⟨by decide +kernel, rfl⟩
theorem d_si4_73 : Own.D1 jdk_42_method_149_code 73 .return_ 1 74 := ⟨by decide +kernel, rfl⟩
theorem pn_1 : plainName "java/lang/String" = true := by first | (simp [plainName, overriddenIn]; done) | decide +kernel
theorem np_si4 : Own.npar "([CIILjava/lang/Void;)V" = some 4 := by decide +kernel
set_option maxRecDepth 65536 in
set_option maxHeartbeats 40000000 in
theorem c_si4 {G : Own.Wd} {a0 : Array Value} (e : Ev G a0) {a b : Addr} {cs : List Int32} {n : Nat} {v0 : Value} {c0 : Int32} {h : Heap} (E0 : Exa G.Z h a "java/lang/String") (Fv : Fld G.Z h a "java/lang/String" "value" "[B" v0) (Fc : Fld G.Z h a "java/lang/String" "coder" "B" (.int c0)) (hA : Ary G.Z h b .char (cs.map Value.int)) (hC : ∀ c ∈ cs, IsC c) (hn : n ≤ cs.length) (h0 : 0 < n) (hcap : n ≤ 6) : Met G I_si4 #[(.ref a), (.ref b), (.int (n32 0)), (.int (n32 n)), .null] h [a] (Rv (fun h' S' => S' = [] ∧ ∃ t, Keep h h' [a] ∧ Str G.Z h' a t (cs.take n))) := by
  refine Met.intro (ls := #[.val (.ref a), .val (.ref b), .val (.int (n32 0)), .val (.int (n32 n)), .val .null, .unset]) (plainFor_of_name pn_1) (fun m => by first | (simp [entryFrame, mkF, argsToLocals, Value.category, I_si4]; done) | (simp [entryFrame, mkF, argsToLocals, Value.category]; rfl) | rfl) ?_
  intro K
  have hcs : cs.length < 2147483648 := by obtain ⟨c, -, e1, e2, -⟩ := hA; simpa using e2
  obtain ⟨cz, hcz, hz⟩ := e.cz
  have hne : Jvm.RoadKit.slotOf G.Z "java/lang/String" "coder" "B" ≠ Jvm.RoadKit.slotOf G.Z "java/lang/String" "value" "[B" := slot_ne (Or.inr (e.w 33 rfl)) (Or.inr (e.w 35 rfl)) (by decide) (t := .byte) (by decide) (t' := .array .byte) (by decide)
  refine Ru.aloadN d_si4_0 rfl rfl ?_
  refine Ru.initO d_si4_1 (e.w 17 rfl) (e.w 18 rfl) (e.w 19 rfl) rfl (Nat.le_of_ble_eq_true rfl) (Nat.le_of_ble_eq_true rfl) ?_
  refine Ru.iloadN d_si4_4 rfl ?_
  refine Ru.ifY d_si4_5 (show ¬ (n32 n) = (0 : Int32) from (fun q => by have := (n32_eq (n := n) (m := 0) (by omega) (by omega)).mp q; omega)) ?_
  refine Ru.getstatic d_si4_27 (e.w 20 rfl) hcz ?_
  refine Ru.ifN d_si4_30 (show ¬ cz = (0 : Int32) from hz) ?_
  refine Ru.aloadN d_si4_33 rfl rfl ?_
  refine Ru.iloadN d_si4_34 rfl ?_
  refine Ru.iloadN d_si4_35 rfl ?_
  refine Ru.callS0 (J := I_comp1) (c_comp1 e (n := n) hA hC hn hcap) d_si4_36 (e.w 21 rfl) (e.w 22 rfl) (e.w 23 rfl) (e.w 24 rfl) (by decide) np_comp1 rfl (argsL := [(.ref b), (.int (n32 0)), (.int (n32 n))]) (rest := []) rfl rfl (fun _ q => nomatch q) (Nat.le_of_ble_eq_true rfl) (Nat.le_of_ble_eq_true rfl) (Nat.le_of_ble_eq_true rfl) (Nat.le_of_ble_eq_true rfl) (WP.rt ?_)
  rintro _ h1 S1 ⟨t, rfl, gt, rfl, K1, T1⟩
  have at_ := E0.lt; have hta : t ≠ a := Nat.ne_of_gt (Nat.lt_of_lt_of_le at_ gt)
  have F1 := Fv.keep K1 nin0; have F2 := Fc.keep K1 nin0; have E1 := E0.keep K1
  have hlen : (cs.take n).length = n := by simp; omega
  refine Ru.astore d_si4_39 rfl (ls' := #[.val (.ref a), .val (.ref b), .val (.int (n32 0)), .val (.int (n32 n)), .val .null, .val (.ref t)]) rfl ?_
  refine Ru.aloadN d_si4_41 rfl rfl ?_
  refine Ru.aload d_si4_42 rfl rfl ?_
  refine Ru.iloadN d_si4_44 rfl ?_
  rcases T1 with ⟨hL, T1⟩ | ⟨hU, T1⟩
  · refine Ru.callS0 (J := I_cfal) (c_cfal e (n := n) T1 (by first | (rw [u16_len]; omega) | (rw [List.length_map]; omega)) (by first | (rw [u16_len]; omega) | (rw [List.length_map]; omega))) d_si4_45 (e.w 29 rfl) (e.w 30 rfl) (e.w 23 rfl) (e.w 31 rfl) (by decide) np_cfal rfl (argsL := [(.ref t), (.int (n32 n))]) (rest := [(.ref a)]) rfl rfl (fun _ q => nomatch q) (Nat.le_of_ble_eq_true rfl) (Nat.le_of_ble_eq_true rfl) (Nat.le_of_ble_eq_true rfl) (Nat.le_of_ble_eq_true rfl) (WP.rt ?_)
    rintro _ _ S2 ⟨rfl, rfl, rfl⟩
    refine WP.topI (show (if ((cs.take n).map lat).length = n then (0 : Int32) else (1 : Int32)) = (0 : Int32) from (if_pos (by simp; omega))) ?_
    refine Ru.putfield d_si4_48 (e.w 32 rfl) Via.refl (by simp) F2 E1 (Or.inr ⟨(e.w 33 rfl), rfl, rfl⟩) (e.w 7 rfl) (ty := .byte) (by decide) rfl rfl ?_
    intro h2 W2
    have K2 := Keep.of_wr W2
    have G2 := F2.same W2; have G1 := F1.other W2 (Or.inr hne.symm); have E2 := E1.wr W2; have T2 := T1.keep K2 (ninS hta nin0)
    refine Ru.aloadN d_si4_51 rfl rfl ?_
    refine Ru.aload d_si4_52 rfl rfl ?_
    refine Ru.putfield d_si4_54 (e.w 34 rfl) Via.refl (by simp) G1 E2 (Or.inr ⟨(e.w 35 rfl), rfl, rfl⟩) (e.w 7 rfl) (ty := (.array .byte)) (by decide) rfl rfl ?_
    intro h3 W3
    have K3 := Keep.of_wr W3
    exact Ru.ret d_si4_57 rfl [] (fun _ q => nomatch q) (Nat.le_of_ble_eq_true rfl) (Nat.le_of_ble_eq_true rfl) ⟨rfl, rfl, t, (((k0 K1).trans K2 (by simp)).trans K3 (by simp)), Or.inl ⟨E2.wr W3, G1.same W3, G2.other W3 (Or.inr hne), T2.keep K3 (ninS hta nin0), hL⟩⟩
  · refine Ru.callS0 (J := I_cfal) (c_cfal e (n := n) T1 (by first | (rw [u16_len]; omega) | (rw [List.length_map]; omega)) (by first | (rw [u16_len]; omega) | (rw [List.length_map]; omega))) d_si4_45 (e.w 29 rfl) (e.w 30 rfl) (e.w 23 rfl) (e.w 31 rfl) (by decide) np_cfal rfl (argsL := [(.ref t), (.int (n32 n))]) (rest := [(.ref a)]) rfl rfl (fun _ q => nomatch q) (Nat.le_of_ble_eq_true rfl) (Nat.le_of_ble_eq_true rfl) (Nat.le_of_ble_eq_true rfl) (Nat.le_of_ble_eq_true rfl) (WP.rt ?_)
    rintro _ _ S2 ⟨rfl, rfl, rfl⟩
    refine WP.topI (show (if ((cs.take n).flatMap u16).length = n then (0 : Int32) else (1 : Int32)) = (1 : Int32) from (if_neg (by rw [u16_len]; omega))) ?_
    refine Ru.putfield d_si4_48 (e.w 32 rfl) Via.refl (by simp) F2 E1 (Or.inr ⟨(e.w 33 rfl), rfl, rfl⟩) (e.w 7 rfl) (ty := .byte) (by decide) rfl rfl ?_
    intro h2 W2
    have K2 := Keep.of_wr W2
    have G2 := F2.same W2; have G1 := F1.other W2 (Or.inr hne.symm); have E2 := E1.wr W2; have T2 := T1.keep K2 (ninS hta nin0)
    refine Ru.aloadN d_si4_51 rfl rfl ?_
    refine Ru.aload d_si4_52 rfl rfl ?_
    refine Ru.putfield d_si4_54 (e.w 34 rfl) Via.refl (by simp) G1 E2 (Or.inr ⟨(e.w 35 rfl), rfl, rfl⟩) (e.w 7 rfl) (ty := (.array .byte)) (by decide) rfl rfl ?_
    intro h3 W3
    have K3 := Keep.of_wr W3
    exact Ru.ret d_si4_57 rfl [] (fun _ q => nomatch q) (Nat.le_of_ble_eq_true rfl) (Nat.le_of_ble_eq_true rfl) ⟨rfl, rfl, t, (((k0 K1).trans K2 (by simp)).trans K3 (by simp)), Or.inr ⟨E2.wr W3, G1.same W3, G2.other W3 (Or.inr hne), T2.keep K3 (ninS hta nin0), fun c q => hC c (List.mem_of_mem_take q), hU⟩⟩
abbrev I_si4e : Own.Inf := (I_si4.1, I_si4.2.1, I_si4.2.2.1, I_si4.2.2.2.1, { frames := 1, cells := 4, slots := 8, locals := 12 })
set_option maxRecDepth 65536 in
set_option maxHeartbeats 40000000 in
theorem c_si4e {G : Own.Wd} {a0 : Array Value} (e : Ev G a0) {a b : Addr} {v0 : Value} {c0 : Int32} {h : Heap} (E0 : Exa G.Z h a "java/lang/String") (Fv : Fld G.Z h a "java/lang/String" "value" "[B" v0) (Fc : Fld G.Z h a "java/lang/String" "coder" "B" (.int c0)) : Met G I_si4e #[(.ref a), (.ref b), (.int (n32 0)), (.int (n32 0)), .null] h [a] (Rv (fun h' S' => S' = [] ∧ ∃ t, Keep h h' [a] ∧ StrL G.Z h' a t [])) := by
  refine Met.intro (ls := #[.val (.ref a), .val (.ref b), .val (.int (n32 0)), .val (.int (n32 0)), .val .null, .unset]) (plainFor_of_name pn_1) (fun m => by first | (simp [entryFrame, mkF, argsToLocals, Value.category, I_si4e]; done) | (simp [entryFrame, mkF, argsToLocals, Value.category]; rfl) | rfl) ?_
  intro K
  have hne : Jvm.RoadKit.slotOf G.Z "java/lang/String" "coder" "B" ≠ Jvm.RoadKit.slotOf G.Z "java/lang/String" "value" "[B" := slot_ne (Or.inr (e.w 33 rfl)) (Or.inr (e.w 35 rfl)) (by decide) (t := .byte) (by decide) (t' := .array .byte) (by decide)
  refine Ru.aloadN d_si4_0 rfl rfl ?_
  refine Ru.initO d_si4_1 (e.w 17 rfl) (e.w 18 rfl) (e.w 19 rfl) rfl (Nat.le_of_ble_eq_true rfl) (Nat.le_of_ble_eq_true rfl) ?_
  refine Ru.iloadN d_si4_4 rfl ?_
  refine Ru.ifN d_si4_5 (show (n32 0) = (0 : Int32) from rfl) ?_
  refine Ru.aloadN d_si4_8 rfl rfl ?_
  refine Ru.ldcStr (n := 0) (vs := []) e.nar d_si4_9 (e.el _ (by decide)) (e.w 130 rfl) e.sa (by decide) (by decide) (by decide) (by decide) (Nat.le_of_ble_eq_true rfl) (Nat.le_of_ble_eq_true rfl) ?_
  intro h1 l1 b1 E1 X1 C1 V1 T1 N1
  have A1 := E0.ext E1; have G1 := Fld.ext E1 Fv; have G2 := Fld.ext E1 Fc; have n1 := N1 a (by simp)
  refine Ru.getfield d_si4_11 (e.w 34 rfl) Via.refl V1 ?_
  refine Ru.putfield d_si4_14 (e.w 34 rfl) Via.refl (by simp) G1 A1 (Or.inr ⟨(e.w 35 rfl), rfl, rfl⟩) (e.w 7 rfl) (ty := (.array .byte)) (by decide) rfl rfl ?_
  intro h2 W2
  have K2 := Keep.of_wr W2; have A2 := A1.wr W2; have H1 := G1.same W2; have H2 := G2.other W2 (Or.inr hne); have T2 := T1.keep K2 (ninS n1.2.symm nin0)
  refine Ru.aloadN d_si4_17 rfl rfl ?_
  refine Ru.ldcStr (n := 0) (vs := []) e.nar d_si4_18 (e.el _ (by decide)) (e.w 130 rfl) e.sa (by decide) (by decide) (by decide) (by decide) (Nat.le_of_ble_eq_true rfl) (Nat.le_of_ble_eq_true rfl) ?_
  intro h3 l2 b2 E3 X3 C3 V3 T3 N3
  have A3 := A2.ext E3; have J1 := Fld.ext E3 H1; have J2 := Fld.ext E3 H2; have T4 := T2.ext E3
  refine Ru.getfield d_si4_20 (e.w 32 rfl) Via.refl C3 ?_
  refine Ru.putfield d_si4_23 (e.w 32 rfl) Via.refl (by simp) J2 A3 (Or.inr ⟨(e.w 33 rfl), rfl, rfl⟩) (e.w 7 rfl) (ty := .byte) (by decide) rfl rfl ?_
  intro h4 W4
  have K4 := Keep.of_wr W4
  exact Ru.ret d_si4_26 rfl [] (fun _ q => nomatch q) (Nat.le_of_ble_eq_true rfl) (Nat.le_of_ble_eq_true rfl) ⟨rfl, rfl, b1, ((((k0 (keepE E1)).trans K2 (by simp)).trans (keepE E3) (by simp)).trans K4 (by simp)), A3.wr W4, J1.other W4 (Or.inr hne.symm), J2.same W4, T4.keep K4 (ninS n1.2.symm nin0), by simp⟩
theorem np_si4e : Own.npar "([CIILjava/lang/Void;)V" = some 4 := np_si4
abbrev I_siu : Own.Inf := (⟨"java/lang/String", "<init>", "([C)V"⟩, jdk_42_method_3_code, 2, (Option.none : Option Jvm.ClassFile.FieldType), { frames := 5, cells := 4, slots := 18, locals := 74 })
theorem d_siu_0 : Own.D1 jdk_42_method_3_code 0 (.aload_n 0) 1 1 := ⟨by decide +kernel, rfl⟩
theorem d_siu_1 : Own.D1 jdk_42_method_3_code 1 (.aload_n 1) 1 2 := ⟨by decide +kernel, rfl⟩
theorem d_siu_2 : Own.D1 jdk_42_method_3_code 2 (.iconst 0) 1 3 := ⟨by decide +kernel, rfl⟩
theorem d_siu_3 : Own.D1 jdk_42_method_3_code 3 (.aload_n 1) 1 4 := ⟨by decide +kernel, rfl⟩
theorem d_siu_4 : Own.D1 jdk_42_method_3_code 4 .arraylength 1 5 := ⟨by decide +kernel, rfl⟩
theorem d_siu_5 : Own.D1 jdk_42_method_3_code 5 .aconst_null 1 6 := ⟨by decide +kernel, rfl⟩
theorem d_siu_6 : Own.D1 jdk_42_method_3_code 6 (.invokespecial 27) 3 9 := ⟨by decide +kernel, rfl⟩
theorem d_siu_9 : Own.D1 jdk_42_method_3_code 9 .return_ 1 10 := ⟨by decide +kernel, rfl⟩
theorem np_siu : Own.npar "([C)V" = some 1 := by decide +kernel
set_option maxRecDepth 65536 in
set_option maxHeartbeats 40000000 in
theorem c_siu {G : Own.Wd} {a0 : Array Value} (e : Ev G a0) {a b : Addr} {cs : List Int32} {v0 : Value} {c0 : Int32} {h : Heap} (E0 : Exa G.Z h a "java/lang/String") (Fv : Fld G.Z h a "java/lang/String" "value" "[B" v0) (Fc : Fld G.Z h a "java/lang/String" "coder" "B" (.int c0)) (hA : Ary G.Z h b .char (cs.map Value.int)) (hC : ∀ c ∈ cs, IsC c) (hcap : cs.length ≤ 6) : Met G I_siu #[(.ref a), (.ref b)] h [a] (Rv (fun h' S' => S' = [] ∧ ∃ t, Keep h h' [a] ∧ Str G.Z h' a t cs)) := by
  refine Met.intro (ls := #[.val (.ref a), .val (.ref b)]) (plainFor_of_name pn_1) (fun m => by first | (simp [entryFrame, mkF, argsToLocals, Value.category, I_siu]; done) | (simp [entryFrame, mkF, argsToLocals, Value.category]; rfl) | rfl) ?_
  intro K
  refine Ru.aloadN d_siu_0 rfl rfl ?_
  refine Ru.aloadN d_siu_1 rfl rfl ?_
  refine Ru.iconst (x := 0) d_siu_2 rfl ?_
  refine WP.topI (show (0 : Int32) = (n32 0) from rfl) ?_
  refine Ru.aloadN d_siu_3 rfl rfl ?_
  refine Ru.arraylength (n := (n32 cs.length)) d_siu_4 hA (by simp [n32]) ?_
  refine Ru.aconstNull d_siu_5 ?_
  by_cases q : cs.length = 0
  · have q0 : n32 cs.length = n32 0 := by rw [q]
    rw [q0]
    refine Ru.callI0 (J := I_si4e) (c_si4e e E0 Fv Fc) d_siu_6 rfl rfl (e.w 13 rfl) (e.w 14 rfl) (e.w 8 rfl) (e.w 16 rfl) (by decide) np_si4e rfl (a := a) (argsL := [(.ref b), (.int (n32 0)), (.int (n32 0)), .null]) (rest := []) rfl rfl (by simp) (Nat.le_of_ble_eq_true rfl) (Nat.le_of_ble_eq_true rfl) (Nat.le_of_ble_eq_true rfl) (Nat.le_of_ble_eq_true rfl) (WP.rv ?_)
    rintro h1 S2 ⟨rfl, t, K1, T1⟩
    have q1 : cs = [] := List.length_eq_zero_iff.mp q
    exact Ru.ret d_siu_9 rfl [] (fun _ q => nomatch q) (Nat.le_of_ble_eq_true rfl) (Nat.le_of_ble_eq_true rfl) ⟨rfl, rfl, t, K1, by rw [q1]; exact Or.inl T1⟩
  · refine Ru.callI0 (J := I_si4) (c_si4 e (n := cs.length) E0 Fv Fc hA hC (Nat.le_refl _) (by omega) hcap) d_siu_6 rfl rfl (e.w 13 rfl) (e.w 14 rfl) (e.w 8 rfl) (e.w 16 rfl) (by decide) np_si4 rfl (a := a) (argsL := [(.ref b), (.int (n32 0)), (.int (n32 cs.length)), .null]) (rest := []) rfl rfl (by simp) (Nat.le_of_ble_eq_true rfl) (Nat.le_of_ble_eq_true rfl) (Nat.le_of_ble_eq_true rfl) (Nat.le_of_ble_eq_true rfl) (WP.rv ?_)
    rintro h1 S2 ⟨rfl, t, K1, T1⟩
    exact Ru.ret d_siu_9 rfl [] (fun _ q => nomatch q) (Nat.le_of_ble_eq_true rfl) (Nat.le_of_ble_eq_true rfl) ⟨rfl, rfl, t, K1, by simpa using T1⟩
abbrev I_mmax : Own.Inf := (⟨"java/lang/Math", "max", "(II)I"⟩, jdk_29_method_65_code, 2, (Option.some Jvm.ClassFile.FieldType.int), { frames := 0, cells := 0, slots := 0, locals := 0 })
theorem d_mmax_0 : Own.D1 jdk_29_method_65_code 0 (.iload_n 0) 1 1 := ⟨by decide +kernel, rfl⟩
theorem d_mmax_1 : Own.D1 jdk_29_method_65_code 1 (.iload_n 1) 1 2 := ⟨by decide +kernel, rfl⟩
theorem d_mmax_2 : Own.DB jdk_29_method_65_code 2 (.if_icmp .lt 7) 3 (7) 5 9 := ⟨by decide +kernel, rfl, by decide, rfl⟩
theorem d_mmax_5 : Own.D1 jdk_29_method_65_code 5 (.iload_n 0) 1 6 := ⟨by decide +kernel, rfl⟩
theorem d_mmax_6 : Own.DB jdk_29_method_65_code 6 (.goto 4) 3 (4) 9 10 := ⟨by decide +kernel, rfl, by decide, rfl⟩
theorem d_mmax_9 : Own.D1 jdk_29_method_65_code 9 (.iload_n 1) 1 10 := ⟨by decide +kernel, rfl⟩
theorem d_mmax_10 : Own.D1 jdk_29_method_65_code 10 .ireturn 1 11 := ⟨by decide +kernel, rfl⟩
theorem pf_mmax : plainFor ⟨"java/lang/Math", "max", "(II)I"⟩ = true := by decide +kernel
theorem np_mmax : Own.npar "(II)I" = some 2 := by decide +kernel
set_option maxRecDepth 65536 in
set_option maxHeartbeats 40000000 in
theorem c_mmax {G : Own.Wd} {a0 : Array Value} (e : Ev G a0) {y : Int32} {h : Heap}  : Met G I_mmax #[(.int y), (.int y)] h [] (Rt (fun x h' S' => S' = [] ∧ h' = h ∧ x = .int y)) := by
  refine Met.intro (ls := #[.val (.int y), .val (.int y)]) pf_mmax (fun m => by first | (simp [entryFrame, mkF, argsToLocals, Value.category, I_mmax]; done) | (simp [entryFrame, mkF, argsToLocals, Value.category]; rfl) | rfl) ?_
  intro K
  refine Ru.iloadN d_mmax_0 rfl ?_
  refine Ru.iloadN d_mmax_1 rfl ?_
  refine Ru.icmpN d_mmax_2 (show ¬ y < y from Int32.lt_irrefl) ?_
  refine Ru.iloadN d_mmax_5 rfl ?_
  refine Ru.goto d_mmax_6 ?_
  exact Ru.ireturn d_mmax_10 rfl [] (fun _ q => nomatch q) (Nat.le_of_ble_eq_true rfl) (Nat.le_of_ble_eq_true rfl) ⟨_, rfl, rfl, rfl, rfl⟩
abbrev I_mmin : Own.Inf := (⟨"java/lang/Math", "min", "(II)I"⟩, jdk_29_method_69_code, 2, (Option.some Jvm.ClassFile.FieldType.int), { frames := 0, cells := 0, slots := 0, locals := 0 })
theorem d_mmin_0 : Own.D1 jdk_29_method_69_code 0 (.iload_n 0) 1 1 := ⟨by decide +kernel, rfl⟩
theorem d_mmin_1 : Own.D1 jdk_29_method_69_code 1 (.iload_n 1) 1 2 := ⟨by decide +kernel, rfl⟩
theorem d_mmin_2 : Own.DB jdk_29_method_69_code 2 (.if_icmp .gt 7) 3 (7) 5 9 := ⟨by decide +kernel, rfl, by decide, rfl⟩
theorem d_mmin_5 : Own.D1 jdk_29_method_69_code 5 (.iload_n 0) 1 6 := ⟨by decide +kernel, rfl⟩
theorem d_mmin_6 : Own.DB jdk_29_method_69_code 6 (.goto 4) 3 (4) 9 10 := ⟨by decide +kernel, rfl, by decide, rfl⟩
theorem d_mmin_9 : Own.D1 jdk_29_method_69_code 9 (.iload_n 1) 1 10 := ⟨by decide +kernel, rfl⟩
theorem d_mmin_10 : Own.D1 jdk_29_method_69_code 10 .ireturn 1 11 := ⟨by decide +kernel, rfl⟩
theorem pf_mmin : plainFor ⟨"java/lang/Math", "min", "(II)I"⟩ = true := by decide +kernel
theorem np_mmin : Own.npar "(II)I" = some 2 := by decide +kernel
set_option maxRecDepth 65536 in
set_option maxHeartbeats 40000000 in
theorem c_mmin {G : Own.Wd} {a0 : Array Value} (e : Ev G a0) {y : Int32} {h : Heap}  : Met G I_mmin #[(.int y), (.int y)] h [] (Rt (fun x h' S' => S' = [] ∧ h' = h ∧ x = .int y)) := by
  refine Met.intro (ls := #[.val (.int y), .val (.int y)]) pf_mmin (fun m => by first | (simp [entryFrame, mkF, argsToLocals, Value.category, I_mmin]; done) | (simp [entryFrame, mkF, argsToLocals, Value.category]; rfl) | rfl) ?_
  intro K
  refine Ru.iloadN d_mmin_0 rfl ?_
  refine Ru.iloadN d_mmin_1 rfl ?_
  refine Ru.icmpN d_mmin_2 (show ¬ y < y from Int32.lt_irrefl) ?_
  refine Ru.iloadN d_mmin_5 rfl ?_
  refine Ru.goto d_mmin_6 ?_
  exact Ru.ireturn d_mmin_10 rfl [] (fun _ q => nomatch q) (Nat.le_of_ble_eq_true rfl) (Nat.le_of_ble_eq_true rfl) ⟨_, rfl, rfl, rfl, rfl⟩
abbrev I_canenc : Own.Inf := (⟨"java/lang/StringLatin1", "canEncode", "(I)Z"⟩, jdk_43_method_4_code, 1, (Option.some Jvm.ClassFile.FieldType.boolean), { frames := 0, cells := 0, slots := 0, locals := 0 })
theorem d_canenc_0 : Own.D1 jdk_43_method_4_code 0 (.iload_n 0) 1 1 := ⟨by decide +kernel, rfl⟩
theorem d_canenc_1 : Own.DB jdk_43_method_4_code 1 (.ifCond .lt 14) 3 (14) 4 15 := ⟨by decide +kernel, rfl, by decide, rfl⟩
theorem d_canenc_4 : Own.D1 jdk_43_method_4_code 4 (.iload_n 0) 1 5 := ⟨by decide +kernel, rfl⟩
theorem d_canenc_5 : Own.D1 jdk_43_method_4_code 5 (.sipush 255) 3 8 := ⟨by decide +kernel, rfl⟩
theorem d_canenc_8 : Own.DB jdk_43_method_4_code 8 (.if_icmp .gt 7) 3 (7) 11 15 := ⟨by decide +kernel, rfl, by decide, rfl⟩
theorem d_canenc_11 : Own.D1 jdk_43_method_4_code 11 (.iconst 1) 1 12 := ⟨by decide +kernel, rfl⟩
theorem d_canenc_12 : Own.DB jdk_43_method_4_code 12 (.goto 4) 3 (4) 15 16 := ⟨by decide +kernel, rfl, by decide, rfl⟩
theorem d_canenc_15 : Own.D1 jdk_43_method_4_code 15 (.iconst 0) 1 16 := ⟨by decide +kernel, rfl⟩
theorem d_canenc_16 : Own.D1 jdk_43_method_4_code 16 .ireturn 1 17 := ⟨by decide +kernel, rfl⟩
theorem pn_3 : plainName "java/lang/StringLatin1" = true := by first | (simp [plainName, overriddenIn]; done) | decide +kernel
theorem np_canenc : Own.npar "(I)Z" = some 1 := by decide +kernel
set_option maxRecDepth 65536 in
set_option maxHeartbeats 40000000 in
theorem c_canenc {G : Own.Wd} {a0 : Array Value} (e : Ev G a0) {c : Int32} {h : Heap} (hL : IsL c) : Met G I_canenc #[(.int c)] h [] (Rt (fun x h' S' => S' = [] ∧ h' = h ∧ x = .int 1)) := by
  refine Met.intro (ls := #[.val (.int c)]) (plainFor_of_name pn_3) (fun m => by first | (simp [entryFrame, mkF, argsToLocals, Value.category, I_canenc]; done) | (simp [entryFrame, mkF, argsToLocals, Value.category]; rfl) | rfl) ?_
  intro K
  refine Ru.iloadN d_canenc_0 rfl ?_
  refine Ru.ifN d_canenc_1 (show ¬ c < (0 : Int32) from hL.1) ?_
  refine Ru.iloadN d_canenc_4 rfl ?_
  refine Ru.sipush (x := 255) d_canenc_5 rfl ?_
  refine Ru.icmpN d_canenc_8 (show ¬ (255 : Int32) < c from hL.2) ?_
  refine Ru.iconst (x := 1) d_canenc_11 rfl ?_
  refine Ru.goto d_canenc_12 ?_
  exact Ru.ireturnN (t := .boolean) (x' := (1 : Int32)) d_canenc_16 rfl (by simp) rfl [] (fun _ q => nomatch q) (Nat.le_of_ble_eq_true rfl) (Nat.le_of_ble_eq_true rfl) ⟨_, rfl, rfl, rfl, rfl⟩
theorem notin_step {cs : List Int32} {i : Nat} {c ch : Int32} (h : ch ∉ cs.take i) (hc : cs[i]? = some c) (q : ¬ c = ch) : ch ∉ cs.take (i + 1) := by
  have hi : i < cs.length := (List.getElem?_eq_some_iff.mp hc).1
  rw [List.take_succ_eq_append_getElem hi, (List.getElem?_eq_some_iff.mp hc).2]
  intro z
  rcases List.mem_append.mp z with z | z
  · exact h z
  · exact q (List.mem_singleton.mp z).symm
theorem notin_end {cs : List Int32} {ch : Int32} (h : ch ∉ cs.take cs.length) : ¬ (-1 : Int32) < 0 ↔ ch ∈ cs := ⟨fun z => absurd (by decide) z, fun z => absurd (by simpa using z) h⟩
abbrev I_lixc : Own.Inf := (⟨"java/lang/StringLatin1", "indexOfChar", "([BIII)I"⟩, jdk_43_method_23_code, 6, (Option.some Jvm.ClassFile.FieldType.int), { frames := 0, cells := 0, slots := 0, locals := 0 })
theorem d_lixc_0 : Own.D1 jdk_43_method_23_code 0 (.iload_n 1) 1 1 := ⟨by decide +kernel, rfl⟩
theorem d_lixc_1 : Own.D1 jdk_43_method_23_code 1 .i2b 1 2 := ⟨by decide +kernel, rfl⟩
theorem d_lixc_2 : Own.D1 jdk_43_method_23_code 2 (.istore 4) 2 4 := ⟨by decide +kernel, rfl⟩
theorem d_lixc_4 : Own.D1 jdk_43_method_23_code 4 (.iload_n 2) 1 5 := ⟨by decide +kernel, rfl⟩
theorem d_lixc_5 : Own.D1 jdk_43_method_23_code 5 (.istore 5) 2 7 := ⟨by decide +kernel, rfl⟩
theorem d_lixc_7 : Own.D1 jdk_43_method_23_code 7 (.iload 5) 2 9 := ⟨by decide +kernel, rfl⟩
theorem d_lixc_9 : Own.D1 jdk_43_method_23_code 9 (.iload_n 3) 1 10 := ⟨by decide +kernel, rfl⟩
theorem d_lixc_10 : Own.DB jdk_43_method_23_code 10 (.if_icmp .ge 21) 3 (21) 13 31 := ⟨by decide +kernel, rfl, by decide, rfl⟩
theorem d_lixc_13 : Own.D1 jdk_43_method_23_code 13 (.aload_n 0) 1 14 := ⟨by decide +kernel, rfl⟩
theorem d_lixc_14 : Own.D1 jdk_43_method_23_code 14 (.iload 5) 2 16 := ⟨by decide +kernel, rfl⟩
theorem d_lixc_16 : Own.D1 jdk_43_method_23_code 16 .baload 1 17 := ⟨by decide +kernel, rfl⟩
theorem d_lixc_17 : Own.D1 jdk_43_method_23_code 17 (.iload 4) 2 19 := ⟨by decide +kernel, rfl⟩
theorem d_lixc_19 : Own.DB jdk_43_method_23_code 19 (.if_icmp .ne 6) 3 (6) 22 25 := ⟨by decide +kernel, rfl, by decide, rfl⟩
theorem d_lixc_22 : Own.D1 jdk_43_method_23_code 22 (.iload 5) 2 24 := ⟨by decide +kernel, rfl⟩
theorem d_lixc_24 : Own.D1 jdk_43_method_23_code 24 .ireturn 1 25 := ⟨by decide +kernel, rfl⟩
theorem d_lixc_25 : Own.D1 jdk_43_method_23_code 25 (.iinc 5 1) 3 28 := ⟨by decide +kernel, rfl⟩
theorem d_lixc_28 : Own.DB jdk_43_method_23_code 28 (.goto (-21)) 3 (-21) 31 7 := ⟨by decide +kernel, rfl, by decide, rfl⟩
theorem d_lixc_31 : Own.D1 jdk_43_method_23_code 31 (.iconst (-1)) 1 32 := ⟨by decide +kernel, rfl⟩
theorem d_lixc_32 : Own.D1 jdk_43_method_23_code 32 .ireturn 1 33 := ⟨by decide +kernel, rfl⟩
theorem np_lixc : Own.npar "([BIII)I" = some 4 := by decide +kernel
set_option maxRecDepth 65536 in
set_option maxHeartbeats 40000000 in
theorem c_lixc {G : Own.Wd} {a0 : Array Value} (e : Ev G a0) {t : Addr} {cs : List Int32} {ch : Int32} {h : Heap} (hA : Ary G.Z h t .byte (cs.map lat)) (hL : ∀ c ∈ cs, IsL c) (hch : IsL ch) : Met G I_lixc #[(.ref t), (.int ch), (.int (n32 0)), (.int (n32 cs.length))] h [] (Rt (fun x h' S' => S' = [] ∧ h' = h ∧ ∃ r : Int32, x = .int r ∧ (¬ r < 0 ↔ ch ∈ cs))) := by
  refine Met.intro (ls := #[.val (.ref t), .val (.int ch), .val (.int (n32 0)), .val (.int (n32 cs.length)), .unset, .unset]) (plainFor_of_name pn_3) (fun m => by first | (simp [entryFrame, mkF, argsToLocals, Value.category, I_lixc]; done) | (simp [entryFrame, mkF, argsToLocals, Value.category]; rfl) | rfl) ?_
  intro K
  have hcs : cs.length < 2147483648 := by obtain ⟨c, -, e1, e2, -⟩ := hA; simpa using e2
  refine Ru.iloadN d_lixc_0 rfl ?_
  refine Ru.i2b d_lixc_1 ?_
  refine Ru.istore d_lixc_2 (ls' := #[.val (.ref t), .val (.int ch), .val (.int (n32 0)), .val (.int (n32 cs.length)), .val (.int ((ch).toInt8.toInt32)), .unset]) rfl ?_
  refine Ru.iloadN d_lixc_4 rfl ?_
  refine Ru.istore d_lixc_5 (ls' := #[.val (.ref t), .val (.int ch), .val (.int (n32 0)), .val (.int (n32 cs.length)), .val (.int ((ch).toInt8.toInt32)), .val (.int (n32 0))]) rfl ?_
  have loop : ∀ (d i : Nat), i + d = cs.length → ch ∉ cs.take i → WP G I_lixc (Rt (fun x h' S' => S' = [] ∧ h' = h ∧ ∃ r : Int32, x = .int r ∧ (¬ r < 0 ↔ ch ∈ cs))) K [] h 0 0 7 #[.val (.ref t), .val (.int ch), .val (.int (n32 0)), .val (.int (n32 cs.length)), .val (.int ch.toInt8.toInt32), .val (.int (n32 i))] [] := by
    intro d
    induction d with
    | zero =>
      intro i hi hn
      obtain rfl : i = cs.length := by omega
      refine Ru.iload d_lixc_7 rfl ?_
      refine Ru.iloadN d_lixc_9 rfl ?_
      refine Ru.icmpY d_lixc_10 (show ¬ (n32 cs.length) < (n32 cs.length) from (by simp)) ?_
      refine Ru.iconst (x := -1) d_lixc_31 rfl ?_
      exact Ru.ireturn d_lixc_32 rfl [] (fun _ q => nomatch q) (Nat.le_of_ble_eq_true rfl) (Nat.le_of_ble_eq_true rfl) ⟨_, rfl, rfl, rfl, _, rfl, notin_end hn⟩
    | succ d ih =>
      intro i hi hn
      have hil : i < cs.length := by omega
      obtain ⟨c, hc⟩ : ∃ c, cs[i]? = some c := ⟨_, List.getElem?_eq_getElem hil⟩
      have hcm := List.mem_of_getElem? hc
      refine Ru.iload d_lixc_7 rfl ?_
      refine Ru.iloadN d_lixc_9 rfl ?_
      refine Ru.icmpN d_lixc_10 (show (n32 i) < (n32 cs.length) from ((n32_lt (by omega) (by omega)).mpr hil)) ?_
      refine Ru.aloadN d_lixc_13 rfl rfl ?_
      refine Ru.iload d_lixc_14 rfl ?_
      refine Ru.baload (v := (.int c.toInt8.toInt32)) d_lixc_16 hA (n32_nn (by omega)) (by rw [n32_cl (by omega)]; simp [hc, lat]) ?_
      refine Ru.iload d_lixc_17 rfl ?_
      refine Ru.icmp d_lixc_19 (fun (c1 : ¬ c.toInt8.toInt32 = ch.toInt8.toInt32) => ?_) (fun (c1 : c.toInt8.toInt32 = ch.toInt8.toInt32) => ?_)
      · refine Ru.iinc (y := (1 : Int32)) d_lixc_25 rfl rfl (ls' := #[.val (.ref t), .val (.int ch), .val (.int (n32 0)), .val (.int (n32 cs.length)), .val (.int ch.toInt8.toInt32), .val (.int ((n32 i) + (1 : Int32)))]) rfl ?_
        refine Ru.goto d_lixc_28 ?_
        rw [n32_succ]
        exact ih (i + 1) (by omega) (notin_step hn hc (fun z => c1 (by rw [z])))
      · have ec : c = ch := by rw [← lat_mask (hL c hcm), c1, lat_mask hch]
        refine Ru.iload d_lixc_22 rfl ?_
        exact Ru.ireturn d_lixc_24 rfl [] (fun _ q => nomatch q) (Nat.le_of_ble_eq_true rfl) (Nat.le_of_ble_eq_true rfl) ⟨_, rfl, rfl, rfl, _, rfl, ⟨fun _ => ec ▸ hcm, fun _ => n32_nn (by omega)⟩⟩
  exact loop cs.length 0 (by omega) (by simp)
abbrev I_lix : Own.Inf := (⟨"java/lang/StringLatin1", "indexOf", "([BIII)I"⟩, jdk_43_method_22_code, 4, (Option.some Jvm.ClassFile.FieldType.int), { frames := 1, cells := 0, slots := 0, locals := 18 })
theorem d_lix_0 : Own.D1 jdk_43_method_22_code 0 (.iload_n 1) 1 1 := ⟨by decide +kernel, rfl⟩
theorem d_lix_1 : Own.D1 jdk_43_method_22_code 1 (.invokestatic 88) 3 4 := ⟨by decide +kernel, rfl⟩
theorem d_lix_4 : Own.DB jdk_43_method_22_code 4 (.ifCond .ne 5) 3 (5) 7 9 := ⟨by decide +kernel, rfl, by decide, rfl⟩
theorem d_lix_7 : Own.D1 jdk_43_method_22_code 7 (.iconst (-1)) 1 8 := ⟨by decide +kernel, rfl⟩
theorem d_lix_8 : Own.D1 jdk_43_method_22_code 8 .ireturn 1 9 := ⟨by decide +kernel, rfl⟩
theorem d_lix_9 : Own.D1 jdk_43_method_22_code 9 (.iload_n 2) 1 10 := ⟨by decide +kernel, rfl⟩
theorem d_lix_10 : Own.D1 jdk_43_method_22_code 10 (.iconst 0) 1 11 := ⟨by decide +kernel, rfl⟩
theorem d_lix_11 : Own.D1 jdk_43_method_22_code 11 (.invokestatic 92) 3 14 := ⟨by decide +kernel, rfl⟩
theorem d_lix_14 : Own.D1 jdk_43_method_22_code 14 (.istore_n 2) 1 15 := ⟨by decide +kernel, rfl⟩
theorem d_lix_15 : Own.D1 jdk_43_method_22_code 15 (.iload_n 3) 1 16 := ⟨by decide +kernel, rfl⟩
theorem d_lix_16 : Own.D1 jdk_43_method_22_code 16 (.aload_n 0) 1 17 := ⟨by decide +kernel, rfl⟩
theorem d_lix_17 : Own.D1 jdk_43_method_22_code 17 .arraylength 1 18 := ⟨by decide +kernel, rfl⟩
theorem d_lix_18 : Own.D1 jdk_43_method_22_code 18 (.invokestatic 38) 3 21 := ⟨by decide +kernel, rfl⟩
theorem d_lix_21 : Own.D1 jdk_43_method_22_code 21 (.istore_n 3) 1 22 := ⟨by decide +kernel, rfl⟩
theorem d_lix_22 : Own.D1 jdk_43_method_22_code 22 (.iload_n 2) 1 23 := ⟨by decide +kernel, rfl⟩
theorem d_lix_23 : Own.D1 jdk_43_method_22_code 23 (.iload_n 3) 1 24 := ⟨by decide +kernel, rfl⟩
theorem d_lix_24 : Own.DB jdk_43_method_22_code 24 (.if_icmp .lt 5) 3 (5) 27 29 := ⟨by decide +kernel, rfl, by decide, rfl⟩
theorem d_lix_27 : Own.D1 jdk_43_method_22_code 27 (.iconst (-1)) 1 28 := ⟨by decide +kernel, rfl⟩
theorem d_lix_28 : Own.D1 jdk_43_method_22_code 28 .ireturn 1 29 := ⟨by decide +kernel, rfl⟩
theorem d_lix_29 : Own.D1 jdk_43_method_22_code 29 (.aload_n 0) 1 30 := ⟨by decide +kernel, rfl⟩
theorem d_lix_30 : Own.D1 jdk_43_method_22_code 30 (.iload_n 1) 1 31 := ⟨by decide +kernel, rfl⟩
theorem d_lix_31 : Own.D1 jdk_43_method_22_code 31 (.iload_n 2) 1 32 := ⟨by decide +kernel, rfl⟩
theorem d_lix_32 : Own.D1 jdk_43_method_22_code 32 (.iload_n 3) 1 33 := ⟨by decide +kernel, rfl⟩
theorem d_lix_33 : Own.D1 jdk_43_method_22_code 33 (.invokestatic 95) 3 36 := ⟨by decide +kernel, rfl⟩
theorem d_lix_36 : Own.D1 jdk_43_method_22_code 36 .ireturn 1 37 := ⟨by decide +kernel, rfl⟩
theorem np_lix : Own.npar "([BIII)I" = some 4 := by decide +kernel
set_option maxRecDepth 65536 in
set_option maxHeartbeats 40000000 in
theorem c_lix {G : Own.Wd} {a0 : Array Value} (e : Ev G a0) {t : Addr} {cs : List Int32} {ch : Int32} {h : Heap} (hA : Ary G.Z h t .byte (cs.map lat)) (hL : ∀ c ∈ cs, IsL c) (hch : IsL ch) : Met G I_lix #[(.ref t), (.int ch), (.int (n32 0)), (.int (n32 cs.length))] h [] (Rt (fun x h' S' => S' = [] ∧ h' = h ∧ ∃ r : Int32, x = .int r ∧ (¬ r < 0 ↔ ch ∈ cs))) := by
  refine Met.intro (ls := #[.val (.ref t), .val (.int ch), .val (.int (n32 0)), .val (.int (n32 cs.length))]) (plainFor_of_name pn_3) (fun m => by first | (simp [entryFrame, mkF, argsToLocals, Value.category, I_lix]; done) | (simp [entryFrame, mkF, argsToLocals, Value.category]; rfl) | rfl) ?_
  intro K
  have hcs : cs.length < 2147483648 := by obtain ⟨c, -, e1, e2, -⟩ := hA; simpa using e2
  refine Ru.iloadN d_lix_0 rfl ?_
  refine Ru.callS0 (J := I_canenc) (c_canenc e hch) d_lix_1 (e.w 72 rfl) (e.w 73 rfl) (e.w 70 rfl) (e.w 74 rfl) (by decide) np_canenc rfl (argsL := [(.int ch)]) (rest := []) rfl rfl (fun _ q => nomatch q) (Nat.le_of_ble_eq_true rfl) (Nat.le_of_ble_eq_true rfl) (Nat.le_of_ble_eq_true rfl) (Nat.le_of_ble_eq_true rfl) (WP.rt ?_)
  rintro _ _ S1 ⟨rfl, rfl, rfl⟩
  refine Ru.ifY d_lix_4 (show ¬ (1 : Int32) = (0 : Int32) from (by decide)) ?_
  refine Ru.iloadN d_lix_9 rfl ?_
  refine Ru.iconst (x := 0) d_lix_10 rfl ?_
  refine WP.topI (show (0 : Int32) = (n32 0) from rfl) ?_
  refine Ru.callS0 (J := I_mmax) (c_mmax e) d_lix_11 (e.w 75 rfl) (e.w 76 rfl) (e.w 77 rfl) (e.w 78 rfl) (by decide) np_mmax rfl (argsL := [(.int (n32 0)), (.int (n32 0))]) (rest := []) rfl rfl (fun _ q => nomatch q) (Nat.le_of_ble_eq_true rfl) (Nat.le_of_ble_eq_true rfl) (Nat.le_of_ble_eq_true rfl) (Nat.le_of_ble_eq_true rfl) (WP.rt ?_)
  rintro _ _ S2 ⟨rfl, rfl, rfl⟩
  refine Ru.istoreN d_lix_14 (ls' := #[.val (.ref t), .val (.int ch), .val (.int (n32 0)), .val (.int (n32 cs.length))]) rfl ?_
  refine Ru.iloadN d_lix_15 rfl ?_
  refine Ru.aloadN d_lix_16 rfl rfl ?_
  refine Ru.arraylength (n := (n32 cs.length)) d_lix_17 hA (by simp [n32]) ?_
  refine Ru.callS0 (J := I_mmin) (c_mmin e) d_lix_18 (e.w 79 rfl) (e.w 80 rfl) (e.w 77 rfl) (e.w 81 rfl) (by decide) np_mmin rfl (argsL := [(.int (n32 cs.length)), (.int (n32 cs.length))]) (rest := []) rfl rfl (fun _ q => nomatch q) (Nat.le_of_ble_eq_true rfl) (Nat.le_of_ble_eq_true rfl) (Nat.le_of_ble_eq_true rfl) (Nat.le_of_ble_eq_true rfl) (WP.rt ?_)
  rintro _ _ S3 ⟨rfl, rfl, rfl⟩
  refine Ru.istoreN d_lix_21 (ls' := #[.val (.ref t), .val (.int ch), .val (.int (n32 0)), .val (.int (n32 cs.length))]) rfl ?_
  refine Ru.iloadN d_lix_22 rfl ?_
  refine Ru.iloadN d_lix_23 rfl ?_
  by_cases q : cs.length = 0
  · have q1 : cs = [] := List.length_eq_zero_iff.mp q
    refine Ru.icmpN d_lix_24 (show ¬ (n32 0) < (n32 cs.length) from (by rw [n32_lt (by omega) (by omega)]; omega)) ?_
    refine Ru.iconst (x := -1) d_lix_27 rfl ?_
    exact Ru.ireturn d_lix_28 rfl [] (fun _ q => nomatch q) (Nat.le_of_ble_eq_true rfl) (Nat.le_of_ble_eq_true rfl) ⟨_, rfl, rfl, rfl, _, rfl, by rw [q1]; simp⟩
  · refine Ru.icmpY d_lix_24 (show (n32 0) < (n32 cs.length) from ((n32_lt (by omega) (by omega)).mpr (by omega))) ?_
    refine Ru.aloadN d_lix_29 rfl rfl ?_
    refine Ru.iloadN d_lix_30 rfl ?_
    refine Ru.iloadN d_lix_31 rfl ?_
    refine Ru.iloadN d_lix_32 rfl ?_
    refine Ru.callS0 (J := I_lixc) (c_lixc e hA hL hch) d_lix_33 (e.w 82 rfl) (e.w 83 rfl) (e.w 70 rfl) (e.w 84 rfl) (by decide) np_lixc rfl (argsL := [(.ref t), (.int ch), (.int (n32 0)), (.int (n32 cs.length))]) (rest := []) rfl rfl (fun _ q => nomatch q) (Nat.le_of_ble_eq_true rfl) (Nat.le_of_ble_eq_true rfl) (Nat.le_of_ble_eq_true rfl) (Nat.le_of_ble_eq_true rfl) (WP.rt ?_)
    rintro _ _ S4 ⟨rfl, rfl, r, rfl, hr⟩
    exact Ru.ireturn d_lix_36 rfl [] (fun _ q => nomatch q) (Nat.le_of_ble_eq_true rfl) (Nat.le_of_ble_eq_true rfl) ⟨_, rfl, rfl, rfl, r, rfl, hr⟩
abbrev I_ulen : Own.Inf := (⟨"java/lang/StringUTF16", "length", "([B)I"⟩, jdk_52_method_6_code, 1, (Option.some Jvm.ClassFile.FieldType.int), { frames := 0, cells := 0, slots := 0, locals := 0 })
theorem d_ulen_0 : Own.D1 jdk_52_method_6_code 0 (.aload_n 0) 1 1 := ⟨by decide +kernel, rfl⟩
theorem d_ulen_1 : Own.D1 jdk_52_method_6_code 1 .arraylength 1 2 := ⟨by decide +kernel, rfl⟩
theorem d_ulen_2 : Own.D1 jdk_52_method_6_code 2 (.iconst 1) 1 3 := ⟨by decide +kernel, rfl⟩
theorem d_ulen_3 : Own.D1 jdk_52_method_6_code 3 .ishr 1 4 := ⟨by decide +kernel, rfl⟩
theorem d_ulen_4 : Own.D1 jdk_52_method_6_code 4 .ireturn 1 5 := ⟨by decide +kernel, rfl⟩
theorem np_ulen : Own.npar "([B)I" = some 1 := by decide +kernel
set_option maxRecDepth 65536 in
set_option maxHeartbeats 40000000 in
theorem c_ulen {G : Own.Wd} {a0 : Array Value} (e : Ev G a0) {t : Addr} {cs : List Int32} {h : Heap} (hB : Ary G.Z h t .byte (cs.flatMap u16)) : Met G I_ulen #[(.ref t)] h [] (Rt (fun x h' S' => S' = [] ∧ h' = h ∧ x = .int (n32 cs.length))) := by
  refine Met.intro (ls := #[.val (.ref t)]) (plainFor_of_name pn_0) (fun m => by first | (simp [entryFrame, mkF, argsToLocals, Value.category, I_ulen]; done) | (simp [entryFrame, mkF, argsToLocals, Value.category]; rfl) | rfl) ?_
  intro K
  have hvl : 2 * cs.length < 2147483648 := by obtain ⟨c, -, e1, e2, -⟩ := hB; rw [u16_len] at e2; exact e2
  refine Ru.aloadN d_ulen_0 rfl rfl ?_
  refine Ru.arraylength (n := (n32 (2 * cs.length))) d_ulen_1 hB (by rw [← u16_len cs]; rfl) ?_
  refine Ru.iconst (x := 1) d_ulen_2 rfl ?_
  refine Ru.ishr d_ulen_3 ?_
  refine WP.topI (show ((n32 (2 * cs.length)) >>> ((1 : Int32) &&& 31)) = (n32 cs.length) from (n32_shr1 (by omega))) ?_
  exact Ru.ireturn d_ulen_4 rfl [] (fun _ q => nomatch q) (Nat.le_of_ble_eq_true rfl) (Nat.le_of_ble_eq_true rfl) ⟨_, rfl, rfl, rfl, rfl⟩
abbrev I_cfti : Own.Inf := (⟨"jdk/internal/util/Preconditions", "checkFromToIndex", "(IIILjava/util/function/BiFunction;)I"⟩, jdk_41_method_12_code, 4, (Option.some Jvm.ClassFile.FieldType.int), { frames := 0, cells := 0, slots := 0, locals := 0 })
theorem d_cfti_0 : Own.D1 jdk_41_method_12_code 0 (.iload_n 0) 1 1 := ⟨by decide +kernel, rfl⟩
theorem d_cfti_1 : Own.DB jdk_41_method_12_code 1 (.ifCond .lt 13) 3 (13) 4 14 := ⟨by decide +kernel, rfl, by decide, rfl⟩
theorem d_cfti_4 : Own.D1 jdk_41_method_12_code 4 (.iload_n 0) 1 5 := ⟨by decide +kernel, rfl⟩
theorem d_cfti_5 : Own.D1 jdk_41_method_12_code 5 (.iload_n 1) 1 6 := ⟨by decide +kernel, rfl⟩
theorem d_cfti_6 : Own.DB jdk_41_method_12_code 6 (.if_icmp .gt 8) 3 (8) 9 14 := ⟨by decide +kernel, rfl, by decide, rfl⟩
theorem d_cfti_9 : Own.D1 jdk_41_method_12_code 9 (.iload_n 1) 1 10 := ⟨by decide +kernel, rfl⟩
theorem d_cfti_10 : Own.D1 jdk_41_method_12_code 10 (.iload_n 2) 1 11 := ⟨by decide +kernel, rfl⟩
theorem d_cfti_11 : Own.DB jdk_41_method_12_code 11 (.if_icmp .le 11) 3 (11) 14 22 := ⟨by decide +kernel, rfl, by decide, rfl⟩
theorem d_cfti_14 : Own.D1 jdk_41_method_12_code 14 (.aload_n 3) 1 15 := ⟨by decide +kernel, rfl⟩
theorem d_cfti_15 : Own.D1 jdk_41_method_12_code 15 (.iload_n 0) 1 16 := ⟨by decide +kernel, rfl⟩
theorem d_cfti_16 : Own.D1 jdk_41_method_12_code 16 (.iload_n 1) 1 17 := ⟨by decide +kernel, rfl⟩
theorem d_cfti_17 : Own.D1 jdk_41_method_12_code 17 (.iload_n 2) 1 18 := ⟨by decide +kernel, rfl⟩
theorem d_cfti_18 : Own.D1 jdk_41_method_12_code 18 (.invokestatic 99) 3 21 := ⟨by decide +kernel, rfl⟩
theorem d_cfti_21 : Own.D1 jdk_41_method_12_code 21 .athrow 1 22 := ⟨by decide +kernel, rfl⟩
theorem d_cfti_22 : Own.D1 jdk_41_method_12_code 22 (.iload_n 0) 1 23 := ⟨by decide +kernel, rfl⟩
theorem d_cfti_23 : Own.D1 jdk_41_method_12_code 23 .ireturn 1 24 := ⟨by decide +kernel, rfl⟩
theorem pn_4 : plainName "jdk/internal/util/Preconditions" = true := by first | (simp [plainName, overriddenIn]; done) | decide +kernel
theorem np_cfti : Own.npar "(IIILjava/util/function/BiFunction;)I" = some 4 := by decide +kernel
set_option maxRecDepth 65536 in
set_option maxHeartbeats 40000000 in
theorem c_cfti {G : Own.Wd} {a0 : Array Value} (e : Ev G a0) {n : Nat} {v : Value} {h : Heap} (hv : v.isRef = true) (hn : n < 2147483648) : Met G I_cfti #[(.int (n32 0)), (.int (n32 n)), (.int (n32 n)), v] h [] (Rt (fun x h' S' => S' = [] ∧ h' = h ∧ x = .int (n32 0))) := by
  refine Met.intro (ls := #[.val (.int (n32 0)), .val (.int (n32 n)), .val (.int (n32 n)), .val v]) (plainFor_of_name pn_4) (fun m => by rcases Jvm.Free.XT.refc hv with rfl | ⟨_, rfl⟩ <;> first | (simp [entryFrame, mkF, argsToLocals, Value.category, I_cfti]; done) | (simp [entryFrame, mkF, argsToLocals, Value.category]; rfl) | rfl) ?_
  intro K
  refine Ru.iloadN d_cfti_0 rfl ?_
  refine Ru.ifN d_cfti_1 (show ¬ (n32 0) < (0 : Int32) from (n32_nn (by omega))) ?_
  refine Ru.iloadN d_cfti_4 rfl ?_
  refine Ru.iloadN d_cfti_5 rfl ?_
  refine Ru.icmpN d_cfti_6 (show ¬ (n32 n) < (n32 0) from (by rw [n32_lt (by omega) (by omega)]; omega)) ?_
  refine Ru.iloadN d_cfti_9 rfl ?_
  refine Ru.iloadN d_cfti_10 rfl ?_
  refine Ru.icmpY d_cfti_11 (show ¬ (n32 n) < (n32 n) from Int32.lt_irrefl) ?_
  refine Ru.iloadN d_cfti_22 rfl ?_
  exact Ru.ireturn d_cfti_23 rfl [] (fun _ q => nomatch q) (Nat.le_of_ble_eq_true rfl) (Nat.le_of_ble_eq_true rfl) ⟨_, rfl, rfl, rfl, rfl⟩
abbrev I_scbe : Own.Inf := (⟨"java/lang/String", "checkBoundsBeginEnd", "(III)V"⟩, jdk_42_method_158_code, 3, (Option.none : Option Jvm.ClassFile.FieldType), { frames := 1, cells := 0, slots := 0, locals := 15 })
theorem d_scbe_0 : Own.D1 jdk_42_method_158_code 0 (.iload_n 0) 1 1 := ⟨by decide +kernel, rfl⟩
theorem d_scbe_1 : Own.D1 jdk_42_method_158_code 1 (.iload_n 1) 1 2 := ⟨by decide +kernel, rfl⟩
theorem d_scbe_2 : Own.D1 jdk_42_method_158_code 2 (.iload_n 2) 1 3 := ⟨by decide +kernel, rfl⟩
theorem d_scbe_3 : Own.D1 jdk_42_method_158_code 3 (.getstatic 1053) 3 6 := ⟨by decide +kernel, rfl⟩
theorem d_scbe_6 : Own.D1 jdk_42_method_158_code 6 (.invokestatic 1062) 3 9 := ⟨by decide +kernel, rfl⟩
theorem d_scbe_9 : Own.D1 jdk_42_method_158_code 9 .pop 1 10 := ⟨by decide +kernel, rfl⟩
theorem d_scbe_10 : Own.D1 jdk_42_method_158_code 10 .return_ 1 11 := ⟨by decide +kernel, rfl⟩
theorem np_scbe : Own.npar "(III)V" = some 3 := by decide +kernel
set_option maxRecDepth 65536 in
set_option maxHeartbeats 40000000 in
theorem c_scbe {G : Own.Wd} {a0 : Array Value} (e : Ev G a0) {n : Nat} {h : Heap} (hn : n < 2147483648) : Met G I_scbe #[(.int (n32 0)), (.int (n32 n)), (.int (n32 n))] h [] (Rv (fun h' S' => S' = [] ∧ h' = h)) := by
  refine Met.intro (ls := #[.val (.int (n32 0)), .val (.int (n32 n)), .val (.int (n32 n))]) (plainFor_of_name pn_1) (fun m => by first | (simp [entryFrame, mkF, argsToLocals, Value.category, I_scbe]; done) | (simp [entryFrame, mkF, argsToLocals, Value.category]; rfl) | rfl) ?_
  intro K
  obtain ⟨v, hv, sv⟩ := e.fm
  refine Ru.iloadN d_scbe_0 rfl ?_
  refine Ru.iloadN d_scbe_1 rfl ?_
  refine Ru.iloadN d_scbe_2 rfl ?_
  refine Ru.getstatic d_scbe_3 (e.w 122 rfl) sv ?_
  refine Ru.callS0 (J := I_cfti) (c_cfti e hv hn) d_scbe_6 (e.w 124 rfl) (e.w 125 rfl) (e.w 123 rfl) (e.w 126 rfl) (by decide) np_cfti rfl (argsL := [(.int (n32 0)), (.int (n32 n)), (.int (n32 n)), v]) (rest := []) rfl rfl (fun _ q => nomatch q) (Nat.le_of_ble_eq_true rfl) (Nat.le_of_ble_eq_true rfl) (Nat.le_of_ble_eq_true rfl) (Nat.le_of_ble_eq_true rfl) (WP.rt ?_)
  rintro _ _ S1 ⟨rfl, rfl, rfl⟩
  refine Ru.pop d_scbe_9 rfl ?_
  exact Ru.ret d_scbe_10 rfl [] (fun _ q => nomatch q) (Nat.le_of_ble_eq_true rfl) (Nat.le_of_ble_eq_true rfl) ⟨rfl, rfl, rfl⟩
abbrev I_ucbe : Own.Inf := (⟨"java/lang/StringUTF16", "checkBoundsBeginEnd", "(II[B)V"⟩, jdk_52_method_93_code, 3, (Option.none : Option Jvm.ClassFile.FieldType), { frames := 2, cells := 0, slots := 0, locals := 29 })
theorem d_ucbe_0 : Own.D1 jdk_52_method_93_code 0 (.iload_n 0) 1 1 := ⟨by decide +kernel, rfl⟩
theorem d_ucbe_1 : Own.D1 jdk_52_method_93_code 1 (.iload_n 1) 1 2 := ⟨by decide +kernel, rfl⟩
theorem d_ucbe_2 : Own.D1 jdk_52_method_93_code 2 (.aload_n 2) 1 3 := ⟨by decide +kernel, rfl⟩
theorem d_ucbe_3 : Own.D1 jdk_52_method_93_code 3 (.invokestatic 48) 3 6 := ⟨by decide +kernel, rfl⟩
theorem d_ucbe_6 : Own.D1 jdk_52_method_93_code 6 (.invokestatic 241) 3 9 := ⟨by decide +kernel, rfl⟩
theorem d_ucbe_9 : Own.D1 jdk_52_method_93_code 9 .return_ 1 10 := ⟨by decide +kernel, rfl⟩
theorem np_ucbe : Own.npar "(II[B)V" = some 3 := by decide +kernel
set_option maxRecDepth 65536 in
set_option maxHeartbeats 40000000 in
theorem c_ucbe {G : Own.Wd} {a0 : Array Value} (e : Ev G a0) {t : Addr} {cs : List Int32} {h : Heap} (hB : Ary G.Z h t .byte (cs.flatMap u16)) : Met G I_ucbe #[(.int (n32 0)), (.int (n32 cs.length)), (.ref t)] h [] (Rv (fun h' S' => S' = [] ∧ h' = h)) := by
  refine Met.intro (ls := #[.val (.int (n32 0)), .val (.int (n32 cs.length)), .val (.ref t)]) (plainFor_of_name pn_0) (fun m => by first | (simp [entryFrame, mkF, argsToLocals, Value.category, I_ucbe]; done) | (simp [entryFrame, mkF, argsToLocals, Value.category]; rfl) | rfl) ?_
  intro K
  have hvl : 2 * cs.length < 2147483648 := by obtain ⟨c, -, e1, e2, -⟩ := hB; rw [u16_len] at e2; exact e2
  refine Ru.iloadN d_ucbe_0 rfl ?_
  refine Ru.iloadN d_ucbe_1 rfl ?_
  refine Ru.aloadN d_ucbe_2 rfl rfl ?_
  refine Ru.callS0 (J := I_ulen) (c_ulen e hB) d_ucbe_3 (e.w 116 rfl) (e.w 117 rfl) (e.w 23 rfl) (e.w 118 rfl) (by decide) np_ulen rfl (argsL := [(.ref t)]) (rest := [(.int (n32 cs.length)), (.int (n32 0))]) rfl rfl (fun _ q => nomatch q) (Nat.le_of_ble_eq_true rfl) (Nat.le_of_ble_eq_true rfl) (Nat.le_of_ble_eq_true rfl) (Nat.le_of_ble_eq_true rfl) (WP.rt ?_)
  rintro _ _ S1 ⟨rfl, rfl, rfl⟩
  refine Ru.callS0 (J := I_scbe) (c_scbe e (by omega)) d_ucbe_6 (e.w 119 rfl) (e.w 120 rfl) (e.w 8 rfl) (e.w 121 rfl) (by decide) np_scbe rfl (argsL := [(.int (n32 0)), (.int (n32 cs.length)), (.int (n32 cs.length))]) (rest := []) rfl rfl (fun _ q => nomatch q) (Nat.le_of_ble_eq_true rfl) (Nat.le_of_ble_eq_true rfl) (Nat.le_of_ble_eq_true rfl) (Nat.le_of_ble_eq_true rfl) (WP.rv ?_)
  rintro _ S2 ⟨rfl, rfl⟩
  exact Ru.ret d_ucbe_9 rfl [] (fun _ q => nomatch q) (Nat.le_of_ble_eq_true rfl) (Nat.le_of_ble_eq_true rfl) ⟨rfl, rfl, rfl⟩
abbrev I_ixcu : Own.Inf := (⟨"java/lang/StringUTF16", "indexOfCharUnsafe", "([BIII)I"⟩, jdk_52_method_48_code, 5, (Option.some Jvm.ClassFile.FieldType.int), { frames := 1, cells := 0, slots := 0, locals := 14 })
theorem d_ixcu_0 : Own.D1 jdk_52_method_48_code 0 (.iload_n 2) 1 1 := ⟨by decide +kernel, rfl⟩
theorem d_ixcu_1 : Own.D1 jdk_52_method_48_code 1 (.istore 4) 2 3 := ⟨by decide +kernel, rfl⟩
theorem d_ixcu_3 : Own.D1 jdk_52_method_48_code 3 (.iload 4) 2 5 := ⟨by decide +kernel, rfl⟩
theorem d_ixcu_5 : Own.D1 jdk_52_method_48_code 5 (.iload_n 3) 1 6 := ⟨by decide +kernel, rfl⟩
theorem d_ixcu_6 : Own.DB jdk_52_method_48_code 6 (.if_icmp .ge 22) 3 (22) 9 28 := ⟨by decide +kernel, rfl, by decide, rfl⟩
theorem d_ixcu_9 : Own.D1 jdk_52_method_48_code 9 (.aload_n 0) 1 10 := ⟨by decide +kernel, rfl⟩
theorem d_ixcu_10 : Own.D1 jdk_52_method_48_code 10 (.iload 4) 2 12 := ⟨by decide +kernel, rfl⟩
theorem d_ixcu_12 : Own.D1 jdk_52_method_48_code 12 (.invokestatic 71) 3 15 := ⟨by decide +kernel, rfl⟩
theorem d_ixcu_15 : Own.D1 jdk_52_method_48_code 15 (.iload_n 1) 1 16 := ⟨by decide +kernel, rfl⟩
theorem d_ixcu_16 : Own.DB jdk_52_method_48_code 16 (.if_icmp .ne 6) 3 (6) 19 22 := ⟨by decide +kernel, rfl, by decide, rfl⟩
theorem d_ixcu_19 : Own.D1 jdk_52_method_48_code 19 (.iload 4) 2 21 := ⟨by decide +kernel, rfl⟩
theorem d_ixcu_21 : Own.D1 jdk_52_method_48_code 21 .ireturn 1 22 := ⟨by decide +kernel, rfl⟩
theorem d_ixcu_22 : Own.D1 jdk_52_method_48_code 22 (.iinc 4 1) 3 25 := ⟨by decide +kernel, rfl⟩
theorem d_ixcu_25 : Own.DB jdk_52_method_48_code 25 (.goto (-22)) 3 (-22) 28 3 := ⟨by decide +kernel, rfl, by decide, rfl⟩
theorem d_ixcu_28 : Own.D1 jdk_52_method_48_code 28 (.iconst (-1)) 1 29 := ⟨by decide +kernel, rfl⟩
theorem d_ixcu_29 : Own.D1 jdk_52_method_48_code 29 .ireturn 1 30 := ⟨by decide +kernel, rfl⟩
theorem np_ixcu : Own.npar "([BIII)I" = some 4 := by decide +kernel
set_option maxRecDepth 65536 in
set_option maxHeartbeats 40000000 in
theorem c_ixcu {G : Own.Wd} {a0 : Array Value} (e : Ev G a0) {t : Addr} {cs : List Int32} {ch : Int32} {h : Heap} (hB : Ary G.Z h t .byte (cs.flatMap u16)) (hC : ∀ c ∈ cs, IsC c) : Met G I_ixcu #[(.ref t), (.int ch), (.int (n32 0)), (.int (n32 cs.length))] h [] (Rt (fun x h' S' => S' = [] ∧ h' = h ∧ ∃ r : Int32, x = .int r ∧ (¬ r < 0 ↔ ch ∈ cs))) := by
  refine Met.intro (ls := #[.val (.ref t), .val (.int ch), .val (.int (n32 0)), .val (.int (n32 cs.length)), .unset]) (plainFor_of_name pn_0) (fun m => by first | (simp [entryFrame, mkF, argsToLocals, Value.category, I_ixcu]; done) | (simp [entryFrame, mkF, argsToLocals, Value.category]; rfl) | rfl) ?_
  intro K
  have hvl : 2 * cs.length < 2147483648 := by obtain ⟨c, -, e1, e2, -⟩ := hB; rw [u16_len] at e2; exact e2
  refine Ru.iloadN d_ixcu_0 rfl ?_
  refine Ru.istore d_ixcu_1 (ls' := #[.val (.ref t), .val (.int ch), .val (.int (n32 0)), .val (.int (n32 cs.length)), .val (.int (n32 0))]) rfl ?_
  have loop : ∀ (d i cs0 sl0 : Nat), cs0 = 0 → sl0 = 0 → i + d = cs.length → ch ∉ cs.take i → WP G I_ixcu (Rt (fun x h' S' => S' = [] ∧ h' = h ∧ ∃ r : Int32, x = .int r ∧ (¬ r < 0 ↔ ch ∈ cs))) K [] h cs0 sl0 3 #[.val (.ref t), .val (.int ch), .val (.int (n32 0)), .val (.int (n32 cs.length)), .val (.int (n32 i))] [] := by
    intro d
    induction d with
    | zero =>
      intro i c0 s0 hc0 hs0 hi hn
      subst hc0; subst hs0; obtain rfl : i = cs.length := by omega
      refine Ru.iload d_ixcu_3 rfl ?_
      refine Ru.iloadN d_ixcu_5 rfl ?_
      refine Ru.icmpY d_ixcu_6 (show ¬ (n32 cs.length) < (n32 cs.length) from (by simp)) ?_
      refine Ru.iconst (x := -1) d_ixcu_28 rfl ?_
      exact Ru.ireturn d_ixcu_29 rfl [] (fun _ q => nomatch q) (Nat.le_of_ble_eq_true rfl) (Nat.le_of_ble_eq_true rfl) ⟨_, rfl, rfl, rfl, _, rfl, notin_end hn⟩
    | succ d ih =>
      intro i c0 s0 hc0 hs0 hi hn
      subst hc0; subst hs0; have hil : i < cs.length := by omega
      obtain ⟨c, hc⟩ : ∃ c, cs[i]? = some c := ⟨_, List.getElem?_eq_getElem hil⟩
      have hcm := List.mem_of_getElem? hc
      refine Ru.iload d_ixcu_3 rfl ?_
      refine Ru.iloadN d_ixcu_5 rfl ?_
      refine Ru.icmpN d_ixcu_6 (show (n32 i) < (n32 cs.length) from ((n32_lt (by omega) (by omega)).mpr hil)) ?_
      refine Ru.aloadN d_ixcu_9 rfl rfl ?_
      refine Ru.iload d_ixcu_10 rfl ?_
      refine Ru.callS0 (J := I_getc) (c_getc e hB hc (hC c hcm)) d_ixcu_12 (e.w 101 rfl) (e.w 102 rfl) (e.w 23 rfl) (e.w 103 rfl) (by decide) np_getc rfl (argsL := [(.ref t), (.int (n32 i))]) (rest := []) rfl rfl (fun _ q => nomatch q) (Nat.le_of_ble_eq_true rfl) (Nat.le_of_ble_eq_true rfl) (Nat.le_of_ble_eq_true rfl) (Nat.le_of_ble_eq_true rfl) (WP.rt ?_)
      rintro _ h9 S4 ⟨rfl, e9, rfl⟩
      rw [e9]
      refine Ru.iloadN d_ixcu_15 rfl ?_
      refine Ru.icmp d_ixcu_16 (fun (c1 : ¬ c = ch) => ?_) (fun (c1 : c = ch) => ?_)
      · refine Ru.iinc (y := (1 : Int32)) d_ixcu_22 rfl rfl (ls' := #[.val (.ref t), .val (.int ch), .val (.int (n32 0)), .val (.int (n32 cs.length)), .val (.int ((n32 i) + (1 : Int32)))]) rfl ?_
        refine Ru.goto d_ixcu_25 ?_
        rw [n32_succ]
        exact ih (i + 1) _ _ rfl rfl (by omega) (notin_step hn hc c1)
      · refine Ru.iload d_ixcu_19 rfl ?_
        exact Ru.ireturn d_ixcu_21 rfl [] (fun _ q => nomatch q) (Nat.le_of_ble_eq_true rfl) (Nat.le_of_ble_eq_true rfl) ⟨_, rfl, rfl, rfl, _, rfl, ⟨fun _ => c1 ▸ hcm, fun _ => n32_nn (by omega)⟩⟩
  exact loop cs.length 0 0 0 rfl rfl (by omega) (by simp)
abbrev I_uixc : Own.Inf := (⟨"java/lang/StringUTF16", "indexOfChar", "([BIII)I"⟩, jdk_52_method_47_code, 4, (Option.some Jvm.ClassFile.FieldType.int), { frames := 3, cells := 0, slots := 0, locals := 43 })
theorem d_uixc_0 : Own.D1 jdk_52_method_47_code 0 (.iload_n 2) 1 1 := ⟨by decide +kernel, rfl⟩
theorem d_uixc_1 : Own.D1 jdk_52_method_47_code 1 (.iload_n 3) 1 2 := ⟨by decide +kernel, rfl⟩
theorem d_uixc_2 : Own.D1 jdk_52_method_47_code 2 (.aload_n 0) 1 3 := ⟨by decide +kernel, rfl⟩
theorem d_uixc_3 : Own.D1 jdk_52_method_47_code 3 (.invokestatic 96) 3 6 := ⟨by decide +kernel, rfl⟩
theorem d_uixc_6 : Own.D1 jdk_52_method_47_code 6 (.aload_n 0) 1 7 := ⟨by decide +kernel, rfl⟩
theorem d_uixc_7 : Own.D1 jdk_52_method_47_code 7 (.iload_n 1) 1 8 := ⟨by decide +kernel, rfl⟩
theorem d_uixc_8 : Own.D1 jdk_52_method_47_code 8 (.iload_n 2) 1 9 := ⟨by decide +kernel, rfl⟩
theorem d_uixc_9 : Own.D1 jdk_52_method_47_code 9 (.iload_n 3) 1 10 := ⟨by decide +kernel, rfl⟩
theorem d_uixc_10 : Own.D1 jdk_52_method_47_code 10 (.invokestatic 244) 3 13 := ⟨by decide +kernel, rfl⟩
theorem d_uixc_13 : Own.D1 jdk_52_method_47_code 13 .ireturn 1 14 := ⟨by decide +kernel, rfl⟩
theorem np_uixc : Own.npar "([BIII)I" = some 4 := by decide +kernel
set_option maxRecDepth 65536 in
set_option maxHeartbeats 40000000 in
theorem c_uixc {G : Own.Wd} {a0 : Array Value} (e : Ev G a0) {t : Addr} {cs : List Int32} {ch : Int32} {h : Heap} (hB : Ary G.Z h t .byte (cs.flatMap u16)) (hC : ∀ c ∈ cs, IsC c) : Met G I_uixc #[(.ref t), (.int ch), (.int (n32 0)), (.int (n32 cs.length))] h [] (Rt (fun x h' S' => S' = [] ∧ h' = h ∧ ∃ r : Int32, x = .int r ∧ (¬ r < 0 ↔ ch ∈ cs))) := by
  refine Met.intro (ls := #[.val (.ref t), .val (.int ch), .val (.int (n32 0)), .val (.int (n32 cs.length))]) (plainFor_of_name pn_0) (fun m => by first | (simp [entryFrame, mkF, argsToLocals, Value.category, I_uixc]; done) | (simp [entryFrame, mkF, argsToLocals, Value.category]; rfl) | rfl) ?_
  intro K
  refine Ru.iloadN d_uixc_0 rfl ?_
  refine Ru.iloadN d_uixc_1 rfl ?_
  refine Ru.aloadN d_uixc_2 rfl rfl ?_
  refine Ru.callS0 (J := I_ucbe) (c_ucbe e hB) d_uixc_3 (e.w 113 rfl) (e.w 114 rfl) (e.w 23 rfl) (e.w 115 rfl) (by decide) np_ucbe rfl (argsL := [(.int (n32 0)), (.int (n32 cs.length)), (.ref t)]) (rest := []) rfl rfl (fun _ q => nomatch q) (Nat.le_of_ble_eq_true rfl) (Nat.le_of_ble_eq_true rfl) (Nat.le_of_ble_eq_true rfl) (Nat.le_of_ble_eq_true rfl) (WP.rv ?_)
  rintro _ S1 ⟨rfl, rfl⟩
  refine Ru.aloadN d_uixc_6 rfl rfl ?_
  refine Ru.iloadN d_uixc_7 rfl ?_
  refine Ru.iloadN d_uixc_8 rfl ?_
  refine Ru.iloadN d_uixc_9 rfl ?_
  refine Ru.callS0 (J := I_ixcu) (c_ixcu e hB hC) d_uixc_10 (e.w 127 rfl) (e.w 128 rfl) (e.w 23 rfl) (e.w 129 rfl) (by decide) np_ixcu rfl (argsL := [(.ref t), (.int ch), (.int (n32 0)), (.int (n32 cs.length))]) (rest := []) rfl rfl (fun _ q => nomatch q) (Nat.le_of_ble_eq_true rfl) (Nat.le_of_ble_eq_true rfl) (Nat.le_of_ble_eq_true rfl) (Nat.le_of_ble_eq_true rfl) (WP.rt ?_)
  rintro _ _ S4 ⟨rfl, rfl, r, rfl, hr⟩
  exact Ru.ireturn d_uixc_13 rfl [] (fun _ q => nomatch q) (Nat.le_of_ble_eq_true rfl) (Nat.le_of_ble_eq_true rfl) ⟨_, rfl, rfl, rfl, r, rfl, hr⟩
abbrev I_uix : Own.Inf := (⟨"java/lang/StringUTF16", "indexOf", "([BIII)I"⟩, jdk_52_method_40_code, 4, (Option.some Jvm.ClassFile.FieldType.int), { frames := 4, cells := 0, slots := 0, locals := 58 })
theorem d_uix_0 : Own.D1 jdk_52_method_40_code 0 (.iload_n 2) 1 1 := ⟨by decide +kernel, rfl⟩
theorem d_uix_1 : Own.D1 jdk_52_method_40_code 1 (.iconst 0) 1 2 := ⟨by decide +kernel, rfl⟩
theorem d_uix_2 : Own.D1 jdk_52_method_40_code 2 (.invokestatic 224) 3 5 := ⟨by decide +kernel, rfl⟩
theorem d_uix_5 : Own.D1 jdk_52_method_40_code 5 (.istore_n 2) 1 6 := ⟨by decide +kernel, rfl⟩
theorem d_uix_6 : Own.D1 jdk_52_method_40_code 6 (.iload_n 3) 1 7 := ⟨by decide +kernel, rfl⟩
theorem d_uix_7 : Own.D1 jdk_52_method_40_code 7 (.aload_n 0) 1 8 := ⟨by decide +kernel, rfl⟩
theorem d_uix_8 : Own.D1 jdk_52_method_40_code 8 .arraylength 1 9 := ⟨by decide +kernel, rfl⟩
theorem d_uix_9 : Own.D1 jdk_52_method_40_code 9 (.iconst 1) 1 10 := ⟨by decide +kernel, rfl⟩
theorem d_uix_10 : Own.D1 jdk_52_method_40_code 10 .ishr 1 11 := ⟨by decide +kernel, rfl⟩
theorem d_uix_11 : Own.D1 jdk_52_method_40_code 11 (.invokestatic 183) 3 14 := ⟨by decide +kernel, rfl⟩
theorem d_uix_14 : Own.D1 jdk_52_method_40_code 14 (.istore_n 3) 1 15 := ⟨by decide +kernel, rfl⟩
theorem d_uix_15 : Own.D1 jdk_52_method_40_code 15 (.iload_n 2) 1 16 := ⟨by decide +kernel, rfl⟩
theorem d_uix_16 : Own.D1 jdk_52_method_40_code 16 (.iload_n 3) 1 17 := ⟨by decide +kernel, rfl⟩
theorem d_uix_17 : Own.DB jdk_52_method_40_code 17 (.if_icmp .lt 5) 3 (5) 20 22 := ⟨by decide +kernel, rfl, by decide, rfl⟩
theorem d_uix_20 : Own.D1 jdk_52_method_40_code 20 (.iconst (-1)) 1 21 := ⟨by decide +kernel, rfl⟩
theorem d_uix_21 : Own.D1 jdk_52_method_40_code 21 .ireturn 1 22 := ⟨by decide +kernel, rfl⟩
theorem d_uix_22 : Own.D1 jdk_52_method_40_code 22 (.iload_n 1) 1 23 := ⟨by decide +kernel, rfl⟩
theorem d_uix_23 : Own.D1 jdk_52_method_40_code 23 (.ldc 227) 2 25 := ⟨by decide +kernel, rfl⟩
theorem d_uix_25 : Own.DB jdk_52_method_40_code 25 (.if_icmp .ge 11) 3 (11) 28 36 := ⟨by decide +kernel, rfl, by decide, rfl⟩
theorem d_uix_28 : Own.D1 jdk_52_method_40_code 28 (.aload_n 0) 1 29 := ⟨by decide +kernel, rfl⟩
theorem d_uix_29 : Own.D1 jdk_52_method_40_code 29 (.iload_n 1) 1 30 := ⟨by decide +kernel, rfl⟩
theorem d_uix_30 : Own.D1 jdk_52_method_40_code 30 (.iload_n 2) 1 31 := ⟨by decide +kernel, rfl⟩
theorem d_uix_31 : Own.D1 jdk_52_method_40_code 31 (.iload_n 3) 1 32 := ⟨by decide +kernel, rfl⟩
theorem d_uix_32 : Own.D1 jdk_52_method_40_code 32 (.invokestatic 228) 3 35 := ⟨by decide +kernel, rfl⟩
theorem d_uix_35 : Own.D1 jdk_52_method_40_code 35 .ireturn 1 36 := ⟨by decide +kernel, rfl⟩
theorem d_uix_36 : Own.D1 jdk_52_method_40_code 36 (.aload_n 0) 1 37 := ⟨by decide +kernel, rfl⟩
theorem d_uix_37 : Own.D1 jdk_52_method_40_code 37 (.iload_n 1) 1 38 := ⟨by decide +kernel, rfl⟩
theorem d_uix_38 : Own.D1 jdk_52_method_40_code 38 (.iload_n 2) 1 39 := ⟨by decide +kernel, rfl⟩
theorem d_uix_39 : Own.D1 jdk_52_method_40_code 39 (.iload_n 3) 1 40 := ⟨by decide +kernel, rfl⟩
theorem d_uix_40 : Own.D1 jdk_52_method_40_code 40 (.invokestatic 232) 3 43 := ⟨by decide +kernel, rfl⟩
theorem d_uix_43 : Own.D1 jdk_52_method_40_code 43 .ireturn 1 44 := ⟨by decide +kernel, rfl⟩
theorem np_uix : Own.npar "([BIII)I" = some 4 := by decide +kernel
set_option maxRecDepth 65536 in
set_option maxHeartbeats 40000000 in
theorem c_uix {G : Own.Wd} {a0 : Array Value} (e : Ev G a0) {t : Addr} {cs : List Int32} {ch : Int32} {h : Heap} (hB : Ary G.Z h t .byte (cs.flatMap u16)) (hC : ∀ c ∈ cs, IsC c) (h0 : 0 < cs.length) (h64 : ch < 65536) : Met G I_uix #[(.ref t), (.int ch), (.int (n32 0)), (.int (n32 cs.length))] h [] (Rt (fun x h' S' => S' = [] ∧ h' = h ∧ ∃ r : Int32, x = .int r ∧ (¬ r < 0 ↔ ch ∈ cs))) := by
  refine Met.intro (ls := #[.val (.ref t), .val (.int ch), .val (.int (n32 0)), .val (.int (n32 cs.length))]) (plainFor_of_name pn_0) (fun m => by first | (simp [entryFrame, mkF, argsToLocals, Value.category, I_uix]; done) | (simp [entryFrame, mkF, argsToLocals, Value.category]; rfl) | rfl) ?_
  intro K
  have hvl : 2 * cs.length < 2147483648 := by obtain ⟨c, -, e1, e2, -⟩ := hB; rw [u16_len] at e2; exact e2
  refine Ru.iloadN d_uix_0 rfl ?_
  refine Ru.iconst (x := 0) d_uix_1 rfl ?_
  refine WP.topI (show (0 : Int32) = (n32 0) from rfl) ?_
  refine Ru.callS0 (J := I_mmax) (c_mmax e) d_uix_2 (e.w 107 rfl) (e.w 76 rfl) (e.w 77 rfl) (e.w 78 rfl) (by decide) np_mmax rfl (argsL := [(.int (n32 0)), (.int (n32 0))]) (rest := []) rfl rfl (fun _ q => nomatch q) (Nat.le_of_ble_eq_true rfl) (Nat.le_of_ble_eq_true rfl) (Nat.le_of_ble_eq_true rfl) (Nat.le_of_ble_eq_true rfl) (WP.rt ?_)
  rintro _ _ S2 ⟨rfl, rfl, rfl⟩
  refine Ru.istoreN d_uix_5 (ls' := #[.val (.ref t), .val (.int ch), .val (.int (n32 0)), .val (.int (n32 cs.length))]) rfl ?_
  refine Ru.iloadN d_uix_6 rfl ?_
  refine Ru.aloadN d_uix_7 rfl rfl ?_
  refine Ru.arraylength (n := (n32 (2 * cs.length))) d_uix_8 hB (by rw [← u16_len cs]; rfl) ?_
  refine Ru.iconst (x := 1) d_uix_9 rfl ?_
  refine Ru.ishr d_uix_10 ?_
  refine WP.topI (show ((n32 (2 * cs.length)) >>> ((1 : Int32) &&& 31)) = (n32 cs.length) from (n32_shr1 (by omega))) ?_
  refine Ru.callS0 (J := I_mmin) (c_mmin e) d_uix_11 (e.w 108 rfl) (e.w 80 rfl) (e.w 77 rfl) (e.w 81 rfl) (by decide) np_mmin rfl (argsL := [(.int (n32 cs.length)), (.int (n32 cs.length))]) (rest := []) rfl rfl (fun _ q => nomatch q) (Nat.le_of_ble_eq_true rfl) (Nat.le_of_ble_eq_true rfl) (Nat.le_of_ble_eq_true rfl) (Nat.le_of_ble_eq_true rfl) (WP.rt ?_)
  rintro _ _ S3 ⟨rfl, rfl, rfl⟩
  refine Ru.istoreN d_uix_14 (ls' := #[.val (.ref t), .val (.int ch), .val (.int (n32 0)), .val (.int (n32 cs.length))]) rfl ?_
  refine Ru.iloadN d_uix_15 rfl ?_
  refine Ru.iloadN d_uix_16 rfl ?_
  refine Ru.icmpY d_uix_17 (show (n32 0) < (n32 cs.length) from ((n32_lt (by omega) (by omega)).mpr h0)) ?_
  refine Ru.iloadN d_uix_22 rfl ?_
  refine Ru.ldcInt d_uix_23 (e.w 109 rfl) ?_
  refine Ru.icmpN d_uix_25 (show ch < (65536 : Int32) from h64) ?_
  refine Ru.aloadN d_uix_28 rfl rfl ?_
  refine Ru.iloadN d_uix_29 rfl ?_
  refine Ru.iloadN d_uix_30 rfl ?_
  refine Ru.iloadN d_uix_31 rfl ?_
  refine Ru.callS0 (J := I_uixc) (c_uixc e hB hC) d_uix_32 (e.w 110 rfl) (e.w 111 rfl) (e.w 23 rfl) (e.w 112 rfl) (by decide) np_uixc rfl (argsL := [(.ref t), (.int ch), (.int (n32 0)), (.int (n32 cs.length))]) (rest := []) rfl rfl (fun _ q => nomatch q) (Nat.le_of_ble_eq_true rfl) (Nat.le_of_ble_eq_true rfl) (Nat.le_of_ble_eq_true rfl) (Nat.le_of_ble_eq_true rfl) (WP.rt ?_)
  rintro _ _ S4 ⟨rfl, rfl, r, rfl, hr⟩
  exact Ru.ireturn d_uix_35 rfl [] (fun _ q => nomatch q) (Nat.le_of_ble_eq_true rfl) (Nat.le_of_ble_eq_true rfl) ⟨_, rfl, rfl, rfl, r, rfl, hr⟩
abbrev I_scod : Own.Inf := (⟨"java/lang/String", "coder", "()B"⟩, jdk_42_method_152_code, 1, (Option.some Jvm.ClassFile.FieldType.byte), { frames := 0, cells := 0, slots := 0, locals := 0 })
theorem d_scod_0 : Own.D1 jdk_42_method_152_code 0 (.getstatic 38) 3 3 := ⟨by decide +kernel, rfl⟩
theorem d_scod_3 : Own.DB jdk_42_method_152_code 3 (.ifCond .eq 10) 3 (10) 6 13 := ⟨by decide +kernel, rfl, by decide, rfl⟩
theorem d_scod_6 : Own.D1 jdk_42_method_152_code 6 (.aload_n 0) 1 7 := ⟨by decide +kernel, rfl⟩
theorem d_scod_7 : Own.D1 jdk_42_method_152_code 7 (.getfield 15) 3 10 := ⟨by decide +kernel, rfl⟩
theorem d_scod_10 : Own.DB jdk_42_method_152_code 10 (.goto 4) 3 (4) 13 14 := ⟨by decide +kernel, rfl, by decide, rfl⟩
theorem d_scod_13 : Own.D1 jdk_42_method_152_code 13 (.iconst 1) 1 14 := ⟨by decide +kernel, rfl⟩
theorem d_scod_14 : Own.D1 jdk_42_method_152_code 14 .ireturn 1 15 := ⟨by decide +kernel, rfl⟩
theorem np_scod : Own.npar "()B" = some 0 := by decide +kernel
set_option maxRecDepth 65536 in
set_option maxHeartbeats 40000000 in
theorem c_scod {G : Own.Wd} {a0 : Array Value} (e : Ev G a0) {a : Addr} {co : Int32} {h : Heap} (F0 : Fld G.Z h a "java/lang/String" "coder" "B" (.int co)) (hb : nar .byte co = co) : Met G I_scod #[(.ref a)] h [] (Rt (fun x h' S' => S' = [] ∧ h' = h ∧ x = .int co)) := by
  refine Met.intro (ls := #[.val (.ref a)]) (plainFor_of_name pn_1) (fun m => by first | (simp [entryFrame, mkF, argsToLocals, Value.category, I_scod]; done) | (simp [entryFrame, mkF, argsToLocals, Value.category]; rfl) | rfl) ?_
  intro K
  obtain ⟨cz, hcz, hz⟩ := e.cz
  refine Ru.getstatic d_scod_0 (e.w 20 rfl) hcz ?_
  refine Ru.ifN d_scod_3 (show ¬ cz = (0 : Int32) from hz) ?_
  refine Ru.aloadN d_scod_6 rfl rfl ?_
  refine Ru.getfield d_scod_7 (e.w 32 rfl) Via.refl F0 ?_
  refine Ru.goto d_scod_10 ?_
  exact Ru.ireturnN (t := .byte) d_scod_14 rfl (by simp) hb [] (fun _ q => nomatch q) (Nat.le_of_ble_eq_true rfl) (Nat.le_of_ble_eq_true rfl) ⟨_, rfl, rfl, rfl, rfl⟩
abbrev I_islt : Own.Inf := (⟨"java/lang/String", "isLatin1", "()Z"⟩, jdk_42_method_154_code, 1, (Option.some Jvm.ClassFile.FieldType.boolean), { frames := 0, cells := 0, slots := 0, locals := 0 })
theorem d_islt_0 : Own.D1 jdk_42_method_154_code 0 (.getstatic 38) 3 3 := ⟨by decide +kernel, rfl⟩
theorem d_islt_3 : Own.DB jdk_42_method_154_code 3 (.ifCond .eq 14) 3 (14) 6 17 := ⟨by decide +kernel, rfl, by decide, rfl⟩
theorem d_islt_6 : Own.D1 jdk_42_method_154_code 6 (.aload_n 0) 1 7 := ⟨by decide +kernel, rfl⟩
theorem d_islt_7 : Own.D1 jdk_42_method_154_code 7 (.getfield 15) 3 10 := ⟨by decide +kernel, rfl⟩
theorem d_islt_10 : Own.DB jdk_42_method_154_code 10 (.ifCond .ne 7) 3 (7) 13 17 := ⟨by decide +kernel, rfl, by decide, rfl⟩
theorem d_islt_13 : Own.D1 jdk_42_method_154_code 13 (.iconst 1) 1 14 := ⟨by decide +kernel, rfl⟩
theorem d_islt_14 : Own.DB jdk_42_method_154_code 14 (.goto 4) 3 (4) 17 18 := ⟨by decide +kernel, rfl, by decide, rfl⟩
theorem d_islt_17 : Own.D1 jdk_42_method_154_code 17 (.iconst 0) 1 18 := ⟨by decide +kernel, rfl⟩
theorem d_islt_18 : Own.D1 jdk_42_method_154_code 18 .ireturn 1 19 := ⟨by decide +kernel, rfl⟩
theorem np_islt : Own.npar "()Z" = some 0 := by decide +kernel
set_option maxRecDepth 65536 in
set_option maxHeartbeats 40000000 in
theorem c_islt0 {G : Own.Wd} {a0 : Array Value} (e : Ev G a0) {a : Addr} {h : Heap} (F0 : Fld G.Z h a "java/lang/String" "coder" "B" (.int 0)) : Met G I_islt #[(.ref a)] h [] (Rt (fun x h' S' => S' = [] ∧ h' = h ∧ x = .int 1)) := by
  refine Met.intro (ls := #[.val (.ref a)]) (plainFor_of_name pn_1) (fun m => by first | (simp [entryFrame, mkF, argsToLocals, Value.category, I_islt]; done) | (simp [entryFrame, mkF, argsToLocals, Value.category]; rfl) | rfl) ?_
  intro K
  obtain ⟨cz, hcz, hz⟩ := e.cz
  refine Ru.getstatic d_islt_0 (e.w 20 rfl) hcz ?_
  refine Ru.ifN d_islt_3 (show ¬ cz = (0 : Int32) from hz) ?_
  refine Ru.aloadN d_islt_6 rfl rfl ?_
  refine Ru.getfield d_islt_7 (e.w 32 rfl) Via.refl F0 ?_
  refine Ru.ifN d_islt_10 (show (0 : Int32) = (0 : Int32) from rfl) ?_
  refine Ru.iconst (x := 1) d_islt_13 rfl ?_
  refine Ru.goto d_islt_14 ?_
  exact Ru.ireturnN (t := .boolean) (x' := (1 : Int32)) d_islt_18 rfl (by simp) rfl [] (fun _ q => nomatch q) (Nat.le_of_ble_eq_true rfl) (Nat.le_of_ble_eq_true rfl) ⟨_, rfl, rfl, rfl, rfl⟩
set_option maxRecDepth 65536 in
set_option maxHeartbeats 40000000 in
theorem c_islt1 {G : Own.Wd} {a0 : Array Value} (e : Ev G a0) {a : Addr} {h : Heap} (F0 : Fld G.Z h a "java/lang/String" "coder" "B" (.int 1)) : Met G I_islt #[(.ref a)] h [] (Rt (fun x h' S' => S' = [] ∧ h' = h ∧ x = .int 0)) := by
  refine Met.intro (ls := #[.val (.ref a)]) (plainFor_of_name pn_1) (fun m => by first | (simp [entryFrame, mkF, argsToLocals, Value.category, I_islt]; done) | (simp [entryFrame, mkF, argsToLocals, Value.category]; rfl) | rfl) ?_
  intro K
  obtain ⟨cz, hcz, hz⟩ := e.cz
  refine Ru.getstatic d_islt_0 (e.w 20 rfl) hcz ?_
  refine Ru.ifN d_islt_3 (show ¬ cz = (0 : Int32) from hz) ?_
  refine Ru.aloadN d_islt_6 rfl rfl ?_
  refine Ru.getfield d_islt_7 (e.w 32 rfl) Via.refl F0 ?_
  refine Ru.ifY d_islt_10 (show ¬ (1 : Int32) = (0 : Int32) from (by decide)) ?_
  refine Ru.iconst (x := 0) d_islt_17 rfl ?_
  exact Ru.ireturnN (t := .boolean) (x' := (0 : Int32)) d_islt_18 rfl (by simp) rfl [] (fun _ q => nomatch q) (Nat.le_of_ble_eq_true rfl) (Nat.le_of_ble_eq_true rfl) ⟨_, rfl, rfl, rfl, rfl⟩
abbrev I_slen : Own.Inf := (⟨"java/lang/String", "length", "()I"⟩, jdk_42_method_54_code, 1, (Option.some Jvm.ClassFile.FieldType.int), { frames := 1, cells := 0, slots := 0, locals := 13 })
theorem d_slen_0 : Own.D1 jdk_42_method_54_code 0 (.aload_n 0) 1 1 := ⟨by decide +kernel, rfl⟩
theorem d_slen_1 : Own.D1 jdk_42_method_54_code 1 (.getfield 9) 3 4 := ⟨by decide +kernel, rfl⟩
theorem d_slen_4 : Own.D1 jdk_42_method_54_code 4 .arraylength 1 5 := ⟨by decide +kernel, rfl⟩
theorem d_slen_5 : Own.D1 jdk_42_method_54_code 5 (.aload_n 0) 1 6 := ⟨by decide +kernel, rfl⟩
theorem d_slen_6 : Own.D1 jdk_42_method_54_code 6 (.invokevirtual 335) 3 9 := ⟨by decide +kernel, rfl⟩
theorem d_slen_9 : Own.D1 jdk_42_method_54_code 9 .ishr 1 10 := ⟨by decide +kernel, rfl⟩
theorem d_slen_10 : Own.D1 jdk_42_method_54_code 10 .ireturn 1 11 := ⟨by decide +kernel, rfl⟩
theorem np_slen : Own.npar "()I" = some 0 := by decide +kernel
set_option maxRecDepth 65536 in
set_option maxHeartbeats 40000000 in
theorem c_slen {G : Own.Wd} {a0 : Array Value} (e : Ev G a0) {a t : Addr} {cs : List Int32} {h : Heap} (T : Str G.Z h a t cs) : Met G I_slen #[(.ref a)] h [] (Rt (fun x h' S' => S' = [] ∧ h' = h ∧ x = .int (n32 cs.length))) := by
  refine Met.intro (ls := #[.val (.ref a)]) (plainFor_of_name pn_1) (fun m => by first | (simp [entryFrame, mkF, argsToLocals, Value.category, I_slen]; done) | (simp [entryFrame, mkF, argsToLocals, Value.category]; rfl) | rfl) ?_
  intro K
  rcases T with T | T
  · refine Ru.aloadN d_slen_0 rfl rfl ?_
    refine Ru.getfield d_slen_1 (e.w 34 rfl) Via.refl T.2.1 ?_
    refine Ru.arraylength (n := (n32 cs.length)) d_slen_4 T.2.2.2.1 (by simp [n32]) ?_
    refine Ru.aloadN d_slen_5 rfl rfl ?_
    refine Ru.callV0 (J := I_scod) (c_scod e T.2.2.1 rfl) d_slen_6 T.1 (e.w 63 rfl) (e.w 64 rfl) (nf_sel (e.w 66 rfl)) (e.w 66 rfl) (e.w 65 rfl) (e.w 8 rfl) (e.w 67 rfl) (by decide) np_scod rfl (a := a) (argsL := []) (rest := [(.int (n32 cs.length))]) rfl rfl (fun _ q => nomatch q) (Nat.le_of_ble_eq_true rfl) (Nat.le_of_ble_eq_true rfl) (Nat.le_of_ble_eq_true rfl) (Nat.le_of_ble_eq_true rfl) (WP.rt ?_)
    rintro _ _ S1 ⟨rfl, rfl, rfl⟩
    refine Ru.ishr d_slen_9 ?_
    refine WP.topI (show ((n32 cs.length) >>> ((0 : Int32) &&& 31)) = (n32 cs.length) from (shr0 _)) ?_
    exact Ru.ireturn d_slen_10 rfl [] (fun _ q => nomatch q) (Nat.le_of_ble_eq_true rfl) (Nat.le_of_ble_eq_true rfl) ⟨_, rfl, rfl, rfl, rfl⟩
  · have hB := T.2.2.2.1
    have hvl : 2 * cs.length < 2147483648 := by obtain ⟨c, -, e1, e2, -⟩ := hB; rw [u16_len] at e2; exact e2
    refine Ru.aloadN d_slen_0 rfl rfl ?_
    refine Ru.getfield d_slen_1 (e.w 34 rfl) Via.refl T.2.1 ?_
    refine Ru.arraylength (n := (n32 (2 * cs.length))) d_slen_4 hB (by rw [← u16_len cs]; rfl) ?_
    refine Ru.aloadN d_slen_5 rfl rfl ?_
    refine Ru.callV0 (J := I_scod) (c_scod e T.2.2.1 rfl) d_slen_6 T.1 (e.w 63 rfl) (e.w 64 rfl) (nf_sel (e.w 66 rfl)) (e.w 66 rfl) (e.w 65 rfl) (e.w 8 rfl) (e.w 67 rfl) (by decide) np_scod rfl (a := a) (argsL := []) (rest := [(.int (n32 (2 * cs.length)))]) rfl rfl (fun _ q => nomatch q) (Nat.le_of_ble_eq_true rfl) (Nat.le_of_ble_eq_true rfl) (Nat.le_of_ble_eq_true rfl) (Nat.le_of_ble_eq_true rfl) (WP.rt ?_)
    rintro _ _ S1 ⟨rfl, rfl, rfl⟩
    refine Ru.ishr d_slen_9 ?_
    refine WP.topI (show ((n32 (2 * cs.length)) >>> ((1 : Int32) &&& 31)) = (n32 cs.length) from (n32_shr1 (by omega))) ?_
    exact Ru.ireturn d_slen_10 rfl [] (fun _ q => nomatch q) (Nat.le_of_ble_eq_true rfl) (Nat.le_of_ble_eq_true rfl) ⟨_, rfl, rfl, rfl, rfl⟩
abbrev I_six2 : Own.Inf := (⟨"java/lang/String", "indexOf", "(II)I"⟩, jdk_42_method_80_code, 3, (Option.some Jvm.ClassFile.FieldType.int), { frames := 5, cells := 0, slots := 0, locals := 73 })
theorem d_six2_0 : Own.D1 jdk_42_method_80_code 0 (.aload_n 0) 1 1 := ⟨by decide +kernel, rfl⟩
theorem d_six2_1 : Own.D1 jdk_42_method_80_code 1 (.invokevirtual 492) 3 4 := ⟨by decide +kernel, rfl⟩
theorem d_six2_4 : Own.DB jdk_42_method_80_code 4 (.ifCond .eq 19) 3 (19) 7 23 := ⟨by decide +kernel, rfl, by decide, rfl⟩
theorem d_six2_7 : Own.D1 jdk_42_method_80_code 7 (.aload_n 0) 1 8 := ⟨by decide +kernel, rfl⟩
theorem d_six2_8 : Own.D1 jdk_42_method_80_code 8 (.getfield 9) 3 11 := ⟨by decide +kernel, rfl⟩
theorem d_six2_11 : Own.D1 jdk_42_method_80_code 11 (.iload_n 1) 1 12 := ⟨by decide +kernel, rfl⟩
theorem d_six2_12 : Own.D1 jdk_42_method_80_code 12 (.iload_n 2) 1 13 := ⟨by decide +kernel, rfl⟩
theorem d_six2_13 : Own.D1 jdk_42_method_80_code 13 (.aload_n 0) 1 14 := ⟨by decide +kernel, rfl⟩
theorem d_six2_14 : Own.D1 jdk_42_method_80_code 14 (.invokevirtual 505) 3 17 := ⟨by decide +kernel, rfl⟩
theorem d_six2_17 : Own.D1 jdk_42_method_80_code 17 (.invokestatic 637) 3 20 := ⟨by decide +kernel, rfl⟩
theorem d_six2_20 : Own.DB jdk_42_method_80_code 20 (.goto 16) 3 (16) 23 36 := ⟨by decide +kernel, rfl, by decide, rfl⟩
theorem d_six2_23 : Own.D1 jdk_42_method_80_code 23 (.aload_n 0) 1 24 := ⟨by decide +kernel, rfl⟩
theorem d_six2_24 : Own.D1 jdk_42_method_80_code 24 (.getfield 9) 3 27 := ⟨by decide +kernel, rfl⟩
theorem d_six2_27 : Own.D1 jdk_42_method_80_code 27 (.iload_n 1) 1 28 := ⟨by decide +kernel, rfl⟩
theorem d_six2_28 : Own.D1 jdk_42_method_80_code 28 (.iload_n 2) 1 29 := ⟨by decide +kernel, rfl⟩
theorem d_six2_29 : Own.D1 jdk_42_method_80_code 29 (.aload_n 0) 1 30 := ⟨by decide +kernel, rfl⟩
theorem d_six2_30 : Own.D1 jdk_42_method_80_code 30 (.invokevirtual 505) 3 33 := ⟨by decide +kernel, rfl⟩
theorem d_six2_33 : Own.D1 jdk_42_method_80_code 33 (.invokestatic 640) 3 36 := ⟨by decide +kernel, rfl⟩
theorem d_six2_36 : Own.D1 jdk_42_method_80_code 36 .ireturn 1 37 := ⟨by decide +kernel, rfl⟩
theorem np_six2 : Own.npar "(II)I" = some 2 := by decide +kernel
set_option maxRecDepth 65536 in
set_option maxHeartbeats 40000000 in
theorem c_six2 {G : Own.Wd} {a0 : Array Value} (e : Ev G a0) {a t : Addr} {cs : List Int32} {ch : Int32} {h : Heap} (T0 : Str G.Z h a t cs) (hch : IsL ch) (h64 : ch < 65536) : Met G I_six2 #[(.ref a), (.int ch), (.int (n32 0))] h [] (Rt (fun x h' S' => S' = [] ∧ h' = h ∧ ∃ r : Int32, x = .int r ∧ (¬ r < 0 ↔ ch ∈ cs))) := by
  refine Met.intro (ls := #[.val (.ref a), .val (.int ch), .val (.int (n32 0))]) (plainFor_of_name pn_1) (fun m => by first | (simp [entryFrame, mkF, argsToLocals, Value.category, I_six2]; done) | (simp [entryFrame, mkF, argsToLocals, Value.category]; rfl) | rfl) ?_
  intro K
  rcases T0 with T | T
  · have T1 : Str G.Z h a t cs := Or.inl T
    refine Ru.aloadN d_six2_0 rfl rfl ?_
    refine Ru.callV0 (J := I_islt) (c_islt0 e T.2.2.1) d_six2_1 T.1 (e.w 53 rfl) (e.w 54 rfl) (nf_sel (e.w 56 rfl)) (e.w 56 rfl) (e.w 55 rfl) (e.w 8 rfl) (e.w 57 rfl) (by decide) np_islt rfl (a := a) (argsL := []) (rest := []) rfl rfl (fun _ q => nomatch q) (Nat.le_of_ble_eq_true rfl) (Nat.le_of_ble_eq_true rfl) (Nat.le_of_ble_eq_true rfl) (Nat.le_of_ble_eq_true rfl) (WP.rt ?_)
    rintro _ h S1 ⟨rfl, rfl, rfl⟩
    refine Ru.ifN d_six2_4 (show ¬ (1 : Int32) = (0 : Int32) from (by decide)) ?_
    refine Ru.aloadN d_six2_7 rfl rfl ?_
    refine Ru.getfield d_six2_8 (e.w 34 rfl) Via.refl T.2.1 ?_
    refine Ru.iloadN d_six2_11 rfl ?_
    refine Ru.iloadN d_six2_12 rfl ?_
    refine Ru.aloadN d_six2_13 rfl rfl ?_
    refine Ru.callV0 (J := I_slen) (c_slen e T1) d_six2_14 T.1 (e.w 58 rfl) (e.w 59 rfl) (nf_sel (e.w 61 rfl)) (e.w 61 rfl) (e.w 60 rfl) (e.w 8 rfl) (e.w 62 rfl) (by decide) np_slen rfl (a := a) (argsL := []) (rest := [(.int (n32 0)), (.int ch), (.ref t)]) rfl rfl (fun _ q => nomatch q) (Nat.le_of_ble_eq_true rfl) (Nat.le_of_ble_eq_true rfl) (Nat.le_of_ble_eq_true rfl) (Nat.le_of_ble_eq_true rfl) (WP.rt ?_)
    rintro _ h S2 ⟨rfl, rfl, rfl⟩
    refine Ru.callS0 (J := I_lix) (c_lix e T.2.2.2.1 T.2.2.2.2 hch) d_six2_17 (e.w 68 rfl) (e.w 69 rfl) (e.w 70 rfl) (e.w 71 rfl) (by decide) np_lix rfl (argsL := [(.ref t), (.int ch), (.int (n32 0)), (.int (n32 cs.length))]) (rest := []) rfl rfl (fun _ q => nomatch q) (Nat.le_of_ble_eq_true rfl) (Nat.le_of_ble_eq_true rfl) (Nat.le_of_ble_eq_true rfl) (Nat.le_of_ble_eq_true rfl) (WP.rt ?_)
    rintro _ _ S4 ⟨rfl, rfl, r, rfl, hr⟩
    refine Ru.goto d_six2_20 ?_
    exact Ru.ireturn d_six2_36 rfl [] (fun _ q => nomatch q) (Nat.le_of_ble_eq_true rfl) (Nat.le_of_ble_eq_true rfl) ⟨_, rfl, rfl, rfl, r, rfl, hr⟩
  · have T1 : Str G.Z h a t cs := Or.inr T
    refine Ru.aloadN d_six2_0 rfl rfl ?_
    refine Ru.callV0 (J := I_islt) (c_islt1 e T.2.2.1) d_six2_1 T.1 (e.w 53 rfl) (e.w 54 rfl) (nf_sel (e.w 56 rfl)) (e.w 56 rfl) (e.w 55 rfl) (e.w 8 rfl) (e.w 57 rfl) (by decide) np_islt rfl (a := a) (argsL := []) (rest := []) rfl rfl (fun _ q => nomatch q) (Nat.le_of_ble_eq_true rfl) (Nat.le_of_ble_eq_true rfl) (Nat.le_of_ble_eq_true rfl) (Nat.le_of_ble_eq_true rfl) (WP.rt ?_)
    rintro _ h S1 ⟨rfl, rfl, rfl⟩
    refine Ru.ifY d_six2_4 (show (0 : Int32) = (0 : Int32) from rfl) ?_
    refine Ru.aloadN d_six2_23 rfl rfl ?_
    refine Ru.getfield d_six2_24 (e.w 34 rfl) Via.refl T.2.1 ?_
    refine Ru.iloadN d_six2_27 rfl ?_
    refine Ru.iloadN d_six2_28 rfl ?_
    refine Ru.aloadN d_six2_29 rfl rfl ?_
    refine Ru.callV0 (J := I_slen) (c_slen e T1) d_six2_30 T.1 (e.w 58 rfl) (e.w 59 rfl) (nf_sel (e.w 61 rfl)) (e.w 61 rfl) (e.w 60 rfl) (e.w 8 rfl) (e.w 62 rfl) (by decide) np_slen rfl (a := a) (argsL := []) (rest := [(.int (n32 0)), (.int ch), (.ref t)]) rfl rfl (fun _ q => nomatch q) (Nat.le_of_ble_eq_true rfl) (Nat.le_of_ble_eq_true rfl) (Nat.le_of_ble_eq_true rfl) (Nat.le_of_ble_eq_true rfl) (WP.rt ?_)
    rintro _ h S2 ⟨rfl, rfl, rfl⟩
    have h0 : 0 < cs.length := by obtain ⟨c, q, -⟩ := T.2.2.2.2.2; exact List.length_pos_of_mem q
    refine Ru.callS0 (J := I_uix) (c_uix e T.2.2.2.1 T.2.2.2.2.1 h0 h64) d_six2_33 (e.w 104 rfl) (e.w 105 rfl) (e.w 23 rfl) (e.w 106 rfl) (by decide) np_uix rfl (argsL := [(.ref t), (.int ch), (.int (n32 0)), (.int (n32 cs.length))]) (rest := []) rfl rfl (fun _ q => nomatch q) (Nat.le_of_ble_eq_true rfl) (Nat.le_of_ble_eq_true rfl) (Nat.le_of_ble_eq_true rfl) (Nat.le_of_ble_eq_true rfl) (WP.rt ?_)
    rintro _ _ S4 ⟨rfl, rfl, r, rfl, hr⟩
    exact Ru.ireturn d_six2_36 rfl [] (fun _ q => nomatch q) (Nat.le_of_ble_eq_true rfl) (Nat.le_of_ble_eq_true rfl) ⟨_, rfl, rfl, rfl, r, rfl, hr⟩
abbrev I_six1 : Own.Inf := (⟨"java/lang/String", "indexOf", "(I)I"⟩, jdk_42_method_79_code, 2, (Option.some Jvm.ClassFile.FieldType.int), { frames := 6, cells := 0, slots := 0, locals := 87 })
theorem d_six1_0 : Own.D1 jdk_42_method_79_code 0 (.aload_n 0) 1 1 := ⟨by decide +kernel, rfl⟩
theorem d_six1_1 : Own.D1 jdk_42_method_79_code 1 (.iload_n 1) 1 2 := ⟨by decide +kernel, rfl⟩
theorem d_six1_2 : Own.D1 jdk_42_method_79_code 2 (.iconst 0) 1 3 := ⟨by decide +kernel, rfl⟩
theorem d_six1_3 : Own.D1 jdk_42_method_79_code 3 (.invokevirtual 633) 3 6 := ⟨by decide +kernel, rfl⟩
theorem d_six1_6 : Own.D1 jdk_42_method_79_code 6 .ireturn 1 7 := ⟨by decide +kernel, rfl⟩
theorem np_six1 : Own.npar "(I)I" = some 1 := by decide +kernel
set_option maxRecDepth 65536 in
set_option maxHeartbeats 40000000 in
theorem c_six1 {G : Own.Wd} {a0 : Array Value} (e : Ev G a0) {a t : Addr} {cs : List Int32} {ch : Int32} {h : Heap} (T : Str G.Z h a t cs) (hch : IsL ch) (h64 : ch < 65536) : Met G I_six1 #[(.ref a), (.int ch)] h [] (Rt (fun x h' S' => S' = [] ∧ h' = h ∧ ∃ r : Int32, x = .int r ∧ (¬ r < 0 ↔ ch ∈ cs))) := by
  refine Met.intro (ls := #[.val (.ref a), .val (.int ch)]) (plainFor_of_name pn_1) (fun m => by first | (simp [entryFrame, mkF, argsToLocals, Value.category, I_six1]; done) | (simp [entryFrame, mkF, argsToLocals, Value.category]; rfl) | rfl) ?_
  intro K
  refine Ru.aloadN d_six1_0 rfl rfl ?_
  refine Ru.iloadN d_six1_1 rfl ?_
  refine Ru.iconst (x := 0) d_six1_2 rfl ?_
  refine WP.topI (show (0 : Int32) = (n32 0) from rfl) ?_
  refine Ru.callV0 (J := I_six2) (c_six2 e T hch h64) d_six1_3 T.exa (e.w 48 rfl) (e.w 49 rfl) (nf_sel (e.w 51 rfl)) (e.w 51 rfl) (e.w 50 rfl) (e.w 8 rfl) (e.w 52 rfl) (by decide) np_six2 rfl (a := a) (argsL := [(.int ch), (.int (n32 0))]) (rest := []) rfl rfl (fun _ q => nomatch q) (Nat.le_of_ble_eq_true rfl) (Nat.le_of_ble_eq_true rfl) (Nat.le_of_ble_eq_true rfl) (Nat.le_of_ble_eq_true rfl) (WP.rt ?_)
  rintro _ _ S4 ⟨rfl, rfl, r, rfl, hr⟩
  exact Ru.ireturn d_six1_6 rfl [] (fun _ q => nomatch q) (Nat.le_of_ble_eq_true rfl) (Nat.le_of_ble_eq_true rfl) ⟨_, rfl, rfl, rfl, r, rfl, hr⟩
abbrev I_ispat : Own.Inf := (⟨"com/example/lucid_index/lucidindex/core/Condition$Wildcard", "isPattern", "(Ljava/lang/String;)Z"⟩, prog_15_method_2_code, 1, (Option.some Jvm.ClassFile.FieldType.boolean), { frames := 7, cells := 0, slots := 0, locals := 100 })
theorem d_ispat_0 : Own.D1 prog_15_method_2_code 0 (.aload_n 0) 1 1 := ⟨by decide +kernel, rfl⟩
theorem d_ispat_1 : Own.D1 prog_15_method_2_code 1 (.bipush 42) 2 3 := ⟨by decide +kernel, rfl⟩
theorem d_ispat_3 : Own.D1 prog_15_method_2_code 3 (.invokevirtual 36) 3 6 := ⟨by decide +kernel, rfl⟩
theorem d_ispat_6 : Own.DB prog_15_method_2_code 6 (.ifCond .ge 12) 3 (12) 9 18 := ⟨by decide +kernel, rfl, by decide, rfl⟩
theorem d_ispat_9 : Own.D1 prog_15_method_2_code 9 (.aload_n 0) 1 10 := ⟨by decide +kernel, rfl⟩
theorem d_ispat_10 : Own.D1 prog_15_method_2_code 10 (.bipush 63) 2 12 := ⟨by decide +kernel, rfl⟩
theorem d_ispat_12 : Own.D1 prog_15_method_2_code 12 (.invokevirtual 36) 3 15 := ⟨by decide +kernel, rfl⟩
theorem d_ispat_15 : Own.DB prog_15_method_2_code 15 (.ifCond .lt 7) 3 (7) 18 22 := ⟨by decide +kernel, rfl, by decide, rfl⟩
theorem d_ispat_18 : Own.D1 prog_15_method_2_code 18 (.iconst 1) 1 19 := ⟨by decide +kernel, rfl⟩
theorem d_ispat_19 : Own.DB prog_15_method_2_code 19 (.goto 4) 3 (4) 22 23 := ⟨by decide +kernel, rfl, by decide, rfl⟩
theorem d_ispat_22 : Own.D1 prog_15_method_2_code 22 (.iconst 0) 1 23 := ⟨by decide +kernel, rfl⟩
theorem d_ispat_23 : Own.D1 prog_15_method_2_code 23 .ireturn 1 24 := ⟨by decide +kernel, rfl⟩
theorem pn_5 : plainName "com/example/lucid_index/lucidindex/core/Condition$Wildcard" = true := by first | (simp [plainName, overriddenIn]; done) | decide +kernel
theorem np_ispat : Own.npar "(Ljava/lang/String;)Z" = some 1 := by decide +kernel
set_option maxRecDepth 65536 in
set_option maxHeartbeats 40000000 in
theorem c_ispat {G : Own.Wd} {a0 : Array Value} (e : Ev G a0) {a t : Addr} {cs : List Int32} {h : Heap} (T : Str G.Z h a t cs) : Met G I_ispat #[(.ref a)] h [] (Rt (fun x h' S' => S' = [] ∧ h' = h ∧ x = .int (if (42 : Int32) ∈ cs ∨ (63 : Int32) ∈ cs then (1 : Int32) else 0))) := by
  refine Met.intro (ls := #[.val (.ref a)]) (plainFor_of_name pn_5) (fun m => by first | (simp [entryFrame, mkF, argsToLocals, Value.category, I_ispat]; done) | (simp [entryFrame, mkF, argsToLocals, Value.category]; rfl) | rfl) ?_
  intro K
  refine Ru.aloadN d_ispat_0 rfl rfl ?_
  refine Ru.bipush (x := 42) d_ispat_1 rfl ?_
  refine Ru.callV0 (J := I_six1) (c_six1 e T (ch := 42) (by unfold IsL; decide) (by decide)) d_ispat_3 T.exa (e.w 43 rfl) (e.w 44 rfl) (nf_sel (e.w 46 rfl)) (e.w 46 rfl) (e.w 45 rfl) (e.w 8 rfl) (e.w 47 rfl) (by decide) np_six1 rfl (a := a) (argsL := [(.int (42 : Int32))]) (rest := []) rfl rfl (fun _ q => nomatch q) (Nat.le_of_ble_eq_true rfl) (Nat.le_of_ble_eq_true rfl) (Nat.le_of_ble_eq_true rfl) (Nat.le_of_ble_eq_true rfl) (WP.rt ?_)
  rintro _ h S1 ⟨rfl, rfl, r, rfl, hr⟩
  refine Ru.ifc d_ispat_6 (fun (c1 : ¬ r < (0 : Int32)) => ?_) (fun (c1 : r < (0 : Int32)) => ?_)
  · refine Ru.iconst (x := 1) d_ispat_18 rfl ?_
    refine Ru.goto d_ispat_19 ?_
    exact Ru.ireturnN (t := .boolean) (x' := (1 : Int32)) d_ispat_23 rfl (by simp) rfl [] (fun _ q => nomatch q) (Nat.le_of_ble_eq_true rfl) (Nat.le_of_ble_eq_true rfl) ⟨_, rfl, rfl, rfl, by rw [if_pos (Or.inl (hr.mp c1))]⟩
  · refine Ru.aloadN d_ispat_9 rfl rfl ?_
    refine Ru.bipush (x := 63) d_ispat_10 rfl ?_
    refine Ru.callV0 (J := I_six1) (c_six1 e T (ch := 63) (by unfold IsL; decide) (by decide)) d_ispat_12 T.exa (e.w 43 rfl) (e.w 44 rfl) (nf_sel (e.w 46 rfl)) (e.w 46 rfl) (e.w 45 rfl) (e.w 8 rfl) (e.w 47 rfl) (by decide) np_six1 rfl (a := a) (argsL := [(.int (63 : Int32))]) (rest := []) rfl rfl (fun _ q => nomatch q) (Nat.le_of_ble_eq_true rfl) (Nat.le_of_ble_eq_true rfl) (Nat.le_of_ble_eq_true rfl) (Nat.le_of_ble_eq_true rfl) (WP.rt ?_)
    rintro _ h S2 ⟨rfl, rfl, r2, rfl, hr2⟩
    refine Ru.ifc d_ispat_15 (fun (c2 : r2 < (0 : Int32)) => ?_) (fun (c2 : ¬ r2 < (0 : Int32)) => ?_)
    · refine Ru.iconst (x := 0) d_ispat_22 rfl ?_
      exact Ru.ireturnN (t := .boolean) (x' := (0 : Int32)) d_ispat_23 rfl (by simp) rfl [] (fun _ q => nomatch q) (Nat.le_of_ble_eq_true rfl) (Nat.le_of_ble_eq_true rfl) ⟨_, rfl, rfl, rfl, by rw [if_neg (fun z => z.elim (fun z => hr.mpr z c1) (fun z => hr2.mpr z c2))]⟩
    · refine Ru.iconst (x := 1) d_ispat_18 rfl ?_
      refine Ru.goto d_ispat_19 ?_
      exact Ru.ireturnN (t := .boolean) (x' := (1 : Int32)) d_ispat_23 rfl (by simp) rfl [] (fun _ q => nomatch q) (Nat.le_of_ble_eq_true rfl) (Nat.le_of_ble_eq_true rfl) ⟨_, rfl, rfl, rfl, by rw [if_pos (Or.inr (hr2.mp c2))]⟩
abbrev I_wild : Own.Inf := (⟨"com/example/lucid_index/lucidindex/core/WildcardIsPatternPinLaw", "wild", "(C)Z"⟩, method_3_code, 1, (Option.some Jvm.ClassFile.FieldType.boolean), { frames := 0, cells := 0, slots := 0, locals := 0 })
theorem d_wild_0 : Own.D1 method_3_code 0 (.iload_n 0) 1 1 := ⟨by decide +kernel, rfl⟩
theorem d_wild_1 : Own.D1 method_3_code 1 (.bipush 42) 2 3 := ⟨by decide +kernel, rfl⟩
theorem d_wild_3 : Own.DB method_3_code 3 (.if_icmp .eq 9) 3 (9) 6 12 := ⟨by decide +kernel, rfl, by decide, rfl⟩
theorem d_wild_6 : Own.D1 method_3_code 6 (.iload_n 0) 1 7 := ⟨by decide +kernel, rfl⟩
theorem d_wild_7 : Own.D1 method_3_code 7 (.bipush 63) 2 9 := ⟨by decide +kernel, rfl⟩
theorem d_wild_9 : Own.DB method_3_code 9 (.if_icmp .ne 7) 3 (7) 12 16 := ⟨by decide +kernel, rfl, by decide, rfl⟩
theorem d_wild_12 : Own.D1 method_3_code 12 (.iconst 1) 1 13 := ⟨by decide +kernel, rfl⟩
theorem d_wild_13 : Own.DB method_3_code 13 (.goto 4) 3 (4) 16 17 := ⟨by decide +kernel, rfl, by decide, rfl⟩
theorem d_wild_16 : Own.D1 method_3_code 16 (.iconst 0) 1 17 := ⟨by decide +kernel, rfl⟩
theorem d_wild_17 : Own.D1 method_3_code 17 .ireturn 1 18 := ⟨by decide +kernel, rfl⟩
theorem pn_6 : plainName "com/example/lucid_index/lucidindex/core/WildcardIsPatternPinLaw" = true := by first | (simp [plainName, overriddenIn]; done) | decide +kernel
theorem np_wild : Own.npar "(C)Z" = some 1 := by decide +kernel
set_option maxRecDepth 65536 in
set_option maxHeartbeats 40000000 in
theorem c_wild {G : Own.Wd} {a0 : Array Value} (e : Ev G a0) {c : Int32} {h : Heap}  : Met G I_wild #[(.int c)] h [] (Rt (fun x h' S' => S' = [] ∧ h' = h ∧ x = .int (if c = 42 ∨ c = 63 then (1 : Int32) else 0))) := by
  refine Met.intro (ls := #[.val (.int c)]) (plainFor_of_name pn_6) (fun m => by first | (simp [entryFrame, mkF, argsToLocals, Value.category, I_wild]; done) | (simp [entryFrame, mkF, argsToLocals, Value.category]; rfl) | rfl) ?_
  intro K
  refine Ru.iloadN d_wild_0 rfl ?_
  refine Ru.bipush (x := 42) d_wild_1 rfl ?_
  refine Ru.icmp d_wild_3 (fun (c1 : c = (42 : Int32)) => ?_) (fun (c1 : ¬ c = (42 : Int32)) => ?_)
  · refine Ru.iconst (x := 1) d_wild_12 rfl ?_
    refine Ru.goto d_wild_13 ?_
    exact Ru.ireturnN (t := .boolean) (x' := (1 : Int32)) d_wild_17 rfl (by simp) rfl [] (fun _ q => nomatch q) (Nat.le_of_ble_eq_true rfl) (Nat.le_of_ble_eq_true rfl) ⟨_, rfl, rfl, rfl, by simp [c1]⟩
  · refine Ru.iloadN d_wild_6 rfl ?_
    refine Ru.bipush (x := 63) d_wild_7 rfl ?_
    refine Ru.icmp d_wild_9 (fun (c2 : ¬ c = (63 : Int32)) => ?_) (fun (c2 : c = (63 : Int32)) => ?_)
    · refine Ru.iconst (x := 0) d_wild_16 rfl ?_
      exact Ru.ireturnN (t := .boolean) (x' := (0 : Int32)) d_wild_17 rfl (by simp) rfl [] (fun _ q => nomatch q) (Nat.le_of_ble_eq_true rfl) (Nat.le_of_ble_eq_true rfl) ⟨_, rfl, rfl, rfl, by simp [c1, c2]⟩
    · refine Ru.iconst (x := 1) d_wild_12 rfl ?_
      refine Ru.goto d_wild_13 ?_
      exact Ru.ireturnN (t := .boolean) (x' := (1 : Int32)) d_wild_17 rfl (by simp) rfl [] (fun _ q => nomatch q) (Nat.le_of_ble_eq_true rfl) (Nat.le_of_ble_eq_true rfl) ⟨_, rfl, rfl, rfl, by simp [c2]⟩
abbrev I_make : Own.Inf := (⟨"com/example/lucid_index/lucidindex/core/WildcardIsPatternPinLaw", "make", "(ICCCCCC)Ljava/lang/String;"⟩, method_4_code, 7, (Option.some (Jvm.ClassFile.FieldType.object "java/lang/String")), { frames := 6, cells := 6, slots := 28, locals := 90 })
theorem d_make_0 : Own.D1 method_4_code 0 (.iload_n 0) 1 1 := ⟨by decide +kernel, rfl⟩
theorem d_make_1 : Own.DB method_4_code 1 (.ifCond .ne 14) 3 (14) 4 15 := ⟨by decide +kernel, rfl, by decide, rfl⟩
theorem d_make_4 : Own.D1 method_4_code 4 (.new 25) 3 7 := ⟨by decide +kernel, rfl⟩
theorem d_make_7 : Own.D1 method_4_code 7 .dup 1 8 := ⟨by decide +kernel, rfl⟩
theorem d_make_8 : Own.D1 method_4_code 8 (.iconst 0) 1 9 := ⟨by decide +kernel, rfl⟩
theorem d_make_9 : Own.D1 method_4_code 9 (.newarray .char) 2 11 := ⟨by decide +kernel, rfl⟩
theorem d_make_11 : Own.D1 method_4_code 11 (.invokespecial 27) 3 14 := ⟨by decide +kernel, rfl⟩
theorem d_make_14 : Own.D1 method_4_code 14 .areturn 1 15 := ⟨by decide +kernel, rfl⟩
theorem d_make_15 : Own.D1 method_4_code 15 (.iload_n 0) 1 16 := ⟨by decide +kernel, rfl⟩
theorem d_make_16 : Own.D1 method_4_code 16 (.iconst 1) 1 17 := ⟨by decide +kernel, rfl⟩
theorem d_make_17 : Own.DB method_4_code 17 (.if_icmp .ne 18) 3 (18) 20 35 := ⟨by decide +kernel, rfl, by decide, rfl⟩
theorem d_make_20 : Own.D1 method_4_code 20 (.new 25) 3 23 := ⟨by decide +kernel, rfl⟩
theorem d_make_23 : Own.D1 method_4_code 23 .dup 1 24 := ⟨by decide +kernel, rfl⟩
theorem d_make_24 : Own.D1 method_4_code 24 (.iconst 1) 1 25 := ⟨by decide +kernel, rfl⟩
theorem d_make_25 : Own.D1 method_4_code 25 (.newarray .char) 2 27 := ⟨by decide +kernel, rfl⟩
theorem d_make_27 : Own.D1 method_4_code 27 .dup 1 28 := ⟨by decide +kernel, rfl⟩
theorem d_make_28 : Own.D1 method_4_code 28 (.iconst 0) 1 29 := ⟨by decide +kernel, rfl⟩
theorem d_make_29 : Own.D1 method_4_code 29 (.iload_n 1) 1 30 := ⟨by decide +kernel, rfl⟩
theorem d_make_30 : Own.D1 method_4_code 30 .castore 1 31 := ⟨by decide +kernel, rfl⟩
theorem d_make_31 : Own.D1 method_4_code 31 (.invokespecial 27) 3 34 := ⟨by decide +kernel, rfl⟩
theorem d_make_34 : Own.D1 method_4_code 34 .areturn 1 35 := ⟨by decide +kernel, rfl⟩
theorem d_make_35 : Own.D1 method_4_code 35 (.iload_n 0) 1 36 := ⟨by decide +kernel, rfl⟩
theorem d_make_36 : Own.D1 method_4_code 36 (.iconst 2) 1 37 := ⟨by decide +kernel, rfl⟩
theorem d_make_37 : Own.DB method_4_code 37 (.if_icmp .ne 22) 3 (22) 40 59 := ⟨by decide +kernel, rfl, by decide, rfl⟩
theorem d_make_40 : Own.D1 method_4_code 40 (.new 25) 3 43 := ⟨by decide +kernel, rfl⟩
theorem d_make_43 : Own.D1 method_4_code 43 .dup 1 44 := ⟨by decide +kernel, rfl⟩
theorem d_make_44 : Own.D1 method_4_code 44 (.iconst 2) 1 45 := ⟨by decide +kernel, rfl⟩
theorem d_make_45 : Own.D1 method_4_code 45 (.newarray .char) 2 47 := ⟨by decide +kernel, rfl⟩
theorem d_make_47 : Own.D1 method_4_code 47 .dup 1 48 := ⟨by decide +kernel, rfl⟩
theorem d_make_48 : Own.D1 method_4_code 48 (.iconst 0) 1 49 := ⟨by decide +kernel, rfl⟩
theorem d_make_49 : Own.D1 method_4_code 49 (.iload_n 1) 1 50 := ⟨by decide +kernel, rfl⟩
theorem d_make_50 : Own.D1 method_4_code 50 .castore 1 51 := ⟨by decide +kernel, rfl⟩
theorem d_make_51 : Own.D1 method_4_code 51 .dup 1 52 := ⟨by decide +kernel, rfl⟩
theorem d_make_52 : Own.D1 method_4_code 52 (.iconst 1) 1 53 := ⟨by decide +kernel, rfl⟩
theorem d_make_53 : Own.D1 method_4_code 53 (.iload_n 2) 1 54 := ⟨by decide +kernel, rfl⟩
theorem d_make_54 : Own.D1 method_4_code 54 .castore 1 55 := ⟨by decide +kernel, rfl⟩
theorem d_make_55 : Own.D1 method_4_code 55 (.invokespecial 27) 3 58 := ⟨by decide +kernel, rfl⟩
theorem d_make_58 : Own.D1 method_4_code 58 .areturn 1 59 := ⟨by decide +kernel, rfl⟩
theorem d_make_59 : Own.D1 method_4_code 59 (.iload_n 0) 1 60 := ⟨by decide +kernel, rfl⟩
theorem d_make_60 : Own.D1 method_4_code 60 (.iconst 3) 1 61 := ⟨by decide +kernel, rfl⟩
theorem d_make_61 : Own.DB method_4_code 61 (.if_icmp .ne 26) 3 (26) 64 87 := ⟨by decide +kernel, rfl, by decide, rfl⟩
theorem d_make_64 : Own.D1 method_4_code 64 (.new 25) 3 67 := ⟨by decide +kernel, rfl⟩
theorem d_make_67 : Own.D1 method_4_code 67 .dup 1 68 := ⟨by decide +kernel, rfl⟩
theorem d_make_68 : Own.D1 method_4_code 68 (.iconst 3) 1 69 := ⟨by decide +kernel, rfl⟩
theorem d_make_69 : Own.D1 method_4_code 69 (.newarray .char) 2 71 := ⟨by decide +kernel, rfl⟩
theorem d_make_71 : Own.D1 method_4_code 71 .dup 1 72 := ⟨by decide +kernel, rfl⟩
theorem d_make_72 : Own.D1 method_4_code 72 (.iconst 0) 1 73 := ⟨by decide +kernel, rfl⟩
theorem d_make_73 : Own.D1 method_4_code 73 (.iload_n 1) 1 74 := ⟨by decide +kernel, rfl⟩
theorem d_make_74 : Own.D1 method_4_code 74 .castore 1 75 := ⟨by decide +kernel, rfl⟩
theorem d_make_75 : Own.D1 method_4_code 75 .dup 1 76 := ⟨by decide +kernel, rfl⟩
theorem d_make_76 : Own.D1 method_4_code 76 (.iconst 1) 1 77 := ⟨by decide +kernel, rfl⟩
theorem d_make_77 : Own.D1 method_4_code 77 (.iload_n 2) 1 78 := ⟨by decide +kernel, rfl⟩
theorem d_make_78 : Own.D1 method_4_code 78 .castore 1 79 := ⟨by decide +kernel, rfl⟩
theorem d_make_79 : Own.D1 method_4_code 79 .dup 1 80 := ⟨by decide +kernel, rfl⟩
theorem d_make_80 : Own.D1 method_4_code 80 (.iconst 2) 1 81 := ⟨by decide +kernel, rfl⟩
theorem d_make_81 : Own.D1 method_4_code 81 (.iload_n 3) 1 82 := ⟨by decide +kernel, rfl⟩
theorem d_make_82 : Own.D1 method_4_code 82 .castore 1 83 := ⟨by decide +kernel, rfl⟩
theorem d_make_83 : Own.D1 method_4_code 83 (.invokespecial 27) 3 86 := ⟨by decide +kernel, rfl⟩
theorem d_make_86 : Own.D1 method_4_code 86 .areturn 1 87 := ⟨by decide +kernel, rfl⟩
theorem d_make_87 : Own.D1 method_4_code 87 (.iload_n 0) 1 88 := ⟨by decide +kernel, rfl⟩
theorem d_make_88 : Own.D1 method_4_code 88 (.iconst 4) 1 89 := ⟨by decide +kernel, rfl⟩
theorem d_make_89 : Own.DB method_4_code 89 (.if_icmp .ne 31) 3 (31) 92 120 := ⟨by decide +kernel, rfl, by decide, rfl⟩
theorem d_make_92 : Own.D1 method_4_code 92 (.new 25) 3 95 := ⟨by decide +kernel, rfl⟩
theorem d_make_95 : Own.D1 method_4_code 95 .dup 1 96 := ⟨by decide +kernel, rfl⟩
theorem d_make_96 : Own.D1 method_4_code 96 (.iconst 4) 1 97 := ⟨by decide +kernel, rfl⟩
theorem d_make_97 : Own.D1 method_4_code 97 (.newarray .char) 2 99 := ⟨by decide +kernel, rfl⟩
theorem d_make_99 : Own.D1 method_4_code 99 .dup 1 100 := ⟨by decide +kernel, rfl⟩
theorem d_make_100 : Own.D1 method_4_code 100 (.iconst 0) 1 101 := ⟨by decide +kernel, rfl⟩
theorem d_make_101 : Own.D1 method_4_code 101 (.iload_n 1) 1 102 := ⟨by decide +kernel, rfl⟩
theorem d_make_102 : Own.D1 method_4_code 102 .castore 1 103 := ⟨by decide +kernel, rfl⟩
theorem d_make_103 : Own.D1 method_4_code 103 .dup 1 104 := ⟨by decide +kernel, rfl⟩
theorem d_make_104 : Own.D1 method_4_code 104 (.iconst 1) 1 105 := ⟨by decide +kernel, rfl⟩
theorem d_make_105 : Own.D1 method_4_code 105 (.iload_n 2) 1 106 := ⟨by decide +kernel, rfl⟩
theorem d_make_106 : Own.D1 method_4_code 106 .castore 1 107 := ⟨by decide +kernel, rfl⟩
theorem d_make_107 : Own.D1 method_4_code 107 .dup 1 108 := ⟨by decide +kernel, rfl⟩
theorem d_make_108 : Own.D1 method_4_code 108 (.iconst 2) 1 109 := ⟨by decide +kernel, rfl⟩
theorem d_make_109 : Own.D1 method_4_code 109 (.iload_n 3) 1 110 := ⟨by decide +kernel, rfl⟩
theorem d_make_110 : Own.D1 method_4_code 110 .castore 1 111 := ⟨by decide +kernel, rfl⟩
theorem d_make_111 : Own.D1 method_4_code 111 .dup 1 112 := ⟨by decide +kernel, rfl⟩
theorem d_make_112 : Own.D1 method_4_code 112 (.iconst 3) 1 113 := ⟨by decide +kernel, rfl⟩
theorem d_make_113 : Own.D1 method_4_code 113 (.iload 4) 2 115 := ⟨by decide +kernel, rfl⟩
theorem d_make_115 : Own.D1 method_4_code 115 .castore 1 116 := ⟨by decide +kernel, rfl⟩
theorem d_make_116 : Own.D1 method_4_code 116 (.invokespecial 27) 3 119 := ⟨by decide +kernel, rfl⟩
theorem d_make_119 : Own.D1 method_4_code 119 .areturn 1 120 := ⟨by decide +kernel, rfl⟩
theorem d_make_120 : Own.D1 method_4_code 120 (.iload_n 0) 1 121 := ⟨by decide +kernel, rfl⟩
theorem d_make_121 : Own.D1 method_4_code 121 (.iconst 5) 1 122 := ⟨by decide +kernel, rfl⟩
theorem d_make_122 : Own.DB method_4_code 122 (.if_icmp .ne 36) 3 (36) 125 158 := ⟨by decide +kernel, rfl, by decide, rfl⟩
theorem d_make_125 : Own.D1 method_4_code 125 (.new 25) 3 128 := ⟨by decide +kernel, rfl⟩
theorem d_make_128 : Own.D1 method_4_code 128 .dup 1 129 := ⟨by decide +kernel, rfl⟩
theorem d_make_129 : Own.D1 method_4_code 129 (.iconst 5) 1 130 := ⟨by decide +kernel, rfl⟩
theorem d_make_130 : Own.D1 method_4_code 130 (.newarray .char) 2 132 := ⟨by decide +kernel, rfl⟩
theorem d_make_132 : Own.D1 method_4_code 132 .dup 1 133 := ⟨by decide +kernel, rfl⟩
theorem d_make_133 : Own.D1 method_4_code 133 (.iconst 0) 1 134 := ⟨by decide +kernel, rfl⟩
theorem d_make_134 : Own.D1 method_4_code 134 (.iload_n 1) 1 135 := ⟨by decide +kernel, rfl⟩
theorem d_make_135 : Own.D1 method_4_code 135 .castore 1 136 := ⟨by decide +kernel, rfl⟩
theorem d_make_136 : Own.D1 method_4_code 136 .dup 1 137 := ⟨by decide +kernel, rfl⟩
theorem d_make_137 : Own.D1 method_4_code 137 (.iconst 1) 1 138 := ⟨by decide +kernel, rfl⟩
theorem d_make_138 : Own.D1 method_4_code 138 (.iload_n 2) 1 139 := ⟨by decide +kernel, rfl⟩
theorem d_make_139 : Own.D1 method_4_code 139 .castore 1 140 := ⟨by decide +kernel, rfl⟩
theorem d_make_140 : Own.D1 method_4_code 140 .dup 1 141 := ⟨by decide +kernel, rfl⟩
theorem d_make_141 : Own.D1 method_4_code 141 (.iconst 2) 1 142 := ⟨by decide +kernel, rfl⟩
theorem d_make_142 : Own.D1 method_4_code 142 (.iload_n 3) 1 143 := ⟨by decide +kernel, rfl⟩
theorem d_make_143 : Own.D1 method_4_code 143 .castore 1 144 := ⟨by decide +kernel, rfl⟩
theorem d_make_144 : Own.D1 method_4_code 144 .dup 1 145 := ⟨by decide +kernel, rfl⟩
theorem d_make_145 : Own.D1 method_4_code 145 (.iconst 3) 1 146 := ⟨by decide +kernel, rfl⟩
theorem d_make_146 : Own.D1 method_4_code 146 (.iload 4) 2 148 := ⟨by decide +kernel, rfl⟩
theorem d_make_148 : Own.D1 method_4_code 148 .castore 1 149 := ⟨by decide +kernel, rfl⟩
theorem d_make_149 : Own.D1 method_4_code 149 .dup 1 150 := ⟨by decide +kernel, rfl⟩
theorem d_make_150 : Own.D1 method_4_code 150 (.iconst 4) 1 151 := ⟨by decide +kernel, rfl⟩
theorem d_make_151 : Own.D1 method_4_code 151 (.iload 5) 2 153 := ⟨by decide +kernel, rfl⟩
theorem d_make_153 : Own.D1 method_4_code 153 .castore 1 154 := ⟨by decide +kernel, rfl⟩
theorem d_make_154 : Own.D1 method_4_code 154 (.invokespecial 27) 3 157 := ⟨by decide +kernel, rfl⟩
theorem d_make_157 : Own.D1 method_4_code 157 .areturn 1 158 := ⟨by decide +kernel, rfl⟩
theorem d_make_158 : Own.D1 method_4_code 158 (.new 25) 3 161 := ⟨by decide +kernel, rfl⟩
theorem d_make_161 : Own.D1 method_4_code 161 .dup 1 162 := ⟨by decide +kernel, rfl⟩
theorem d_make_162 : Own.D1 method_4_code 162 (.bipush 6) 2 164 := ⟨by decide +kernel, rfl⟩
theorem d_make_164 : Own.D1 method_4_code 164 (.newarray .char) 2 166 := ⟨by decide +kernel, rfl⟩
theorem d_make_166 : Own.D1 method_4_code 166 .dup 1 167 := ⟨by decide +kernel, rfl⟩
theorem d_make_167 : Own.D1 method_4_code 167 (.iconst 0) 1 168 := ⟨by decide +kernel, rfl⟩
theorem d_make_168 : Own.D1 method_4_code 168 (.iload_n 1) 1 169 := ⟨by decide +kernel, rfl⟩
theorem d_make_169 : Own.D1 method_4_code 169 .castore 1 170 := ⟨by decide +kernel, rfl⟩
theorem d_make_170 : Own.D1 method_4_code 170 .dup 1 171 := ⟨by decide +kernel, rfl⟩
theorem d_make_171 : Own.D1 method_4_code 171 (.iconst 1) 1 172 := ⟨by decide +kernel, rfl⟩
theorem d_make_172 : Own.D1 method_4_code 172 (.iload_n 2) 1 173 := ⟨by decide +kernel, rfl⟩
theorem d_make_173 : Own.D1 method_4_code 173 .castore 1 174 := ⟨by decide +kernel, rfl⟩
theorem d_make_174 : Own.D1 method_4_code 174 .dup 1 175 := ⟨by decide +kernel, rfl⟩
theorem d_make_175 : Own.D1 method_4_code 175 (.iconst 2) 1 176 := ⟨by decide +kernel, rfl⟩
theorem d_make_176 : Own.D1 method_4_code 176 (.iload_n 3) 1 177 := ⟨by decide +kernel, rfl⟩
theorem d_make_177 : Own.D1 method_4_code 177 .castore 1 178 := ⟨by decide +kernel, rfl⟩
theorem d_make_178 : Own.D1 method_4_code 178 .dup 1 179 := ⟨by decide +kernel, rfl⟩
theorem d_make_179 : Own.D1 method_4_code 179 (.iconst 3) 1 180 := ⟨by decide +kernel, rfl⟩
theorem d_make_180 : Own.D1 method_4_code 180 (.iload 4) 2 182 := ⟨by decide +kernel, rfl⟩
theorem d_make_182 : Own.D1 method_4_code 182 .castore 1 183 := ⟨by decide +kernel, rfl⟩
theorem d_make_183 : Own.D1 method_4_code 183 .dup 1 184 := ⟨by decide +kernel, rfl⟩
theorem d_make_184 : Own.D1 method_4_code 184 (.iconst 4) 1 185 := ⟨by decide +kernel, rfl⟩
theorem d_make_185 : Own.D1 method_4_code 185 (.iload 5) 2 187 := ⟨by decide +kernel, rfl⟩
theorem d_make_187 : Own.D1 method_4_code 187 .castore 1 188 := ⟨by decide +kernel, rfl⟩
theorem d_make_188 : Own.D1 method_4_code 188 .dup 1 189 := ⟨by decide +kernel, rfl⟩
theorem d_make_189 : Own.D1 method_4_code 189 (.iconst 5) 1 190 := ⟨by decide +kernel, rfl⟩
theorem d_make_190 : Own.D1 method_4_code 190 (.iload 6) 2 192 := ⟨by decide +kernel, rfl⟩
theorem d_make_192 : Own.D1 method_4_code 192 .castore 1 193 := ⟨by decide +kernel, rfl⟩
theorem d_make_193 : Own.D1 method_4_code 193 (.invokespecial 27) 3 196 := ⟨by decide +kernel, rfl⟩
theorem d_make_196 : Own.D1 method_4_code 196 .areturn 1 197 := ⟨by decide +kernel, rfl⟩
theorem np_make : Own.npar "(ICCCCCC)Ljava/lang/String;" = some 7 := by decide +kernel
set_option maxRecDepth 65536 in
set_option maxHeartbeats 40000000 in
theorem c_make {G : Own.Wd} {a0 : Array Value} (e : Ev G a0) {k : Nat} {c0 c1 c2 c3 c4 c5 : Int32} {h : Heap} (hk : k ≤ 6) (q0 : IsC c0) (q1 : IsC c1) (q2 : IsC c2) (q3 : IsC c3) (q4 : IsC c4) (q5 : IsC c5) (hC : ∀ c ∈ [c0, c1, c2, c3, c4, c5], IsC c) : Met G I_make #[(.int (n32 k)), (.int c0), (.int c1), (.int c2), (.int c3), (.int c4), (.int c5)] h [] (Rt (fun x h' S' => ∃ s t, x = .ref s ∧ S' = [] ∧ Keep h h' [] ∧ Str G.Z h' s t ([c0, c1, c2, c3, c4, c5].take k))) := by
  refine Met.intro (ls := #[.val (.int (n32 k)), .val (.int c0), .val (.int c1), .val (.int c2), .val (.int c3), .val (.int c4), .val (.int c5)]) (plainFor_of_name pn_6) (fun m => by first | (simp [entryFrame, mkF, argsToLocals, Value.category, I_make]; done) | (simp [entryFrame, mkF, argsToLocals, Value.category]; rfl) | rfl) ?_
  intro K
  rcases (show k = 0 ∨ k = 1 ∨ k = 2 ∨ k = 3 ∨ k = 4 ∨ k = 5 ∨ k = 6 by omega) with rfl | rfl | rfl | rfl | rfl | rfl | rfl
  · refine Ru.iloadN d_make_0 rfl ?_
    refine Ru.ifN d_make_1 (show (n32 0) = (0 : Int32) from rfl) ?_
    refine Ru.new d_make_4 (e.w 6 rfl) (e.w 7 rfl) (e.w 8 rfl) (Nat.le_of_ble_eq_true rfl) (Nat.le_of_ble_eq_true rfl) ?_
    intro h1 s gs E1 X1 D1
    refine Ru.dup d_make_7 rfl ?_
    refine Ru.iconst (x := 0) d_make_8 rfl ?_
    refine Ru.newarray (cap := 0) d_make_9 (ty := .char) rfl (e.w 9 rfl) rfl (by decide) (Nat.le_of_ble_eq_true rfl) (Nat.le_of_ble_eq_true rfl) (Nat.le_of_ble_eq_true rfl) (Nat.le_of_ble_eq_true rfl) ?_
    intro h2 a ga E2 A
    have ls := xlt X1; have X2 := X1.ext E2
    have Fv := Fld.ext E2 (D1 (Or.inr (e.w 35 rfl)) (ty := .array .byte) (by decide)); have Fc := Fld.ext E2 (D1 (Or.inr (e.w 33 rfl)) (ty := .byte) (by decide)); have nsa : s ≠ a := nne (by omega); have KK := (keepE E1).trans (keepE E2) (by simp)
    have A : Ary G.Z _ a .char ((([c0, c1, c2, c3, c4, c5] : List Int32).take 0).map Value.int) := A
    refine Ru.callI0 (J := I_siu) (c_siu e X2 Fv Fc A (fun c z => hC c (List.mem_of_mem_take z)) (Nat.le_of_ble_eq_true rfl)) d_make_11 rfl rfl (e.w 10 rfl) (e.w 11 rfl) (e.w 8 rfl) (e.w 12 rfl) (by decide) np_siu rfl (a := s) (argsL := [(.ref a)]) (rest := [(.ref s)]) rfl rfl (by simp) (Nat.le_of_ble_eq_true rfl) (Nat.le_of_ble_eq_true rfl) (Nat.le_of_ble_eq_true rfl) (Nat.le_of_ble_eq_true rfl) (WP.rv ?_)
    rintro l1 S9 ⟨rfl, t, Kt, T⟩
    exact Ru.areturn (t := (.object "java/lang/String")) d_make_14 rfl rfl rfl rfl [] (fun _ q => nomatch q) (Nat.le_of_ble_eq_true rfl) (Nat.le_of_ble_eq_true rfl) ⟨_, rfl, s, t, rfl, rfl, KK.trans Kt (by simp; omega), T⟩
  · refine Ru.iloadN d_make_0 rfl ?_
    refine Ru.ifY d_make_1 (show ¬ (n32 1) = (0 : Int32) from (by decide)) ?_
    refine Ru.iloadN d_make_15 rfl ?_
    refine Ru.iconst (x := 1) d_make_16 rfl ?_
    refine Ru.icmpN d_make_17 (show (n32 1) = (1 : Int32) from rfl) ?_
    refine Ru.new d_make_20 (e.w 6 rfl) (e.w 7 rfl) (e.w 8 rfl) (Nat.le_of_ble_eq_true rfl) (Nat.le_of_ble_eq_true rfl) ?_
    intro h1 s gs E1 X1 D1
    refine Ru.dup d_make_23 rfl ?_
    refine Ru.iconst (x := 1) d_make_24 rfl ?_
    refine Ru.newarray (cap := 1) d_make_25 (ty := .char) rfl (e.w 9 rfl) rfl (by decide) (Nat.le_of_ble_eq_true rfl) (Nat.le_of_ble_eq_true rfl) (Nat.le_of_ble_eq_true rfl) (Nat.le_of_ble_eq_true rfl) ?_
    intro h2 a ga E2 A
    have ls := xlt X1; have X2 := X1.ext E2
    have Fv := Fld.ext E2 (D1 (Or.inr (e.w 35 rfl)) (ty := .array .byte) (by decide)); have Fc := Fld.ext E2 (D1 (Or.inr (e.w 33 rfl)) (ty := .byte) (by decide)); have nsa : s ≠ a := nne (by omega); have KK := (keepE E1).trans (keepE E2) (by simp)
    refine Ru.dup d_make_27 rfl ?_
    refine Ru.iconst (x := 0) d_make_28 rfl ?_
    refine Ru.iloadN d_make_29 rfl ?_
    refine Ru.castore d_make_30 (by simp) A (by decide) (Nat.le_of_ble_eq_true rfl) (nar_c q0) ?_
    intro g0 K0 A
    have X2 := X2.keep K0; have Fv := Fv.keep K0 (ninS nsa nin0); have Fc := Fc.keep K0 (ninS nsa nin0); have KK := KK.trans K0 (by simp; omega)
    have A : Ary G.Z _ a .char ((([c0, c1, c2, c3, c4, c5] : List Int32).take 1).map Value.int) := A
    refine Ru.callI0 (J := I_siu) (c_siu e X2 Fv Fc A (fun c z => hC c (List.mem_of_mem_take z)) (Nat.le_of_ble_eq_true rfl)) d_make_31 rfl rfl (e.w 10 rfl) (e.w 11 rfl) (e.w 8 rfl) (e.w 12 rfl) (by decide) np_siu rfl (a := s) (argsL := [(.ref a)]) (rest := [(.ref s)]) rfl rfl (by simp) (Nat.le_of_ble_eq_true rfl) (Nat.le_of_ble_eq_true rfl) (Nat.le_of_ble_eq_true rfl) (Nat.le_of_ble_eq_true rfl) (WP.rv ?_)
    rintro l1 S9 ⟨rfl, t, Kt, T⟩
    exact Ru.areturn (t := (.object "java/lang/String")) d_make_34 rfl rfl rfl rfl [] (fun _ q => nomatch q) (Nat.le_of_ble_eq_true rfl) (Nat.le_of_ble_eq_true rfl) ⟨_, rfl, s, t, rfl, rfl, KK.trans Kt (by simp; omega), T⟩
  · refine Ru.iloadN d_make_0 rfl ?_
    refine Ru.ifY d_make_1 (show ¬ (n32 2) = (0 : Int32) from (by decide)) ?_
    refine Ru.iloadN d_make_15 rfl ?_
    refine Ru.iconst (x := 1) d_make_16 rfl ?_
    refine Ru.icmpY d_make_17 (show ¬ (n32 2) = (1 : Int32) from (by decide)) ?_
    refine Ru.iloadN d_make_35 rfl ?_
    refine Ru.iconst (x := 2) d_make_36 rfl ?_
    refine Ru.icmpN d_make_37 (show (n32 2) = (2 : Int32) from rfl) ?_
    refine Ru.new d_make_40 (e.w 6 rfl) (e.w 7 rfl) (e.w 8 rfl) (Nat.le_of_ble_eq_true rfl) (Nat.le_of_ble_eq_true rfl) ?_
    intro h1 s gs E1 X1 D1
    refine Ru.dup d_make_43 rfl ?_
    refine Ru.iconst (x := 2) d_make_44 rfl ?_
    refine Ru.newarray (cap := 2) d_make_45 (ty := .char) rfl (e.w 9 rfl) rfl (by decide) (Nat.le_of_ble_eq_true rfl) (Nat.le_of_ble_eq_true rfl) (Nat.le_of_ble_eq_true rfl) (Nat.le_of_ble_eq_true rfl) ?_
    intro h2 a ga E2 A
    have ls := xlt X1; have X2 := X1.ext E2
    have Fv := Fld.ext E2 (D1 (Or.inr (e.w 35 rfl)) (ty := .array .byte) (by decide)); have Fc := Fld.ext E2 (D1 (Or.inr (e.w 33 rfl)) (ty := .byte) (by decide)); have nsa : s ≠ a := nne (by omega); have KK := (keepE E1).trans (keepE E2) (by simp)
    refine Ru.dup d_make_47 rfl ?_
    refine Ru.iconst (x := 0) d_make_48 rfl ?_
    refine Ru.iloadN d_make_49 rfl ?_
    refine Ru.castore d_make_50 (by simp) A (by decide) (Nat.le_of_ble_eq_true rfl) (nar_c q0) ?_
    intro g0 K0 A
    have X2 := X2.keep K0; have Fv := Fv.keep K0 (ninS nsa nin0); have Fc := Fc.keep K0 (ninS nsa nin0); have KK := KK.trans K0 (by simp; omega)
    refine Ru.dup d_make_51 rfl ?_
    refine Ru.iconst (x := 1) d_make_52 rfl ?_
    refine Ru.iloadN d_make_53 rfl ?_
    refine Ru.castore d_make_54 (by simp) A (by decide) (Nat.le_of_ble_eq_true rfl) (nar_c q1) ?_
    intro g1 K1 A
    have X2 := X2.keep K1; have Fv := Fv.keep K1 (ninS nsa nin0); have Fc := Fc.keep K1 (ninS nsa nin0); have KK := KK.trans K1 (by simp; omega)
    have A : Ary G.Z _ a .char ((([c0, c1, c2, c3, c4, c5] : List Int32).take 2).map Value.int) := A
    refine Ru.callI0 (J := I_siu) (c_siu e X2 Fv Fc A (fun c z => hC c (List.mem_of_mem_take z)) (Nat.le_of_ble_eq_true rfl)) d_make_55 rfl rfl (e.w 10 rfl) (e.w 11 rfl) (e.w 8 rfl) (e.w 12 rfl) (by decide) np_siu rfl (a := s) (argsL := [(.ref a)]) (rest := [(.ref s)]) rfl rfl (by simp) (Nat.le_of_ble_eq_true rfl) (Nat.le_of_ble_eq_true rfl) (Nat.le_of_ble_eq_true rfl) (Nat.le_of_ble_eq_true rfl) (WP.rv ?_)
    rintro l1 S9 ⟨rfl, t, Kt, T⟩
    exact Ru.areturn (t := (.object "java/lang/String")) d_make_58 rfl rfl rfl rfl [] (fun _ q => nomatch q) (Nat.le_of_ble_eq_true rfl) (Nat.le_of_ble_eq_true rfl) ⟨_, rfl, s, t, rfl, rfl, KK.trans Kt (by simp; omega), T⟩
  · refine Ru.iloadN d_make_0 rfl ?_
    refine Ru.ifY d_make_1 (show ¬ (n32 3) = (0 : Int32) from (by decide)) ?_
    refine Ru.iloadN d_make_15 rfl ?_
    refine Ru.iconst (x := 1) d_make_16 rfl ?_
    refine Ru.icmpY d_make_17 (show ¬ (n32 3) = (1 : Int32) from (by decide)) ?_
    refine Ru.iloadN d_make_35 rfl ?_
    refine Ru.iconst (x := 2) d_make_36 rfl ?_
    refine Ru.icmpY d_make_37 (show ¬ (n32 3) = (2 : Int32) from (by decide)) ?_
    refine Ru.iloadN d_make_59 rfl ?_
    refine Ru.iconst (x := 3) d_make_60 rfl ?_
    refine Ru.icmpN d_make_61 (show (n32 3) = (3 : Int32) from rfl) ?_
    refine Ru.new d_make_64 (e.w 6 rfl) (e.w 7 rfl) (e.w 8 rfl) (Nat.le_of_ble_eq_true rfl) (Nat.le_of_ble_eq_true rfl) ?_
    intro h1 s gs E1 X1 D1
    refine Ru.dup d_make_67 rfl ?_
    refine Ru.iconst (x := 3) d_make_68 rfl ?_
    refine Ru.newarray (cap := 3) d_make_69 (ty := .char) rfl (e.w 9 rfl) rfl (by decide) (Nat.le_of_ble_eq_true rfl) (Nat.le_of_ble_eq_true rfl) (Nat.le_of_ble_eq_true rfl) (Nat.le_of_ble_eq_true rfl) ?_
    intro h2 a ga E2 A
    have ls := xlt X1; have X2 := X1.ext E2
    have Fv := Fld.ext E2 (D1 (Or.inr (e.w 35 rfl)) (ty := .array .byte) (by decide)); have Fc := Fld.ext E2 (D1 (Or.inr (e.w 33 rfl)) (ty := .byte) (by decide)); have nsa : s ≠ a := nne (by omega); have KK := (keepE E1).trans (keepE E2) (by simp)
    refine Ru.dup d_make_71 rfl ?_
    refine Ru.iconst (x := 0) d_make_72 rfl ?_
    refine Ru.iloadN d_make_73 rfl ?_
    refine Ru.castore d_make_74 (by simp) A (by decide) (Nat.le_of_ble_eq_true rfl) (nar_c q0) ?_
    intro g0 K0 A
    have X2 := X2.keep K0; have Fv := Fv.keep K0 (ninS nsa nin0); have Fc := Fc.keep K0 (ninS nsa nin0); have KK := KK.trans K0 (by simp; omega)
    refine Ru.dup d_make_75 rfl ?_
    refine Ru.iconst (x := 1) d_make_76 rfl ?_
    refine Ru.iloadN d_make_77 rfl ?_
    refine Ru.castore d_make_78 (by simp) A (by decide) (Nat.le_of_ble_eq_true rfl) (nar_c q1) ?_
    intro g1 K1 A
    have X2 := X2.keep K1; have Fv := Fv.keep K1 (ninS nsa nin0); have Fc := Fc.keep K1 (ninS nsa nin0); have KK := KK.trans K1 (by simp; omega)
    refine Ru.dup d_make_79 rfl ?_
    refine Ru.iconst (x := 2) d_make_80 rfl ?_
    refine Ru.iloadN d_make_81 rfl ?_
    refine Ru.castore d_make_82 (by simp) A (by decide) (Nat.le_of_ble_eq_true rfl) (nar_c q2) ?_
    intro g2 K2 A
    have X2 := X2.keep K2; have Fv := Fv.keep K2 (ninS nsa nin0); have Fc := Fc.keep K2 (ninS nsa nin0); have KK := KK.trans K2 (by simp; omega)
    have A : Ary G.Z _ a .char ((([c0, c1, c2, c3, c4, c5] : List Int32).take 3).map Value.int) := A
    refine Ru.callI0 (J := I_siu) (c_siu e X2 Fv Fc A (fun c z => hC c (List.mem_of_mem_take z)) (Nat.le_of_ble_eq_true rfl)) d_make_83 rfl rfl (e.w 10 rfl) (e.w 11 rfl) (e.w 8 rfl) (e.w 12 rfl) (by decide) np_siu rfl (a := s) (argsL := [(.ref a)]) (rest := [(.ref s)]) rfl rfl (by simp) (Nat.le_of_ble_eq_true rfl) (Nat.le_of_ble_eq_true rfl) (Nat.le_of_ble_eq_true rfl) (Nat.le_of_ble_eq_true rfl) (WP.rv ?_)
    rintro l1 S9 ⟨rfl, t, Kt, T⟩
    exact Ru.areturn (t := (.object "java/lang/String")) d_make_86 rfl rfl rfl rfl [] (fun _ q => nomatch q) (Nat.le_of_ble_eq_true rfl) (Nat.le_of_ble_eq_true rfl) ⟨_, rfl, s, t, rfl, rfl, KK.trans Kt (by simp; omega), T⟩
  · refine Ru.iloadN d_make_0 rfl ?_
    refine Ru.ifY d_make_1 (show ¬ (n32 4) = (0 : Int32) from (by decide)) ?_
    refine Ru.iloadN d_make_15 rfl ?_
    refine Ru.iconst (x := 1) d_make_16 rfl ?_
    refine Ru.icmpY d_make_17 (show ¬ (n32 4) = (1 : Int32) from (by decide)) ?_
    refine Ru.iloadN d_make_35 rfl ?_
    refine Ru.iconst (x := 2) d_make_36 rfl ?_
    refine Ru.icmpY d_make_37 (show ¬ (n32 4) = (2 : Int32) from (by decide)) ?_
    refine Ru.iloadN d_make_59 rfl ?_
    refine Ru.iconst (x := 3) d_make_60 rfl ?_
    refine Ru.icmpY d_make_61 (show ¬ (n32 4) = (3 : Int32) from (by decide)) ?_
    refine Ru.iloadN d_make_87 rfl ?_
    refine Ru.iconst (x := 4) d_make_88 rfl ?_
    refine Ru.icmpN d_make_89 (show (n32 4) = (4 : Int32) from rfl) ?_
    refine Ru.new d_make_92 (e.w 6 rfl) (e.w 7 rfl) (e.w 8 rfl) (Nat.le_of_ble_eq_true rfl) (Nat.le_of_ble_eq_true rfl) ?_
    intro h1 s gs E1 X1 D1
    refine Ru.dup d_make_95 rfl ?_
    refine Ru.iconst (x := 4) d_make_96 rfl ?_
    refine Ru.newarray (cap := 4) d_make_97 (ty := .char) rfl (e.w 9 rfl) rfl (by decide) (Nat.le_of_ble_eq_true rfl) (Nat.le_of_ble_eq_true rfl) (Nat.le_of_ble_eq_true rfl) (Nat.le_of_ble_eq_true rfl) ?_
    intro h2 a ga E2 A
    have ls := xlt X1; have X2 := X1.ext E2
    have Fv := Fld.ext E2 (D1 (Or.inr (e.w 35 rfl)) (ty := .array .byte) (by decide)); have Fc := Fld.ext E2 (D1 (Or.inr (e.w 33 rfl)) (ty := .byte) (by decide)); have nsa : s ≠ a := nne (by omega); have KK := (keepE E1).trans (keepE E2) (by simp)
    refine Ru.dup d_make_99 rfl ?_
    refine Ru.iconst (x := 0) d_make_100 rfl ?_
    refine Ru.iloadN d_make_101 rfl ?_
    refine Ru.castore d_make_102 (by simp) A (by decide) (Nat.le_of_ble_eq_true rfl) (nar_c q0) ?_
    intro g0 K0 A
    have X2 := X2.keep K0; have Fv := Fv.keep K0 (ninS nsa nin0); have Fc := Fc.keep K0 (ninS nsa nin0); have KK := KK.trans K0 (by simp; omega)
    refine Ru.dup d_make_103 rfl ?_
    refine Ru.iconst (x := 1) d_make_104 rfl ?_
    refine Ru.iloadN d_make_105 rfl ?_
    refine Ru.castore d_make_106 (by simp) A (by decide) (Nat.le_of_ble_eq_true rfl) (nar_c q1) ?_
    intro g1 K1 A
    have X2 := X2.keep K1; have Fv := Fv.keep K1 (ninS nsa nin0); have Fc := Fc.keep K1 (ninS nsa nin0); have KK := KK.trans K1 (by simp; omega)
    refine Ru.dup d_make_107 rfl ?_
    refine Ru.iconst (x := 2) d_make_108 rfl ?_
    refine Ru.iloadN d_make_109 rfl ?_
    refine Ru.castore d_make_110 (by simp) A (by decide) (Nat.le_of_ble_eq_true rfl) (nar_c q2) ?_
    intro g2 K2 A
    have X2 := X2.keep K2; have Fv := Fv.keep K2 (ninS nsa nin0); have Fc := Fc.keep K2 (ninS nsa nin0); have KK := KK.trans K2 (by simp; omega)
    refine Ru.dup d_make_111 rfl ?_
    refine Ru.iconst (x := 3) d_make_112 rfl ?_
    refine Ru.iload d_make_113 rfl ?_
    refine Ru.castore d_make_115 (by simp) A (by decide) (Nat.le_of_ble_eq_true rfl) (nar_c q3) ?_
    intro g3 K3 A
    have X2 := X2.keep K3; have Fv := Fv.keep K3 (ninS nsa nin0); have Fc := Fc.keep K3 (ninS nsa nin0); have KK := KK.trans K3 (by simp; omega)
    have A : Ary G.Z _ a .char ((([c0, c1, c2, c3, c4, c5] : List Int32).take 4).map Value.int) := A
    refine Ru.callI0 (J := I_siu) (c_siu e X2 Fv Fc A (fun c z => hC c (List.mem_of_mem_take z)) (Nat.le_of_ble_eq_true rfl)) d_make_116 rfl rfl (e.w 10 rfl) (e.w 11 rfl) (e.w 8 rfl) (e.w 12 rfl) (by decide) np_siu rfl (a := s) (argsL := [(.ref a)]) (rest := [(.ref s)]) rfl rfl (by simp) (Nat.le_of_ble_eq_true rfl) (Nat.le_of_ble_eq_true rfl) (Nat.le_of_ble_eq_true rfl) (Nat.le_of_ble_eq_true rfl) (WP.rv ?_)
    rintro l1 S9 ⟨rfl, t, Kt, T⟩
    exact Ru.areturn (t := (.object "java/lang/String")) d_make_119 rfl rfl rfl rfl [] (fun _ q => nomatch q) (Nat.le_of_ble_eq_true rfl) (Nat.le_of_ble_eq_true rfl) ⟨_, rfl, s, t, rfl, rfl, KK.trans Kt (by simp; omega), T⟩
  · refine Ru.iloadN d_make_0 rfl ?_
    refine Ru.ifY d_make_1 (show ¬ (n32 5) = (0 : Int32) from (by decide)) ?_
    refine Ru.iloadN d_make_15 rfl ?_
    refine Ru.iconst (x := 1) d_make_16 rfl ?_
    refine Ru.icmpY d_make_17 (show ¬ (n32 5) = (1 : Int32) from (by decide)) ?_
    refine Ru.iloadN d_make_35 rfl ?_
    refine Ru.iconst (x := 2) d_make_36 rfl ?_
    refine Ru.icmpY d_make_37 (show ¬ (n32 5) = (2 : Int32) from (by decide)) ?_
    refine Ru.iloadN d_make_59 rfl ?_
    refine Ru.iconst (x := 3) d_make_60 rfl ?_
    refine Ru.icmpY d_make_61 (show ¬ (n32 5) = (3 : Int32) from (by decide)) ?_
    refine Ru.iloadN d_make_87 rfl ?_
    refine Ru.iconst (x := 4) d_make_88 rfl ?_
    refine Ru.icmpY d_make_89 (show ¬ (n32 5) = (4 : Int32) from (by decide)) ?_
    refine Ru.iloadN d_make_120 rfl ?_
    refine Ru.iconst (x := 5) d_make_121 rfl ?_
    refine Ru.icmpN d_make_122 (show (n32 5) = (5 : Int32) from rfl) ?_
    refine Ru.new d_make_125 (e.w 6 rfl) (e.w 7 rfl) (e.w 8 rfl) (Nat.le_of_ble_eq_true rfl) (Nat.le_of_ble_eq_true rfl) ?_
    intro h1 s gs E1 X1 D1
    refine Ru.dup d_make_128 rfl ?_
    refine Ru.iconst (x := 5) d_make_129 rfl ?_
    refine Ru.newarray (cap := 5) d_make_130 (ty := .char) rfl (e.w 9 rfl) rfl (by decide) (Nat.le_of_ble_eq_true rfl) (Nat.le_of_ble_eq_true rfl) (Nat.le_of_ble_eq_true rfl) (Nat.le_of_ble_eq_true rfl) ?_
    intro h2 a ga E2 A
    have ls := xlt X1; have X2 := X1.ext E2
    have Fv := Fld.ext E2 (D1 (Or.inr (e.w 35 rfl)) (ty := .array .byte) (by decide)); have Fc := Fld.ext E2 (D1 (Or.inr (e.w 33 rfl)) (ty := .byte) (by decide)); have nsa : s ≠ a := nne (by omega); have KK := (keepE E1).trans (keepE E2) (by simp)
    refine Ru.dup d_make_132 rfl ?_
    refine Ru.iconst (x := 0) d_make_133 rfl ?_
    refine Ru.iloadN d_make_134 rfl ?_
    refine Ru.castore d_make_135 (by simp) A (by decide) (Nat.le_of_ble_eq_true rfl) (nar_c q0) ?_
    intro g0 K0 A
    have X2 := X2.keep K0; have Fv := Fv.keep K0 (ninS nsa nin0); have Fc := Fc.keep K0 (ninS nsa nin0); have KK := KK.trans K0 (by simp; omega)
    refine Ru.dup d_make_136 rfl ?_
    refine Ru.iconst (x := 1) d_make_137 rfl ?_
    refine Ru.iloadN d_make_138 rfl ?_
    refine Ru.castore d_make_139 (by simp) A (by decide) (Nat.le_of_ble_eq_true rfl) (nar_c q1) ?_
    intro g1 K1 A
    have X2 := X2.keep K1; have Fv := Fv.keep K1 (ninS nsa nin0); have Fc := Fc.keep K1 (ninS nsa nin0); have KK := KK.trans K1 (by simp; omega)
    refine Ru.dup d_make_140 rfl ?_
    refine Ru.iconst (x := 2) d_make_141 rfl ?_
    refine Ru.iloadN d_make_142 rfl ?_
    refine Ru.castore d_make_143 (by simp) A (by decide) (Nat.le_of_ble_eq_true rfl) (nar_c q2) ?_
    intro g2 K2 A
    have X2 := X2.keep K2; have Fv := Fv.keep K2 (ninS nsa nin0); have Fc := Fc.keep K2 (ninS nsa nin0); have KK := KK.trans K2 (by simp; omega)
    refine Ru.dup d_make_144 rfl ?_
    refine Ru.iconst (x := 3) d_make_145 rfl ?_
    refine Ru.iload d_make_146 rfl ?_
    refine Ru.castore d_make_148 (by simp) A (by decide) (Nat.le_of_ble_eq_true rfl) (nar_c q3) ?_
    intro g3 K3 A
    have X2 := X2.keep K3; have Fv := Fv.keep K3 (ninS nsa nin0); have Fc := Fc.keep K3 (ninS nsa nin0); have KK := KK.trans K3 (by simp; omega)
    refine Ru.dup d_make_149 rfl ?_
    refine Ru.iconst (x := 4) d_make_150 rfl ?_
    refine Ru.iload d_make_151 rfl ?_
    refine Ru.castore d_make_153 (by simp) A (by decide) (Nat.le_of_ble_eq_true rfl) (nar_c q4) ?_
    intro g4 K4 A
    have X2 := X2.keep K4; have Fv := Fv.keep K4 (ninS nsa nin0); have Fc := Fc.keep K4 (ninS nsa nin0); have KK := KK.trans K4 (by simp; omega)
    have A : Ary G.Z _ a .char ((([c0, c1, c2, c3, c4, c5] : List Int32).take 5).map Value.int) := A
    refine Ru.callI0 (J := I_siu) (c_siu e X2 Fv Fc A (fun c z => hC c (List.mem_of_mem_take z)) (Nat.le_of_ble_eq_true rfl)) d_make_154 rfl rfl (e.w 10 rfl) (e.w 11 rfl) (e.w 8 rfl) (e.w 12 rfl) (by decide) np_siu rfl (a := s) (argsL := [(.ref a)]) (rest := [(.ref s)]) rfl rfl (by simp) (Nat.le_of_ble_eq_true rfl) (Nat.le_of_ble_eq_true rfl) (Nat.le_of_ble_eq_true rfl) (Nat.le_of_ble_eq_true rfl) (WP.rv ?_)
    rintro l1 S9 ⟨rfl, t, Kt, T⟩
    exact Ru.areturn (t := (.object "java/lang/String")) d_make_157 rfl rfl rfl rfl [] (fun _ q => nomatch q) (Nat.le_of_ble_eq_true rfl) (Nat.le_of_ble_eq_true rfl) ⟨_, rfl, s, t, rfl, rfl, KK.trans Kt (by simp; omega), T⟩
  · refine Ru.iloadN d_make_0 rfl ?_
    refine Ru.ifY d_make_1 (show ¬ (n32 6) = (0 : Int32) from (by decide)) ?_
    refine Ru.iloadN d_make_15 rfl ?_
    refine Ru.iconst (x := 1) d_make_16 rfl ?_
    refine Ru.icmpY d_make_17 (show ¬ (n32 6) = (1 : Int32) from (by decide)) ?_
    refine Ru.iloadN d_make_35 rfl ?_
    refine Ru.iconst (x := 2) d_make_36 rfl ?_
    refine Ru.icmpY d_make_37 (show ¬ (n32 6) = (2 : Int32) from (by decide)) ?_
    refine Ru.iloadN d_make_59 rfl ?_
    refine Ru.iconst (x := 3) d_make_60 rfl ?_
    refine Ru.icmpY d_make_61 (show ¬ (n32 6) = (3 : Int32) from (by decide)) ?_
    refine Ru.iloadN d_make_87 rfl ?_
    refine Ru.iconst (x := 4) d_make_88 rfl ?_
    refine Ru.icmpY d_make_89 (show ¬ (n32 6) = (4 : Int32) from (by decide)) ?_
    refine Ru.iloadN d_make_120 rfl ?_
    refine Ru.iconst (x := 5) d_make_121 rfl ?_
    refine Ru.icmpY d_make_122 (show ¬ (n32 6) = (5 : Int32) from (by decide)) ?_
    refine Ru.new d_make_158 (e.w 6 rfl) (e.w 7 rfl) (e.w 8 rfl) (Nat.le_of_ble_eq_true rfl) (Nat.le_of_ble_eq_true rfl) ?_
    intro h1 s gs E1 X1 D1
    refine Ru.dup d_make_161 rfl ?_
    refine Ru.bipush (x := 6) d_make_162 rfl ?_
    refine Ru.newarray (cap := 6) d_make_164 (ty := .char) rfl (e.w 9 rfl) rfl (by decide) (Nat.le_of_ble_eq_true rfl) (Nat.le_of_ble_eq_true rfl) (Nat.le_of_ble_eq_true rfl) (Nat.le_of_ble_eq_true rfl) ?_
    intro h2 a ga E2 A
    have ls := xlt X1; have X2 := X1.ext E2
    have Fv := Fld.ext E2 (D1 (Or.inr (e.w 35 rfl)) (ty := .array .byte) (by decide)); have Fc := Fld.ext E2 (D1 (Or.inr (e.w 33 rfl)) (ty := .byte) (by decide)); have nsa : s ≠ a := nne (by omega); have KK := (keepE E1).trans (keepE E2) (by simp)
    refine Ru.dup d_make_166 rfl ?_
    refine Ru.iconst (x := 0) d_make_167 rfl ?_
    refine Ru.iloadN d_make_168 rfl ?_
    refine Ru.castore d_make_169 (by simp) A (by decide) (Nat.le_of_ble_eq_true rfl) (nar_c q0) ?_
    intro g0 K0 A
    have X2 := X2.keep K0; have Fv := Fv.keep K0 (ninS nsa nin0); have Fc := Fc.keep K0 (ninS nsa nin0); have KK := KK.trans K0 (by simp; omega)
    refine Ru.dup d_make_170 rfl ?_
    refine Ru.iconst (x := 1) d_make_171 rfl ?_
    refine Ru.iloadN d_make_172 rfl ?_
    refine Ru.castore d_make_173 (by simp) A (by decide) (Nat.le_of_ble_eq_true rfl) (nar_c q1) ?_
    intro g1 K1 A
    have X2 := X2.keep K1; have Fv := Fv.keep K1 (ninS nsa nin0); have Fc := Fc.keep K1 (ninS nsa nin0); have KK := KK.trans K1 (by simp; omega)
    refine Ru.dup d_make_174 rfl ?_
    refine Ru.iconst (x := 2) d_make_175 rfl ?_
    refine Ru.iloadN d_make_176 rfl ?_
    refine Ru.castore d_make_177 (by simp) A (by decide) (Nat.le_of_ble_eq_true rfl) (nar_c q2) ?_
    intro g2 K2 A
    have X2 := X2.keep K2; have Fv := Fv.keep K2 (ninS nsa nin0); have Fc := Fc.keep K2 (ninS nsa nin0); have KK := KK.trans K2 (by simp; omega)
    refine Ru.dup d_make_178 rfl ?_
    refine Ru.iconst (x := 3) d_make_179 rfl ?_
    refine Ru.iload d_make_180 rfl ?_
    refine Ru.castore d_make_182 (by simp) A (by decide) (Nat.le_of_ble_eq_true rfl) (nar_c q3) ?_
    intro g3 K3 A
    have X2 := X2.keep K3; have Fv := Fv.keep K3 (ninS nsa nin0); have Fc := Fc.keep K3 (ninS nsa nin0); have KK := KK.trans K3 (by simp; omega)
    refine Ru.dup d_make_183 rfl ?_
    refine Ru.iconst (x := 4) d_make_184 rfl ?_
    refine Ru.iload d_make_185 rfl ?_
    refine Ru.castore d_make_187 (by simp) A (by decide) (Nat.le_of_ble_eq_true rfl) (nar_c q4) ?_
    intro g4 K4 A
    have X2 := X2.keep K4; have Fv := Fv.keep K4 (ninS nsa nin0); have Fc := Fc.keep K4 (ninS nsa nin0); have KK := KK.trans K4 (by simp; omega)
    refine Ru.dup d_make_188 rfl ?_
    refine Ru.iconst (x := 5) d_make_189 rfl ?_
    refine Ru.iload d_make_190 rfl ?_
    refine Ru.castore d_make_192 (by simp) A (by decide) (Nat.le_of_ble_eq_true rfl) (nar_c q5) ?_
    intro g5 K5 A
    have X2 := X2.keep K5; have Fv := Fv.keep K5 (ninS nsa nin0); have Fc := Fc.keep K5 (ninS nsa nin0); have KK := KK.trans K5 (by simp; omega)
    have A : Ary G.Z _ a .char ((([c0, c1, c2, c3, c4, c5] : List Int32).take 6).map Value.int) := A
    refine Ru.callI0 (J := I_siu) (c_siu e X2 Fv Fc A (fun c z => hC c (List.mem_of_mem_take z)) (Nat.le_of_ble_eq_true rfl)) d_make_193 rfl rfl (e.w 10 rfl) (e.w 11 rfl) (e.w 8 rfl) (e.w 12 rfl) (by decide) np_siu rfl (a := s) (argsL := [(.ref a)]) (rest := [(.ref s)]) rfl rfl (by simp) (Nat.le_of_ble_eq_true rfl) (Nat.le_of_ble_eq_true rfl) (Nat.le_of_ble_eq_true rfl) (Nat.le_of_ble_eq_true rfl) (WP.rv ?_)
    rintro l1 S9 ⟨rfl, t, Kt, T⟩
    exact Ru.areturn (t := (.object "java/lang/String")) d_make_196 rfl rfl rfl rfl [] (fun _ q => nomatch q) (Nat.le_of_ble_eq_true rfl) (Nat.le_of_ble_eq_true rfl) ⟨_, rfl, s, t, rfl, rfl, KK.trans Kt (by simp; omega), T⟩
theorem mod7 (p : Int32) : ∃ k, k ≤ 6 ∧ ((p &&& (2147483647 : Int32)) % (7 : Int32)) = n32 k := by
  have h := c_mask p 2147483647 31 (by decide) (by decide)
  have h0 : 0 ≤ (p &&& (2147483647 : Int32)).toInt := by rw [h]; exact Int.emod_nonneg _ (by decide)
  have h1 : ((p &&& (2147483647 : Int32)) % (7 : Int32)).toInt = (p &&& (2147483647 : Int32)).toInt % 7 := by
    rw [Int32.toInt_mod, Int.tmod_eq_emod_of_nonneg h0]; rfl
  refine ⟨((p &&& (2147483647 : Int32)).toInt % 7).toNat, by omega, ?_⟩
  apply Int32.toInt_inj.mp
  rw [h1, n32_int (by omega)]
  omega
theorem mem_wild {cs : List Int32} {c : Int32} (h : c ∈ cs) (q : c = 42 ∨ c = 63) : (42 : Int32) ∈ cs ∨ (63 : Int32) ∈ cs := q.imp (fun z => by rw [← z]; exact h) (fun z => by rw [← z]; exact h)
theorem no_wild {cs : List Int32} (h : ∀ c ∈ cs, ¬ (c = 42 ∨ c = 63)) : ¬ ((42 : Int32) ∈ cs ∨ (63 : Int32) ∈ cs) := fun z => z.elim (fun z => h _ z (Or.inl rfl)) (fun z => h _ z (Or.inr rfl))
abbrev I_law : Own.Inf := (x, code, maxLocals, ret, room_1)
theorem d_law_0 : Own.D1 code 0 (.iload_n 3) 1 1 := ⟨by decide +kernel, rfl⟩
theorem d_law_1 : Own.D1 code 1 (.ldc 7) 2 3 := ⟨by decide +kernel, rfl⟩
theorem d_law_3 : Own.D1 code 3 .iand 1 4 := ⟨by decide +kernel, rfl⟩
theorem d_law_4 : Own.D1 code 4 (.bipush 7) 2 6 := ⟨by decide +kernel, rfl⟩
theorem d_law_6 : Own.D1 code 6 .irem 1 7 := ⟨by decide +kernel, rfl⟩
theorem d_law_7 : Own.D1 code 7 (.istore 4) 2 9 := ⟨by decide +kernel, rfl⟩
theorem d_law_9 : Own.D1 code 9 (.iload_n 0) 1 10 := ⟨by decide +kernel, rfl⟩
theorem d_law_10 : Own.D1 code 10 (.ldc 8) 2 12 := ⟨by decide +kernel, rfl⟩
theorem d_law_12 : Own.D1 code 12 .iand 1 13 := ⟨by decide +kernel, rfl⟩
theorem d_law_13 : Own.D1 code 13 .i2c 1 14 := ⟨by decide +kernel, rfl⟩
theorem d_law_14 : Own.D1 code 14 (.istore 5) 2 16 := ⟨by decide +kernel, rfl⟩
theorem d_law_16 : Own.D1 code 16 (.iload_n 0) 1 17 := ⟨by decide +kernel, rfl⟩
theorem d_law_17 : Own.D1 code 17 (.bipush 16) 2 19 := ⟨by decide +kernel, rfl⟩
theorem d_law_19 : Own.D1 code 19 .iushr 1 20 := ⟨by decide +kernel, rfl⟩
theorem d_law_20 : Own.D1 code 20 (.ldc 8) 2 22 := ⟨by decide +kernel, rfl⟩
theorem d_law_22 : Own.D1 code 22 .iand 1 23 := ⟨by decide +kernel, rfl⟩
theorem d_law_23 : Own.D1 code 23 .i2c 1 24 := ⟨by decide +kernel, rfl⟩
theorem d_law_24 : Own.D1 code 24 (.istore 6) 2 26 := ⟨by decide +kernel, rfl⟩
theorem d_law_26 : Own.D1 code 26 (.iload_n 1) 1 27 := ⟨by decide +kernel, rfl⟩
theorem d_law_27 : Own.D1 code 27 (.ldc 8) 2 29 := ⟨by decide +kernel, rfl⟩
theorem d_law_29 : Own.D1 code 29 .iand 1 30 := ⟨by decide +kernel, rfl⟩
theorem d_law_30 : Own.D1 code 30 .i2c 1 31 := ⟨by decide +kernel, rfl⟩
theorem d_law_31 : Own.D1 code 31 (.istore 7) 2 33 := ⟨by decide +kernel, rfl⟩
theorem d_law_33 : Own.D1 code 33 (.iload_n 1) 1 34 := ⟨by decide +kernel, rfl⟩
theorem d_law_34 : Own.D1 code 34 (.bipush 16) 2 36 := ⟨by decide +kernel, rfl⟩
theorem d_law_36 : Own.D1 code 36 .iushr 1 37 := ⟨by decide +kernel, rfl⟩
theorem d_law_37 : Own.D1 code 37 (.ldc 8) 2 39 := ⟨by decide +kernel, rfl⟩
theorem d_law_39 : Own.D1 code 39 .iand 1 40 := ⟨by decide +kernel, rfl⟩
theorem d_law_40 : Own.D1 code 40 .i2c 1 41 := ⟨by decide +kernel, rfl⟩
theorem d_law_41 : Own.D1 code 41 (.istore 8) 2 43 := ⟨by decide +kernel, rfl⟩
theorem d_law_43 : Own.D1 code 43 (.iload_n 2) 1 44 := ⟨by decide +kernel, rfl⟩
theorem d_law_44 : Own.D1 code 44 (.ldc 8) 2 46 := ⟨by decide +kernel, rfl⟩
theorem d_law_46 : Own.D1 code 46 .iand 1 47 := ⟨by decide +kernel, rfl⟩
theorem d_law_47 : Own.D1 code 47 .i2c 1 48 := ⟨by decide +kernel, rfl⟩
theorem d_law_48 : Own.D1 code 48 (.istore 9) 2 50 := ⟨by decide +kernel, rfl⟩
theorem d_law_50 : Own.D1 code 50 (.iload_n 2) 1 51 := ⟨by decide +kernel, rfl⟩
theorem d_law_51 : Own.D1 code 51 (.bipush 16) 2 53 := ⟨by decide +kernel, rfl⟩
theorem d_law_53 : Own.D1 code 53 .iushr 1 54 := ⟨by decide +kernel, rfl⟩
theorem d_law_54 : Own.D1 code 54 (.ldc 8) 2 56 := ⟨by decide +kernel, rfl⟩
theorem d_law_56 : Own.D1 code 56 .iand 1 57 := ⟨by decide +kernel, rfl⟩
theorem d_law_57 : Own.D1 code 57 .i2c 1 58 := ⟨by decide +kernel, rfl⟩
theorem d_law_58 : Own.D1 code 58 (.istore 10) 2 60 := ⟨by decide +kernel, rfl⟩
theorem d_law_60 : Own.D1 code 60 (.iload 4) 2 62 := ⟨by decide +kernel, rfl⟩
theorem d_law_62 : Own.D1 code 62 (.iload 5) 2 64 := ⟨by decide +kernel, rfl⟩
theorem d_law_64 : Own.D1 code 64 (.iload 6) 2 66 := ⟨by decide +kernel, rfl⟩
theorem d_law_66 : Own.D1 code 66 (.iload 7) 2 68 := ⟨by decide +kernel, rfl⟩
theorem d_law_68 : Own.D1 code 68 (.iload 8) 2 70 := ⟨by decide +kernel, rfl⟩
theorem d_law_70 : Own.D1 code 70 (.iload 9) 2 72 := ⟨by decide +kernel, rfl⟩
theorem d_law_72 : Own.D1 code 72 (.iload 10) 2 74 := ⟨by decide +kernel, rfl⟩
theorem d_law_74 : Own.D1 code 74 (.invokestatic 9) 3 77 := ⟨by decide +kernel, rfl⟩
theorem d_law_77 : Own.D1 code 77 (.astore 11) 2 79 := ⟨by decide +kernel, rfl⟩
theorem d_law_79 : Own.D1 code 79 (.iload 4) 2 81 := ⟨by decide +kernel, rfl⟩
theorem d_law_81 : Own.DB code 81 (.ifCond .le 11) 3 (11) 84 92 := ⟨by decide +kernel, rfl, by decide, rfl⟩
theorem d_law_84 : Own.D1 code 84 (.iload 5) 2 86 := ⟨by decide +kernel, rfl⟩
theorem d_law_86 : Own.D1 code 86 (.invokestatic 15) 3 89 := ⟨by decide +kernel, rfl⟩
theorem d_law_89 : Own.DB code 89 (.ifCond .ne 73) 3 (73) 92 162 := ⟨by decide +kernel, rfl, by decide, rfl⟩
theorem d_law_92 : Own.D1 code 92 (.iload 4) 2 94 := ⟨by decide +kernel, rfl⟩
theorem d_law_94 : Own.D1 code 94 (.iconst 1) 1 95 := ⟨by decide +kernel, rfl⟩
theorem d_law_95 : Own.DB code 95 (.if_icmp .le 11) 3 (11) 98 106 := ⟨by decide +kernel, rfl, by decide, rfl⟩
theorem d_law_98 : Own.D1 code 98 (.iload 6) 2 100 := ⟨by decide +kernel, rfl⟩
theorem d_law_100 : Own.D1 code 100 (.invokestatic 15) 3 103 := ⟨by decide +kernel, rfl⟩
theorem d_law_103 : Own.DB code 103 (.ifCond .ne 59) 3 (59) 106 162 := ⟨by decide +kernel, rfl, by decide, rfl⟩
theorem d_law_106 : Own.D1 code 106 (.iload 4) 2 108 := ⟨by decide +kernel, rfl⟩
theorem d_law_108 : Own.D1 code 108 (.iconst 2) 1 109 := ⟨by decide +kernel, rfl⟩
theorem d_law_109 : Own.DB code 109 (.if_icmp .le 11) 3 (11) 112 120 := ⟨by decide +kernel, rfl, by decide, rfl⟩
theorem d_law_112 : Own.D1 code 112 (.iload 7) 2 114 := ⟨by decide +kernel, rfl⟩
theorem d_law_114 : Own.D1 code 114 (.invokestatic 15) 3 117 := ⟨by decide +kernel, rfl⟩
theorem d_law_117 : Own.DB code 117 (.ifCond .ne 45) 3 (45) 120 162 := ⟨by decide +kernel, rfl, by decide, rfl⟩
theorem d_law_120 : Own.D1 code 120 (.iload 4) 2 122 := ⟨by decide +kernel, rfl⟩
theorem d_law_122 : Own.D1 code 122 (.iconst 3) 1 123 := ⟨by decide +kernel, rfl⟩
theorem d_law_123 : Own.DB code 123 (.if_icmp .le 11) 3 (11) 126 134 := ⟨by decide +kernel, rfl, by decide, rfl⟩
theorem d_law_126 : Own.D1 code 126 (.iload 8) 2 128 := ⟨by decide +kernel, rfl⟩
theorem d_law_128 : Own.D1 code 128 (.invokestatic 15) 3 131 := ⟨by decide +kernel, rfl⟩
theorem d_law_131 : Own.DB code 131 (.ifCond .ne 31) 3 (31) 134 162 := ⟨by decide +kernel, rfl, by decide, rfl⟩
theorem d_law_134 : Own.D1 code 134 (.iload 4) 2 136 := ⟨by decide +kernel, rfl⟩
theorem d_law_136 : Own.D1 code 136 (.iconst 4) 1 137 := ⟨by decide +kernel, rfl⟩
theorem d_law_137 : Own.DB code 137 (.if_icmp .le 11) 3 (11) 140 148 := ⟨by decide +kernel, rfl, by decide, rfl⟩
theorem d_law_140 : Own.D1 code 140 (.iload 9) 2 142 := ⟨by decide +kernel, rfl⟩
theorem d_law_142 : Own.D1 code 142 (.invokestatic 15) 3 145 := ⟨by decide +kernel, rfl⟩
theorem d_law_145 : Own.DB code 145 (.ifCond .ne 17) 3 (17) 148 162 := ⟨by decide +kernel, rfl, by decide, rfl⟩
theorem d_law_148 : Own.D1 code 148 (.iload 4) 2 150 := ⟨by decide +kernel, rfl⟩
theorem d_law_150 : Own.D1 code 150 (.iconst 5) 1 151 := ⟨by decide +kernel, rfl⟩
theorem d_law_151 : Own.DB code 151 (.if_icmp .le 15) 3 (15) 154 166 := ⟨by decide +kernel, rfl, by decide, rfl⟩
theorem d_law_154 : Own.D1 code 154 (.iload 10) 2 156 := ⟨by decide +kernel, rfl⟩
theorem d_law_156 : Own.D1 code 156 (.invokestatic 15) 3 159 := ⟨by decide +kernel, rfl⟩
theorem d_law_159 : Own.DB code 159 (.ifCond .eq 7) 3 (7) 162 166 := ⟨by decide +kernel, rfl, by decide, rfl⟩
theorem d_law_162 : Own.D1 code 162 (.iconst 1) 1 163 := ⟨by decide +kernel, rfl⟩
theorem d_law_163 : Own.DB code 163 (.goto 4) 3 (4) 166 167 := ⟨by decide +kernel, rfl, by decide, rfl⟩
theorem d_law_166 : Own.D1 code 166 (.iconst 0) 1 167 := ⟨by decide +kernel, rfl⟩
theorem d_law_167 : Own.D1 code 167 (.istore 12) 2 169 := ⟨by decide +kernel, rfl⟩
theorem d_law_169 : Own.D1 code 169 (.aload 11) 2 171 := ⟨by decide +kernel, rfl⟩
theorem d_law_171 : Own.D1 code 171 (.invokestatic 19) 3 174 := ⟨by decide +kernel, rfl⟩
theorem d_law_174 : Own.D1 code 174 (.iload 12) 2 176 := ⟨by decide +kernel, rfl⟩
theorem d_law_176 : Own.DB code 176 (.if_icmp .ne 7) 3 (7) 179 183 := ⟨by decide +kernel, rfl, by decide, rfl⟩
theorem d_law_179 : Own.D1 code 179 (.iconst 1) 1 180 := ⟨by decide +kernel, rfl⟩
theorem d_law_180 : Own.DB code 180 (.goto 4) 3 (4) 183 184 := ⟨by decide +kernel, rfl, by decide, rfl⟩
theorem d_law_183 : Own.D1 code 183 (.iconst 0) 1 184 := ⟨by decide +kernel, rfl⟩
theorem d_law_184 : Own.D1 code 184 .ireturn 1 185 := ⟨by decide +kernel, rfl⟩
theorem np_law : Own.npar "(IIII)Z" = some 4 := by decide +kernel
set_option maxRecDepth 65536 in
set_option maxHeartbeats 40000000 in
theorem c_law {G : Own.Wd} {a0 : Array Value} (e : Ev G a0) {p0 p1 p2 p3 : Int32} {h : Heap}  : Met G I_law #[(.int p0), (.int p1), (.int p2), (.int p3)] h [] (Rt (fun x h' S' => x = .int 1)) := by
  refine Met.intro (ls := #[.val (.int p0), .val (.int p1), .val (.int p2), .val (.int p3), .unset, .unset, .unset, .unset, .unset, .unset, .unset, .unset, .unset]) (plainFor_of_name pn_6) (fun m => by first | (simp [entryFrame, mkF, argsToLocals, Value.category, maxLocals]; done) | (simp [entryFrame, mkF, argsToLocals, Value.category]; rfl) | rfl) ?_
  intro K
  refine Ru.iloadN d_law_0 rfl ?_
  refine Ru.ldcInt d_law_1 (e.w 0 rfl) ?_
  refine Ru.iand d_law_3 ?_
  refine Ru.bipush (x := 7) d_law_4 rfl ?_
  refine Ru.irem d_law_6 (by decide) ?_
  obtain ⟨k, hk, ek⟩ := mod7 p3
  refine WP.topI (show ((p3 &&& (2147483647 : Int32)) % (7 : Int32)) = (n32 k) from ek) ?_
  refine Ru.istore d_law_7 (ls' := #[.val (.int p0), .val (.int p1), .val (.int p2), .val (.int p3), .val (.int (n32 k)), .unset, .unset, .unset, .unset, .unset, .unset, .unset, .unset]) rfl ?_
  refine Ru.iloadN d_law_9 rfl ?_
  refine Ru.ldcInt d_law_10 (e.w 1 rfl) ?_
  refine Ru.iand d_law_12 ?_
  refine Ru.i2c d_law_13 ?_
  obtain ⟨c0, hc0⟩ : ∃ c, c = ((p0 &&& (65535 : Int32))).toUInt32.toUInt16.toUInt32.toInt32 := ⟨_, rfl⟩
  have q0 : IsC c0 := hc0 ▸ i2c_isC _
  refine WP.topI (show ((p0 &&& (65535 : Int32))).toUInt32.toUInt16.toUInt32.toInt32 = c0 from hc0.symm) ?_
  refine Ru.istore d_law_14 (ls' := #[.val (.int p0), .val (.int p1), .val (.int p2), .val (.int p3), .val (.int (n32 k)), .val (.int c0), .unset, .unset, .unset, .unset, .unset, .unset, .unset]) rfl ?_
  refine Ru.iloadN d_law_16 rfl ?_
  refine Ru.bipush (x := 16) d_law_17 rfl ?_
  refine Ru.iushr d_law_19 ?_
  refine Ru.ldcInt d_law_20 (e.w 1 rfl) ?_
  refine Ru.iand d_law_22 ?_
  refine Ru.i2c d_law_23 ?_
  obtain ⟨c1, hc1⟩ : ∃ c, c = ((((p0).toUInt32 >>> ((16 : Int32) &&& 31).toUInt32).toInt32 &&& (65535 : Int32))).toUInt32.toUInt16.toUInt32.toInt32 := ⟨_, rfl⟩
  have q1 : IsC c1 := hc1 ▸ i2c_isC _
  refine WP.topI (show ((((p0).toUInt32 >>> ((16 : Int32) &&& 31).toUInt32).toInt32 &&& (65535 : Int32))).toUInt32.toUInt16.toUInt32.toInt32 = c1 from hc1.symm) ?_
  refine Ru.istore d_law_24 (ls' := #[.val (.int p0), .val (.int p1), .val (.int p2), .val (.int p3), .val (.int (n32 k)), .val (.int c0), .val (.int c1), .unset, .unset, .unset, .unset, .unset, .unset]) rfl ?_
  refine Ru.iloadN d_law_26 rfl ?_
  refine Ru.ldcInt d_law_27 (e.w 1 rfl) ?_
  refine Ru.iand d_law_29 ?_
  refine Ru.i2c d_law_30 ?_
  obtain ⟨c2, hc2⟩ : ∃ c, c = ((p1 &&& (65535 : Int32))).toUInt32.toUInt16.toUInt32.toInt32 := ⟨_, rfl⟩
  have q2 : IsC c2 := hc2 ▸ i2c_isC _
  refine WP.topI (show ((p1 &&& (65535 : Int32))).toUInt32.toUInt16.toUInt32.toInt32 = c2 from hc2.symm) ?_
  refine Ru.istore d_law_31 (ls' := #[.val (.int p0), .val (.int p1), .val (.int p2), .val (.int p3), .val (.int (n32 k)), .val (.int c0), .val (.int c1), .val (.int c2), .unset, .unset, .unset, .unset, .unset]) rfl ?_
  refine Ru.iloadN d_law_33 rfl ?_
  refine Ru.bipush (x := 16) d_law_34 rfl ?_
  refine Ru.iushr d_law_36 ?_
  refine Ru.ldcInt d_law_37 (e.w 1 rfl) ?_
  refine Ru.iand d_law_39 ?_
  refine Ru.i2c d_law_40 ?_
  obtain ⟨c3, hc3⟩ : ∃ c, c = ((((p1).toUInt32 >>> ((16 : Int32) &&& 31).toUInt32).toInt32 &&& (65535 : Int32))).toUInt32.toUInt16.toUInt32.toInt32 := ⟨_, rfl⟩
  have q3 : IsC c3 := hc3 ▸ i2c_isC _
  refine WP.topI (show ((((p1).toUInt32 >>> ((16 : Int32) &&& 31).toUInt32).toInt32 &&& (65535 : Int32))).toUInt32.toUInt16.toUInt32.toInt32 = c3 from hc3.symm) ?_
  refine Ru.istore d_law_41 (ls' := #[.val (.int p0), .val (.int p1), .val (.int p2), .val (.int p3), .val (.int (n32 k)), .val (.int c0), .val (.int c1), .val (.int c2), .val (.int c3), .unset, .unset, .unset, .unset]) rfl ?_
  refine Ru.iloadN d_law_43 rfl ?_
  refine Ru.ldcInt d_law_44 (e.w 1 rfl) ?_
  refine Ru.iand d_law_46 ?_
  refine Ru.i2c d_law_47 ?_
  obtain ⟨c4, hc4⟩ : ∃ c, c = ((p2 &&& (65535 : Int32))).toUInt32.toUInt16.toUInt32.toInt32 := ⟨_, rfl⟩
  have q4 : IsC c4 := hc4 ▸ i2c_isC _
  refine WP.topI (show ((p2 &&& (65535 : Int32))).toUInt32.toUInt16.toUInt32.toInt32 = c4 from hc4.symm) ?_
  refine Ru.istore d_law_48 (ls' := #[.val (.int p0), .val (.int p1), .val (.int p2), .val (.int p3), .val (.int (n32 k)), .val (.int c0), .val (.int c1), .val (.int c2), .val (.int c3), .val (.int c4), .unset, .unset, .unset]) rfl ?_
  refine Ru.iloadN d_law_50 rfl ?_
  refine Ru.bipush (x := 16) d_law_51 rfl ?_
  refine Ru.iushr d_law_53 ?_
  refine Ru.ldcInt d_law_54 (e.w 1 rfl) ?_
  refine Ru.iand d_law_56 ?_
  refine Ru.i2c d_law_57 ?_
  obtain ⟨c5, hc5⟩ : ∃ c, c = ((((p2).toUInt32 >>> ((16 : Int32) &&& 31).toUInt32).toInt32 &&& (65535 : Int32))).toUInt32.toUInt16.toUInt32.toInt32 := ⟨_, rfl⟩
  have q5 : IsC c5 := hc5 ▸ i2c_isC _
  refine WP.topI (show ((((p2).toUInt32 >>> ((16 : Int32) &&& 31).toUInt32).toInt32 &&& (65535 : Int32))).toUInt32.toUInt16.toUInt32.toInt32 = c5 from hc5.symm) ?_
  have hC : ∀ c ∈ [c0, c1, c2, c3, c4, c5], IsC c := by simp [q0, q1, q2, q3, q4, q5]
  refine Ru.istore d_law_58 (ls' := #[.val (.int p0), .val (.int p1), .val (.int p2), .val (.int p3), .val (.int (n32 k)), .val (.int c0), .val (.int c1), .val (.int c2), .val (.int c3), .val (.int c4), .val (.int c5), .unset, .unset]) rfl ?_
  refine Ru.iload d_law_60 rfl ?_
  refine Ru.iload d_law_62 rfl ?_
  refine Ru.iload d_law_64 rfl ?_
  refine Ru.iload d_law_66 rfl ?_
  refine Ru.iload d_law_68 rfl ?_
  refine Ru.iload d_law_70 rfl ?_
  refine Ru.iload d_law_72 rfl ?_
  refine Ru.callS0 (J := I_make) (c_make e hk q0 q1 q2 q3 q4 q5 hC) d_law_74 (e.w 2 rfl) (e.w 3 rfl) (e.w 4 rfl) (e.w 5 rfl) (by decide) np_make rfl (argsL := [(.int (n32 k)), (.int c0), (.int c1), (.int c2), (.int c3), (.int c4), (.int c5)]) (rest := []) rfl rfl (fun _ q => nomatch q) (Nat.le_of_ble_eq_true rfl) (Nat.le_of_ble_eq_true rfl) (Nat.le_of_ble_eq_true rfl) (Nat.le_of_ble_eq_true rfl) (WP.rt ?_)
  rintro _ h1 S1 ⟨s, t, rfl, rfl, K1, T⟩
  refine Ru.astore d_law_77 rfl (ls' := #[.val (.int p0), .val (.int p1), .val (.int p2), .val (.int p3), .val (.int (n32 k)), .val (.int c0), .val (.int c1), .val (.int c2), .val (.int c3), .val (.int c4), .val (.int c5), .val (.ref s), .unset]) rfl ?_
  rcases (show k = 0 ∨ k = 1 ∨ k = 2 ∨ k = 3 ∨ k = 4 ∨ k = 5 ∨ k = 6 by omega) with rfl | rfl | rfl | rfl | rfl | rfl | rfl
  · refine Ru.iload d_law_79 rfl ?_
    refine Ru.ifY d_law_81 (show ¬ (0 : Int32) < (n32 0) from (by decide)) ?_
    refine Ru.iload d_law_92 rfl ?_
    refine Ru.iconst (x := 1) d_law_94 rfl ?_
    refine Ru.icmpY d_law_95 (show ¬ (1 : Int32) < (n32 0) from (by decide)) ?_
    refine Ru.iload d_law_106 rfl ?_
    refine Ru.iconst (x := 2) d_law_108 rfl ?_
    refine Ru.icmpY d_law_109 (show ¬ (2 : Int32) < (n32 0) from (by decide)) ?_
    refine Ru.iload d_law_120 rfl ?_
    refine Ru.iconst (x := 3) d_law_122 rfl ?_
    refine Ru.icmpY d_law_123 (show ¬ (3 : Int32) < (n32 0) from (by decide)) ?_
    refine Ru.iload d_law_134 rfl ?_
    refine Ru.iconst (x := 4) d_law_136 rfl ?_
    refine Ru.icmpY d_law_137 (show ¬ (4 : Int32) < (n32 0) from (by decide)) ?_
    refine Ru.iload d_law_148 rfl ?_
    refine Ru.iconst (x := 5) d_law_150 rfl ?_
    refine Ru.icmpY d_law_151 (show ¬ (5 : Int32) < (n32 0) from (by decide)) ?_
    refine Ru.iconst (x := 0) d_law_166 rfl ?_
    refine Ru.istore d_law_167 (ls' := #[.val (.int p0), .val (.int p1), .val (.int p2), .val (.int p3), .val (.int (n32 0)), .val (.int c0), .val (.int c1), .val (.int c2), .val (.int c3), .val (.int c4), .val (.int c5), .val (.ref s), .val (.int (0 : Int32))]) rfl ?_
    refine Ru.aload d_law_169 rfl rfl ?_
    refine Ru.callS0 (J := I_ispat) (c_ispat e T) d_law_171 (e.w 39 rfl) (e.w 40 rfl) (e.w 41 rfl) (e.w 42 rfl) (by decide) np_ispat rfl (argsL := [(.ref s)]) (rest := []) rfl rfl (fun _ q => nomatch q) (Nat.le_of_ble_eq_true rfl) (Nat.le_of_ble_eq_true rfl) (Nat.le_of_ble_eq_true rfl) (Nat.le_of_ble_eq_true rfl) (WP.rt ?_)
    rintro _ _ S3 ⟨rfl, rfl, rfl⟩
    refine WP.topI (show (if (42 : Int32) ∈ ([c0, c1, c2, c3, c4, c5] : List Int32).take 0 ∨ (63 : Int32) ∈ ([c0, c1, c2, c3, c4, c5] : List Int32).take 0 then (1 : Int32) else 0) = (0 : Int32) from (if_neg (no_wild (by simp)))) ?_
    refine Ru.iload d_law_174 rfl ?_
    refine Ru.icmpN d_law_176 (show (0 : Int32) = (0 : Int32) from rfl) ?_
    refine Ru.iconst (x := 1) d_law_179 rfl ?_
    refine Ru.goto d_law_180 ?_
    exact Ru.ireturnN (t := .boolean) (x' := (1 : Int32)) d_law_184 rfl (by simp) rfl [] (fun _ q => nomatch q) (Nat.le_of_ble_eq_true rfl) (Nat.le_of_ble_eq_true rfl) ⟨_, rfl, rfl⟩
  · refine Ru.iload d_law_79 rfl ?_
    refine Ru.ifN d_law_81 (show (0 : Int32) < (n32 1) from (by decide)) ?_
    refine Ru.iload d_law_84 rfl ?_
    refine Ru.callS0 (J := I_wild) (c_wild e) d_law_86 (e.w 36 rfl) (e.w 37 rfl) (e.w 4 rfl) (e.w 38 rfl) (by decide) np_wild rfl (argsL := [(.int c0)]) (rest := []) rfl rfl (fun _ q => nomatch q) (Nat.le_of_ble_eq_true rfl) (Nat.le_of_ble_eq_true rfl) (Nat.le_of_ble_eq_true rfl) (Nat.le_of_ble_eq_true rfl) (WP.rt ?_)
    rintro _ _ S2 ⟨rfl, rfl, rfl⟩
    by_cases w0 : c0 = 42 ∨ c0 = 63
    · refine WP.topI (show (if c0 = 42 ∨ c0 = 63 then (1 : Int32) else 0) = (1 : Int32) from (if_pos w0)) ?_
      refine Ru.ifY d_law_89 (show ¬ (1 : Int32) = (0 : Int32) from (by decide)) ?_
      refine Ru.iconst (x := 1) d_law_162 rfl ?_
      refine Ru.goto d_law_163 ?_
      refine Ru.istore d_law_167 (ls' := #[.val (.int p0), .val (.int p1), .val (.int p2), .val (.int p3), .val (.int (n32 1)), .val (.int c0), .val (.int c1), .val (.int c2), .val (.int c3), .val (.int c4), .val (.int c5), .val (.ref s), .val (.int (1 : Int32))]) rfl ?_
      refine Ru.aload d_law_169 rfl rfl ?_
      refine Ru.callS0 (J := I_ispat) (c_ispat e T) d_law_171 (e.w 39 rfl) (e.w 40 rfl) (e.w 41 rfl) (e.w 42 rfl) (by decide) np_ispat rfl (argsL := [(.ref s)]) (rest := []) rfl rfl (fun _ q => nomatch q) (Nat.le_of_ble_eq_true rfl) (Nat.le_of_ble_eq_true rfl) (Nat.le_of_ble_eq_true rfl) (Nat.le_of_ble_eq_true rfl) (WP.rt ?_)
      rintro _ _ S3 ⟨rfl, rfl, rfl⟩
      refine WP.topI (show (if (42 : Int32) ∈ ([c0, c1, c2, c3, c4, c5] : List Int32).take 1 ∨ (63 : Int32) ∈ ([c0, c1, c2, c3, c4, c5] : List Int32).take 1 then (1 : Int32) else 0) = (1 : Int32) from (if_pos (mem_wild (c := c0) (by simp) w0))) ?_
      refine Ru.iload d_law_174 rfl ?_
      refine Ru.icmpN d_law_176 (show (1 : Int32) = (1 : Int32) from rfl) ?_
      refine Ru.iconst (x := 1) d_law_179 rfl ?_
      refine Ru.goto d_law_180 ?_
      exact Ru.ireturnN (t := .boolean) (x' := (1 : Int32)) d_law_184 rfl (by simp) rfl [] (fun _ q => nomatch q) (Nat.le_of_ble_eq_true rfl) (Nat.le_of_ble_eq_true rfl) ⟨_, rfl, rfl⟩
    · refine WP.topI (show (if c0 = 42 ∨ c0 = 63 then (1 : Int32) else 0) = (0 : Int32) from (if_neg w0)) ?_
      refine Ru.ifN d_law_89 (show (0 : Int32) = (0 : Int32) from rfl) ?_
      refine Ru.iload d_law_92 rfl ?_
      refine Ru.iconst (x := 1) d_law_94 rfl ?_
      refine Ru.icmpY d_law_95 (show ¬ (1 : Int32) < (n32 1) from (by decide)) ?_
      refine Ru.iload d_law_106 rfl ?_
      refine Ru.iconst (x := 2) d_law_108 rfl ?_
      refine Ru.icmpY d_law_109 (show ¬ (2 : Int32) < (n32 1) from (by decide)) ?_
      refine Ru.iload d_law_120 rfl ?_
      refine Ru.iconst (x := 3) d_law_122 rfl ?_
      refine Ru.icmpY d_law_123 (show ¬ (3 : Int32) < (n32 1) from (by decide)) ?_
      refine Ru.iload d_law_134 rfl ?_
      refine Ru.iconst (x := 4) d_law_136 rfl ?_
      refine Ru.icmpY d_law_137 (show ¬ (4 : Int32) < (n32 1) from (by decide)) ?_
      refine Ru.iload d_law_148 rfl ?_
      refine Ru.iconst (x := 5) d_law_150 rfl ?_
      refine Ru.icmpY d_law_151 (show ¬ (5 : Int32) < (n32 1) from (by decide)) ?_
      refine Ru.iconst (x := 0) d_law_166 rfl ?_
      refine Ru.istore d_law_167 (ls' := #[.val (.int p0), .val (.int p1), .val (.int p2), .val (.int p3), .val (.int (n32 1)), .val (.int c0), .val (.int c1), .val (.int c2), .val (.int c3), .val (.int c4), .val (.int c5), .val (.ref s), .val (.int (0 : Int32))]) rfl ?_
      refine Ru.aload d_law_169 rfl rfl ?_
      refine Ru.callS0 (J := I_ispat) (c_ispat e T) d_law_171 (e.w 39 rfl) (e.w 40 rfl) (e.w 41 rfl) (e.w 42 rfl) (by decide) np_ispat rfl (argsL := [(.ref s)]) (rest := []) rfl rfl (fun _ q => nomatch q) (Nat.le_of_ble_eq_true rfl) (Nat.le_of_ble_eq_true rfl) (Nat.le_of_ble_eq_true rfl) (Nat.le_of_ble_eq_true rfl) (WP.rt ?_)
      rintro _ _ S3 ⟨rfl, rfl, rfl⟩
      refine WP.topI (show (if (42 : Int32) ∈ ([c0, c1, c2, c3, c4, c5] : List Int32).take 1 ∨ (63 : Int32) ∈ ([c0, c1, c2, c3, c4, c5] : List Int32).take 1 then (1 : Int32) else 0) = (0 : Int32) from (if_neg (no_wild (by simp [(not_or.mp w0).1, (not_or.mp w0).2])))) ?_
      refine Ru.iload d_law_174 rfl ?_
      refine Ru.icmpN d_law_176 (show (0 : Int32) = (0 : Int32) from rfl) ?_
      refine Ru.iconst (x := 1) d_law_179 rfl ?_
      refine Ru.goto d_law_180 ?_
      exact Ru.ireturnN (t := .boolean) (x' := (1 : Int32)) d_law_184 rfl (by simp) rfl [] (fun _ q => nomatch q) (Nat.le_of_ble_eq_true rfl) (Nat.le_of_ble_eq_true rfl) ⟨_, rfl, rfl⟩
  · refine Ru.iload d_law_79 rfl ?_
    refine Ru.ifN d_law_81 (show (0 : Int32) < (n32 2) from (by decide)) ?_
    refine Ru.iload d_law_84 rfl ?_
    refine Ru.callS0 (J := I_wild) (c_wild e) d_law_86 (e.w 36 rfl) (e.w 37 rfl) (e.w 4 rfl) (e.w 38 rfl) (by decide) np_wild rfl (argsL := [(.int c0)]) (rest := []) rfl rfl (fun _ q => nomatch q) (Nat.le_of_ble_eq_true rfl) (Nat.le_of_ble_eq_true rfl) (Nat.le_of_ble_eq_true rfl) (Nat.le_of_ble_eq_true rfl) (WP.rt ?_)
    rintro _ _ S2 ⟨rfl, rfl, rfl⟩
    by_cases w0 : c0 = 42 ∨ c0 = 63
    · refine WP.topI (show (if c0 = 42 ∨ c0 = 63 then (1 : Int32) else 0) = (1 : Int32) from (if_pos w0)) ?_
      refine Ru.ifY d_law_89 (show ¬ (1 : Int32) = (0 : Int32) from (by decide)) ?_
      refine Ru.iconst (x := 1) d_law_162 rfl ?_
      refine Ru.goto d_law_163 ?_
      refine Ru.istore d_law_167 (ls' := #[.val (.int p0), .val (.int p1), .val (.int p2), .val (.int p3), .val (.int (n32 2)), .val (.int c0), .val (.int c1), .val (.int c2), .val (.int c3), .val (.int c4), .val (.int c5), .val (.ref s), .val (.int (1 : Int32))]) rfl ?_
      refine Ru.aload d_law_169 rfl rfl ?_
      refine Ru.callS0 (J := I_ispat) (c_ispat e T) d_law_171 (e.w 39 rfl) (e.w 40 rfl) (e.w 41 rfl) (e.w 42 rfl) (by decide) np_ispat rfl (argsL := [(.ref s)]) (rest := []) rfl rfl (fun _ q => nomatch q) (Nat.le_of_ble_eq_true rfl) (Nat.le_of_ble_eq_true rfl) (Nat.le_of_ble_eq_true rfl) (Nat.le_of_ble_eq_true rfl) (WP.rt ?_)
      rintro _ _ S3 ⟨rfl, rfl, rfl⟩
      refine WP.topI (show (if (42 : Int32) ∈ ([c0, c1, c2, c3, c4, c5] : List Int32).take 2 ∨ (63 : Int32) ∈ ([c0, c1, c2, c3, c4, c5] : List Int32).take 2 then (1 : Int32) else 0) = (1 : Int32) from (if_pos (mem_wild (c := c0) (by simp) w0))) ?_
      refine Ru.iload d_law_174 rfl ?_
      refine Ru.icmpN d_law_176 (show (1 : Int32) = (1 : Int32) from rfl) ?_
      refine Ru.iconst (x := 1) d_law_179 rfl ?_
      refine Ru.goto d_law_180 ?_
      exact Ru.ireturnN (t := .boolean) (x' := (1 : Int32)) d_law_184 rfl (by simp) rfl [] (fun _ q => nomatch q) (Nat.le_of_ble_eq_true rfl) (Nat.le_of_ble_eq_true rfl) ⟨_, rfl, rfl⟩
    · refine WP.topI (show (if c0 = 42 ∨ c0 = 63 then (1 : Int32) else 0) = (0 : Int32) from (if_neg w0)) ?_
      refine Ru.ifN d_law_89 (show (0 : Int32) = (0 : Int32) from rfl) ?_
      refine Ru.iload d_law_92 rfl ?_
      refine Ru.iconst (x := 1) d_law_94 rfl ?_
      refine Ru.icmpN d_law_95 (show (1 : Int32) < (n32 2) from (by decide)) ?_
      refine Ru.iload d_law_98 rfl ?_
      refine Ru.callS0 (J := I_wild) (c_wild e) d_law_100 (e.w 36 rfl) (e.w 37 rfl) (e.w 4 rfl) (e.w 38 rfl) (by decide) np_wild rfl (argsL := [(.int c1)]) (rest := []) rfl rfl (fun _ q => nomatch q) (Nat.le_of_ble_eq_true rfl) (Nat.le_of_ble_eq_true rfl) (Nat.le_of_ble_eq_true rfl) (Nat.le_of_ble_eq_true rfl) (WP.rt ?_)
      rintro _ _ S2 ⟨rfl, rfl, rfl⟩
      by_cases w1 : c1 = 42 ∨ c1 = 63
      · refine WP.topI (show (if c1 = 42 ∨ c1 = 63 then (1 : Int32) else 0) = (1 : Int32) from (if_pos w1)) ?_
        refine Ru.ifY d_law_103 (show ¬ (1 : Int32) = (0 : Int32) from (by decide)) ?_
        refine Ru.iconst (x := 1) d_law_162 rfl ?_
        refine Ru.goto d_law_163 ?_
        refine Ru.istore d_law_167 (ls' := #[.val (.int p0), .val (.int p1), .val (.int p2), .val (.int p3), .val (.int (n32 2)), .val (.int c0), .val (.int c1), .val (.int c2), .val (.int c3), .val (.int c4), .val (.int c5), .val (.ref s), .val (.int (1 : Int32))]) rfl ?_
        refine Ru.aload d_law_169 rfl rfl ?_
        refine Ru.callS0 (J := I_ispat) (c_ispat e T) d_law_171 (e.w 39 rfl) (e.w 40 rfl) (e.w 41 rfl) (e.w 42 rfl) (by decide) np_ispat rfl (argsL := [(.ref s)]) (rest := []) rfl rfl (fun _ q => nomatch q) (Nat.le_of_ble_eq_true rfl) (Nat.le_of_ble_eq_true rfl) (Nat.le_of_ble_eq_true rfl) (Nat.le_of_ble_eq_true rfl) (WP.rt ?_)
        rintro _ _ S3 ⟨rfl, rfl, rfl⟩
        refine WP.topI (show (if (42 : Int32) ∈ ([c0, c1, c2, c3, c4, c5] : List Int32).take 2 ∨ (63 : Int32) ∈ ([c0, c1, c2, c3, c4, c5] : List Int32).take 2 then (1 : Int32) else 0) = (1 : Int32) from (if_pos (mem_wild (c := c1) (by simp) w1))) ?_
        refine Ru.iload d_law_174 rfl ?_
        refine Ru.icmpN d_law_176 (show (1 : Int32) = (1 : Int32) from rfl) ?_
        refine Ru.iconst (x := 1) d_law_179 rfl ?_
        refine Ru.goto d_law_180 ?_
        exact Ru.ireturnN (t := .boolean) (x' := (1 : Int32)) d_law_184 rfl (by simp) rfl [] (fun _ q => nomatch q) (Nat.le_of_ble_eq_true rfl) (Nat.le_of_ble_eq_true rfl) ⟨_, rfl, rfl⟩
      · refine WP.topI (show (if c1 = 42 ∨ c1 = 63 then (1 : Int32) else 0) = (0 : Int32) from (if_neg w1)) ?_
        refine Ru.ifN d_law_103 (show (0 : Int32) = (0 : Int32) from rfl) ?_
        refine Ru.iload d_law_106 rfl ?_
        refine Ru.iconst (x := 2) d_law_108 rfl ?_
        refine Ru.icmpY d_law_109 (show ¬ (2 : Int32) < (n32 2) from (by decide)) ?_
        refine Ru.iload d_law_120 rfl ?_
        refine Ru.iconst (x := 3) d_law_122 rfl ?_
        refine Ru.icmpY d_law_123 (show ¬ (3 : Int32) < (n32 2) from (by decide)) ?_
        refine Ru.iload d_law_134 rfl ?_
        refine Ru.iconst (x := 4) d_law_136 rfl ?_
        refine Ru.icmpY d_law_137 (show ¬ (4 : Int32) < (n32 2) from (by decide)) ?_
        refine Ru.iload d_law_148 rfl ?_
        refine Ru.iconst (x := 5) d_law_150 rfl ?_
        refine Ru.icmpY d_law_151 (show ¬ (5 : Int32) < (n32 2) from (by decide)) ?_
        refine Ru.iconst (x := 0) d_law_166 rfl ?_
        refine Ru.istore d_law_167 (ls' := #[.val (.int p0), .val (.int p1), .val (.int p2), .val (.int p3), .val (.int (n32 2)), .val (.int c0), .val (.int c1), .val (.int c2), .val (.int c3), .val (.int c4), .val (.int c5), .val (.ref s), .val (.int (0 : Int32))]) rfl ?_
        refine Ru.aload d_law_169 rfl rfl ?_
        refine Ru.callS0 (J := I_ispat) (c_ispat e T) d_law_171 (e.w 39 rfl) (e.w 40 rfl) (e.w 41 rfl) (e.w 42 rfl) (by decide) np_ispat rfl (argsL := [(.ref s)]) (rest := []) rfl rfl (fun _ q => nomatch q) (Nat.le_of_ble_eq_true rfl) (Nat.le_of_ble_eq_true rfl) (Nat.le_of_ble_eq_true rfl) (Nat.le_of_ble_eq_true rfl) (WP.rt ?_)
        rintro _ _ S3 ⟨rfl, rfl, rfl⟩
        refine WP.topI (show (if (42 : Int32) ∈ ([c0, c1, c2, c3, c4, c5] : List Int32).take 2 ∨ (63 : Int32) ∈ ([c0, c1, c2, c3, c4, c5] : List Int32).take 2 then (1 : Int32) else 0) = (0 : Int32) from (if_neg (no_wild (by simp [(not_or.mp w0).1, (not_or.mp w0).2, (not_or.mp w1).1, (not_or.mp w1).2])))) ?_
        refine Ru.iload d_law_174 rfl ?_
        refine Ru.icmpN d_law_176 (show (0 : Int32) = (0 : Int32) from rfl) ?_
        refine Ru.iconst (x := 1) d_law_179 rfl ?_
        refine Ru.goto d_law_180 ?_
        exact Ru.ireturnN (t := .boolean) (x' := (1 : Int32)) d_law_184 rfl (by simp) rfl [] (fun _ q => nomatch q) (Nat.le_of_ble_eq_true rfl) (Nat.le_of_ble_eq_true rfl) ⟨_, rfl, rfl⟩
  · refine Ru.iload d_law_79 rfl ?_
    refine Ru.ifN d_law_81 (show (0 : Int32) < (n32 3) from (by decide)) ?_
    refine Ru.iload d_law_84 rfl ?_
    refine Ru.callS0 (J := I_wild) (c_wild e) d_law_86 (e.w 36 rfl) (e.w 37 rfl) (e.w 4 rfl) (e.w 38 rfl) (by decide) np_wild rfl (argsL := [(.int c0)]) (rest := []) rfl rfl (fun _ q => nomatch q) (Nat.le_of_ble_eq_true rfl) (Nat.le_of_ble_eq_true rfl) (Nat.le_of_ble_eq_true rfl) (Nat.le_of_ble_eq_true rfl) (WP.rt ?_)
    rintro _ _ S2 ⟨rfl, rfl, rfl⟩
    by_cases w0 : c0 = 42 ∨ c0 = 63
    · refine WP.topI (show (if c0 = 42 ∨ c0 = 63 then (1 : Int32) else 0) = (1 : Int32) from (if_pos w0)) ?_
      refine Ru.ifY d_law_89 (show ¬ (1 : Int32) = (0 : Int32) from (by decide)) ?_
      refine Ru.iconst (x := 1) d_law_162 rfl ?_
      refine Ru.goto d_law_163 ?_
      refine Ru.istore d_law_167 (ls' := #[.val (.int p0), .val (.int p1), .val (.int p2), .val (.int p3), .val (.int (n32 3)), .val (.int c0), .val (.int c1), .val (.int c2), .val (.int c3), .val (.int c4), .val (.int c5), .val (.ref s), .val (.int (1 : Int32))]) rfl ?_
      refine Ru.aload d_law_169 rfl rfl ?_
      refine Ru.callS0 (J := I_ispat) (c_ispat e T) d_law_171 (e.w 39 rfl) (e.w 40 rfl) (e.w 41 rfl) (e.w 42 rfl) (by decide) np_ispat rfl (argsL := [(.ref s)]) (rest := []) rfl rfl (fun _ q => nomatch q) (Nat.le_of_ble_eq_true rfl) (Nat.le_of_ble_eq_true rfl) (Nat.le_of_ble_eq_true rfl) (Nat.le_of_ble_eq_true rfl) (WP.rt ?_)
      rintro _ _ S3 ⟨rfl, rfl, rfl⟩
      refine WP.topI (show (if (42 : Int32) ∈ ([c0, c1, c2, c3, c4, c5] : List Int32).take 3 ∨ (63 : Int32) ∈ ([c0, c1, c2, c3, c4, c5] : List Int32).take 3 then (1 : Int32) else 0) = (1 : Int32) from (if_pos (mem_wild (c := c0) (by simp) w0))) ?_
      refine Ru.iload d_law_174 rfl ?_
      refine Ru.icmpN d_law_176 (show (1 : Int32) = (1 : Int32) from rfl) ?_
      refine Ru.iconst (x := 1) d_law_179 rfl ?_
      refine Ru.goto d_law_180 ?_
      exact Ru.ireturnN (t := .boolean) (x' := (1 : Int32)) d_law_184 rfl (by simp) rfl [] (fun _ q => nomatch q) (Nat.le_of_ble_eq_true rfl) (Nat.le_of_ble_eq_true rfl) ⟨_, rfl, rfl⟩
    · refine WP.topI (show (if c0 = 42 ∨ c0 = 63 then (1 : Int32) else 0) = (0 : Int32) from (if_neg w0)) ?_
      refine Ru.ifN d_law_89 (show (0 : Int32) = (0 : Int32) from rfl) ?_
      refine Ru.iload d_law_92 rfl ?_
      refine Ru.iconst (x := 1) d_law_94 rfl ?_
      refine Ru.icmpN d_law_95 (show (1 : Int32) < (n32 3) from (by decide)) ?_
      refine Ru.iload d_law_98 rfl ?_
      refine Ru.callS0 (J := I_wild) (c_wild e) d_law_100 (e.w 36 rfl) (e.w 37 rfl) (e.w 4 rfl) (e.w 38 rfl) (by decide) np_wild rfl (argsL := [(.int c1)]) (rest := []) rfl rfl (fun _ q => nomatch q) (Nat.le_of_ble_eq_true rfl) (Nat.le_of_ble_eq_true rfl) (Nat.le_of_ble_eq_true rfl) (Nat.le_of_ble_eq_true rfl) (WP.rt ?_)
      rintro _ _ S2 ⟨rfl, rfl, rfl⟩
      by_cases w1 : c1 = 42 ∨ c1 = 63
      · refine WP.topI (show (if c1 = 42 ∨ c1 = 63 then (1 : Int32) else 0) = (1 : Int32) from (if_pos w1)) ?_
        refine Ru.ifY d_law_103 (show ¬ (1 : Int32) = (0 : Int32) from (by decide)) ?_
        refine Ru.iconst (x := 1) d_law_162 rfl ?_
        refine Ru.goto d_law_163 ?_
        refine Ru.istore d_law_167 (ls' := #[.val (.int p0), .val (.int p1), .val (.int p2), .val (.int p3), .val (.int (n32 3)), .val (.int c0), .val (.int c1), .val (.int c2), .val (.int c3), .val (.int c4), .val (.int c5), .val (.ref s), .val (.int (1 : Int32))]) rfl ?_
        refine Ru.aload d_law_169 rfl rfl ?_
        refine Ru.callS0 (J := I_ispat) (c_ispat e T) d_law_171 (e.w 39 rfl) (e.w 40 rfl) (e.w 41 rfl) (e.w 42 rfl) (by decide) np_ispat rfl (argsL := [(.ref s)]) (rest := []) rfl rfl (fun _ q => nomatch q) (Nat.le_of_ble_eq_true rfl) (Nat.le_of_ble_eq_true rfl) (Nat.le_of_ble_eq_true rfl) (Nat.le_of_ble_eq_true rfl) (WP.rt ?_)
        rintro _ _ S3 ⟨rfl, rfl, rfl⟩
        refine WP.topI (show (if (42 : Int32) ∈ ([c0, c1, c2, c3, c4, c5] : List Int32).take 3 ∨ (63 : Int32) ∈ ([c0, c1, c2, c3, c4, c5] : List Int32).take 3 then (1 : Int32) else 0) = (1 : Int32) from (if_pos (mem_wild (c := c1) (by simp) w1))) ?_
        refine Ru.iload d_law_174 rfl ?_
        refine Ru.icmpN d_law_176 (show (1 : Int32) = (1 : Int32) from rfl) ?_
        refine Ru.iconst (x := 1) d_law_179 rfl ?_
        refine Ru.goto d_law_180 ?_
        exact Ru.ireturnN (t := .boolean) (x' := (1 : Int32)) d_law_184 rfl (by simp) rfl [] (fun _ q => nomatch q) (Nat.le_of_ble_eq_true rfl) (Nat.le_of_ble_eq_true rfl) ⟨_, rfl, rfl⟩
      · refine WP.topI (show (if c1 = 42 ∨ c1 = 63 then (1 : Int32) else 0) = (0 : Int32) from (if_neg w1)) ?_
        refine Ru.ifN d_law_103 (show (0 : Int32) = (0 : Int32) from rfl) ?_
        refine Ru.iload d_law_106 rfl ?_
        refine Ru.iconst (x := 2) d_law_108 rfl ?_
        refine Ru.icmpN d_law_109 (show (2 : Int32) < (n32 3) from (by decide)) ?_
        refine Ru.iload d_law_112 rfl ?_
        refine Ru.callS0 (J := I_wild) (c_wild e) d_law_114 (e.w 36 rfl) (e.w 37 rfl) (e.w 4 rfl) (e.w 38 rfl) (by decide) np_wild rfl (argsL := [(.int c2)]) (rest := []) rfl rfl (fun _ q => nomatch q) (Nat.le_of_ble_eq_true rfl) (Nat.le_of_ble_eq_true rfl) (Nat.le_of_ble_eq_true rfl) (Nat.le_of_ble_eq_true rfl) (WP.rt ?_)
        rintro _ _ S2 ⟨rfl, rfl, rfl⟩
        by_cases w2 : c2 = 42 ∨ c2 = 63
        · refine WP.topI (show (if c2 = 42 ∨ c2 = 63 then (1 : Int32) else 0) = (1 : Int32) from (if_pos w2)) ?_
          refine Ru.ifY d_law_117 (show ¬ (1 : Int32) = (0 : Int32) from (by decide)) ?_
          refine Ru.iconst (x := 1) d_law_162 rfl ?_
          refine Ru.goto d_law_163 ?_
          refine Ru.istore d_law_167 (ls' := #[.val (.int p0), .val (.int p1), .val (.int p2), .val (.int p3), .val (.int (n32 3)), .val (.int c0), .val (.int c1), .val (.int c2), .val (.int c3), .val (.int c4), .val (.int c5), .val (.ref s), .val (.int (1 : Int32))]) rfl ?_
          refine Ru.aload d_law_169 rfl rfl ?_
          refine Ru.callS0 (J := I_ispat) (c_ispat e T) d_law_171 (e.w 39 rfl) (e.w 40 rfl) (e.w 41 rfl) (e.w 42 rfl) (by decide) np_ispat rfl (argsL := [(.ref s)]) (rest := []) rfl rfl (fun _ q => nomatch q) (Nat.le_of_ble_eq_true rfl) (Nat.le_of_ble_eq_true rfl) (Nat.le_of_ble_eq_true rfl) (Nat.le_of_ble_eq_true rfl) (WP.rt ?_)
          rintro _ _ S3 ⟨rfl, rfl, rfl⟩
          refine WP.topI (show (if (42 : Int32) ∈ ([c0, c1, c2, c3, c4, c5] : List Int32).take 3 ∨ (63 : Int32) ∈ ([c0, c1, c2, c3, c4, c5] : List Int32).take 3 then (1 : Int32) else 0) = (1 : Int32) from (if_pos (mem_wild (c := c2) (by simp) w2))) ?_
          refine Ru.iload d_law_174 rfl ?_
          refine Ru.icmpN d_law_176 (show (1 : Int32) = (1 : Int32) from rfl) ?_
          refine Ru.iconst (x := 1) d_law_179 rfl ?_
          refine Ru.goto d_law_180 ?_
          exact Ru.ireturnN (t := .boolean) (x' := (1 : Int32)) d_law_184 rfl (by simp) rfl [] (fun _ q => nomatch q) (Nat.le_of_ble_eq_true rfl) (Nat.le_of_ble_eq_true rfl) ⟨_, rfl, rfl⟩
        · refine WP.topI (show (if c2 = 42 ∨ c2 = 63 then (1 : Int32) else 0) = (0 : Int32) from (if_neg w2)) ?_
          refine Ru.ifN d_law_117 (show (0 : Int32) = (0 : Int32) from rfl) ?_
          refine Ru.iload d_law_120 rfl ?_
          refine Ru.iconst (x := 3) d_law_122 rfl ?_
          refine Ru.icmpY d_law_123 (show ¬ (3 : Int32) < (n32 3) from (by decide)) ?_
          refine Ru.iload d_law_134 rfl ?_
          refine Ru.iconst (x := 4) d_law_136 rfl ?_
          refine Ru.icmpY d_law_137 (show ¬ (4 : Int32) < (n32 3) from (by decide)) ?_
          refine Ru.iload d_law_148 rfl ?_
          refine Ru.iconst (x := 5) d_law_150 rfl ?_
          refine Ru.icmpY d_law_151 (show ¬ (5 : Int32) < (n32 3) from (by decide)) ?_
          refine Ru.iconst (x := 0) d_law_166 rfl ?_
          refine Ru.istore d_law_167 (ls' := #[.val (.int p0), .val (.int p1), .val (.int p2), .val (.int p3), .val (.int (n32 3)), .val (.int c0), .val (.int c1), .val (.int c2), .val (.int c3), .val (.int c4), .val (.int c5), .val (.ref s), .val (.int (0 : Int32))]) rfl ?_
          refine Ru.aload d_law_169 rfl rfl ?_
          refine Ru.callS0 (J := I_ispat) (c_ispat e T) d_law_171 (e.w 39 rfl) (e.w 40 rfl) (e.w 41 rfl) (e.w 42 rfl) (by decide) np_ispat rfl (argsL := [(.ref s)]) (rest := []) rfl rfl (fun _ q => nomatch q) (Nat.le_of_ble_eq_true rfl) (Nat.le_of_ble_eq_true rfl) (Nat.le_of_ble_eq_true rfl) (Nat.le_of_ble_eq_true rfl) (WP.rt ?_)
          rintro _ _ S3 ⟨rfl, rfl, rfl⟩
          refine WP.topI (show (if (42 : Int32) ∈ ([c0, c1, c2, c3, c4, c5] : List Int32).take 3 ∨ (63 : Int32) ∈ ([c0, c1, c2, c3, c4, c5] : List Int32).take 3 then (1 : Int32) else 0) = (0 : Int32) from (if_neg (no_wild (by simp [(not_or.mp w0).1, (not_or.mp w0).2, (not_or.mp w1).1, (not_or.mp w1).2, (not_or.mp w2).1, (not_or.mp w2).2])))) ?_
          refine Ru.iload d_law_174 rfl ?_
          refine Ru.icmpN d_law_176 (show (0 : Int32) = (0 : Int32) from rfl) ?_
          refine Ru.iconst (x := 1) d_law_179 rfl ?_
          refine Ru.goto d_law_180 ?_
          exact Ru.ireturnN (t := .boolean) (x' := (1 : Int32)) d_law_184 rfl (by simp) rfl [] (fun _ q => nomatch q) (Nat.le_of_ble_eq_true rfl) (Nat.le_of_ble_eq_true rfl) ⟨_, rfl, rfl⟩
  · refine Ru.iload d_law_79 rfl ?_
    refine Ru.ifN d_law_81 (show (0 : Int32) < (n32 4) from (by decide)) ?_
    refine Ru.iload d_law_84 rfl ?_
    refine Ru.callS0 (J := I_wild) (c_wild e) d_law_86 (e.w 36 rfl) (e.w 37 rfl) (e.w 4 rfl) (e.w 38 rfl) (by decide) np_wild rfl (argsL := [(.int c0)]) (rest := []) rfl rfl (fun _ q => nomatch q) (Nat.le_of_ble_eq_true rfl) (Nat.le_of_ble_eq_true rfl) (Nat.le_of_ble_eq_true rfl) (Nat.le_of_ble_eq_true rfl) (WP.rt ?_)
    rintro _ _ S2 ⟨rfl, rfl, rfl⟩
    by_cases w0 : c0 = 42 ∨ c0 = 63
    · refine WP.topI (show (if c0 = 42 ∨ c0 = 63 then (1 : Int32) else 0) = (1 : Int32) from (if_pos w0)) ?_
      refine Ru.ifY d_law_89 (show ¬ (1 : Int32) = (0 : Int32) from (by decide)) ?_
      refine Ru.iconst (x := 1) d_law_162 rfl ?_
      refine Ru.goto d_law_163 ?_
      refine Ru.istore d_law_167 (ls' := #[.val (.int p0), .val (.int p1), .val (.int p2), .val (.int p3), .val (.int (n32 4)), .val (.int c0), .val (.int c1), .val (.int c2), .val (.int c3), .val (.int c4), .val (.int c5), .val (.ref s), .val (.int (1 : Int32))]) rfl ?_
      refine Ru.aload d_law_169 rfl rfl ?_
      refine Ru.callS0 (J := I_ispat) (c_ispat e T) d_law_171 (e.w 39 rfl) (e.w 40 rfl) (e.w 41 rfl) (e.w 42 rfl) (by decide) np_ispat rfl (argsL := [(.ref s)]) (rest := []) rfl rfl (fun _ q => nomatch q) (Nat.le_of_ble_eq_true rfl) (Nat.le_of_ble_eq_true rfl) (Nat.le_of_ble_eq_true rfl) (Nat.le_of_ble_eq_true rfl) (WP.rt ?_)
      rintro _ _ S3 ⟨rfl, rfl, rfl⟩
      refine WP.topI (show (if (42 : Int32) ∈ ([c0, c1, c2, c3, c4, c5] : List Int32).take 4 ∨ (63 : Int32) ∈ ([c0, c1, c2, c3, c4, c5] : List Int32).take 4 then (1 : Int32) else 0) = (1 : Int32) from (if_pos (mem_wild (c := c0) (by simp) w0))) ?_
      refine Ru.iload d_law_174 rfl ?_
      refine Ru.icmpN d_law_176 (show (1 : Int32) = (1 : Int32) from rfl) ?_
      refine Ru.iconst (x := 1) d_law_179 rfl ?_
      refine Ru.goto d_law_180 ?_
      exact Ru.ireturnN (t := .boolean) (x' := (1 : Int32)) d_law_184 rfl (by simp) rfl [] (fun _ q => nomatch q) (Nat.le_of_ble_eq_true rfl) (Nat.le_of_ble_eq_true rfl) ⟨_, rfl, rfl⟩
    · refine WP.topI (show (if c0 = 42 ∨ c0 = 63 then (1 : Int32) else 0) = (0 : Int32) from (if_neg w0)) ?_
      refine Ru.ifN d_law_89 (show (0 : Int32) = (0 : Int32) from rfl) ?_
      refine Ru.iload d_law_92 rfl ?_
      refine Ru.iconst (x := 1) d_law_94 rfl ?_
      refine Ru.icmpN d_law_95 (show (1 : Int32) < (n32 4) from (by decide)) ?_
      refine Ru.iload d_law_98 rfl ?_
      refine Ru.callS0 (J := I_wild) (c_wild e) d_law_100 (e.w 36 rfl) (e.w 37 rfl) (e.w 4 rfl) (e.w 38 rfl) (by decide) np_wild rfl (argsL := [(.int c1)]) (rest := []) rfl rfl (fun _ q => nomatch q) (Nat.le_of_ble_eq_true rfl) (Nat.le_of_ble_eq_true rfl) (Nat.le_of_ble_eq_true rfl) (Nat.le_of_ble_eq_true rfl) (WP.rt ?_)
      rintro _ _ S2 ⟨rfl, rfl, rfl⟩
      by_cases w1 : c1 = 42 ∨ c1 = 63
      · refine WP.topI (show (if c1 = 42 ∨ c1 = 63 then (1 : Int32) else 0) = (1 : Int32) from (if_pos w1)) ?_
        refine Ru.ifY d_law_103 (show ¬ (1 : Int32) = (0 : Int32) from (by decide)) ?_
        refine Ru.iconst (x := 1) d_law_162 rfl ?_
        refine Ru.goto d_law_163 ?_
        refine Ru.istore d_law_167 (ls' := #[.val (.int p0), .val (.int p1), .val (.int p2), .val (.int p3), .val (.int (n32 4)), .val (.int c0), .val (.int c1), .val (.int c2), .val (.int c3), .val (.int c4), .val (.int c5), .val (.ref s), .val (.int (1 : Int32))]) rfl ?_
        refine Ru.aload d_law_169 rfl rfl ?_
        refine Ru.callS0 (J := I_ispat) (c_ispat e T) d_law_171 (e.w 39 rfl) (e.w 40 rfl) (e.w 41 rfl) (e.w 42 rfl) (by decide) np_ispat rfl (argsL := [(.ref s)]) (rest := []) rfl rfl (fun _ q => nomatch q) (Nat.le_of_ble_eq_true rfl) (Nat.le_of_ble_eq_true rfl) (Nat.le_of_ble_eq_true rfl) (Nat.le_of_ble_eq_true rfl) (WP.rt ?_)
        rintro _ _ S3 ⟨rfl, rfl, rfl⟩
        refine WP.topI (show (if (42 : Int32) ∈ ([c0, c1, c2, c3, c4, c5] : List Int32).take 4 ∨ (63 : Int32) ∈ ([c0, c1, c2, c3, c4, c5] : List Int32).take 4 then (1 : Int32) else 0) = (1 : Int32) from (if_pos (mem_wild (c := c1) (by simp) w1))) ?_
        refine Ru.iload d_law_174 rfl ?_
        refine Ru.icmpN d_law_176 (show (1 : Int32) = (1 : Int32) from rfl) ?_
        refine Ru.iconst (x := 1) d_law_179 rfl ?_
        refine Ru.goto d_law_180 ?_
        exact Ru.ireturnN (t := .boolean) (x' := (1 : Int32)) d_law_184 rfl (by simp) rfl [] (fun _ q => nomatch q) (Nat.le_of_ble_eq_true rfl) (Nat.le_of_ble_eq_true rfl) ⟨_, rfl, rfl⟩
      · refine WP.topI (show (if c1 = 42 ∨ c1 = 63 then (1 : Int32) else 0) = (0 : Int32) from (if_neg w1)) ?_
        refine Ru.ifN d_law_103 (show (0 : Int32) = (0 : Int32) from rfl) ?_
        refine Ru.iload d_law_106 rfl ?_
        refine Ru.iconst (x := 2) d_law_108 rfl ?_
        refine Ru.icmpN d_law_109 (show (2 : Int32) < (n32 4) from (by decide)) ?_
        refine Ru.iload d_law_112 rfl ?_
        refine Ru.callS0 (J := I_wild) (c_wild e) d_law_114 (e.w 36 rfl) (e.w 37 rfl) (e.w 4 rfl) (e.w 38 rfl) (by decide) np_wild rfl (argsL := [(.int c2)]) (rest := []) rfl rfl (fun _ q => nomatch q) (Nat.le_of_ble_eq_true rfl) (Nat.le_of_ble_eq_true rfl) (Nat.le_of_ble_eq_true rfl) (Nat.le_of_ble_eq_true rfl) (WP.rt ?_)
        rintro _ _ S2 ⟨rfl, rfl, rfl⟩
        by_cases w2 : c2 = 42 ∨ c2 = 63
        · refine WP.topI (show (if c2 = 42 ∨ c2 = 63 then (1 : Int32) else 0) = (1 : Int32) from (if_pos w2)) ?_
          refine Ru.ifY d_law_117 (show ¬ (1 : Int32) = (0 : Int32) from (by decide)) ?_
          refine Ru.iconst (x := 1) d_law_162 rfl ?_
          refine Ru.goto d_law_163 ?_
          refine Ru.istore d_law_167 (ls' := #[.val (.int p0), .val (.int p1), .val (.int p2), .val (.int p3), .val (.int (n32 4)), .val (.int c0), .val (.int c1), .val (.int c2), .val (.int c3), .val (.int c4), .val (.int c5), .val (.ref s), .val (.int (1 : Int32))]) rfl ?_
          refine Ru.aload d_law_169 rfl rfl ?_
          refine Ru.callS0 (J := I_ispat) (c_ispat e T) d_law_171 (e.w 39 rfl) (e.w 40 rfl) (e.w 41 rfl) (e.w 42 rfl) (by decide) np_ispat rfl (argsL := [(.ref s)]) (rest := []) rfl rfl (fun _ q => nomatch q) (Nat.le_of_ble_eq_true rfl) (Nat.le_of_ble_eq_true rfl) (Nat.le_of_ble_eq_true rfl) (Nat.le_of_ble_eq_true rfl) (WP.rt ?_)
          rintro _ _ S3 ⟨rfl, rfl, rfl⟩
          refine WP.topI (show (if (42 : Int32) ∈ ([c0, c1, c2, c3, c4, c5] : List Int32).take 4 ∨ (63 : Int32) ∈ ([c0, c1, c2, c3, c4, c5] : List Int32).take 4 then (1 : Int32) else 0) = (1 : Int32) from (if_pos (mem_wild (c := c2) (by simp) w2))) ?_
          refine Ru.iload d_law_174 rfl ?_
          refine Ru.icmpN d_law_176 (show (1 : Int32) = (1 : Int32) from rfl) ?_
          refine Ru.iconst (x := 1) d_law_179 rfl ?_
          refine Ru.goto d_law_180 ?_
          exact Ru.ireturnN (t := .boolean) (x' := (1 : Int32)) d_law_184 rfl (by simp) rfl [] (fun _ q => nomatch q) (Nat.le_of_ble_eq_true rfl) (Nat.le_of_ble_eq_true rfl) ⟨_, rfl, rfl⟩
        · refine WP.topI (show (if c2 = 42 ∨ c2 = 63 then (1 : Int32) else 0) = (0 : Int32) from (if_neg w2)) ?_
          refine Ru.ifN d_law_117 (show (0 : Int32) = (0 : Int32) from rfl) ?_
          refine Ru.iload d_law_120 rfl ?_
          refine Ru.iconst (x := 3) d_law_122 rfl ?_
          refine Ru.icmpN d_law_123 (show (3 : Int32) < (n32 4) from (by decide)) ?_
          refine Ru.iload d_law_126 rfl ?_
          refine Ru.callS0 (J := I_wild) (c_wild e) d_law_128 (e.w 36 rfl) (e.w 37 rfl) (e.w 4 rfl) (e.w 38 rfl) (by decide) np_wild rfl (argsL := [(.int c3)]) (rest := []) rfl rfl (fun _ q => nomatch q) (Nat.le_of_ble_eq_true rfl) (Nat.le_of_ble_eq_true rfl) (Nat.le_of_ble_eq_true rfl) (Nat.le_of_ble_eq_true rfl) (WP.rt ?_)
          rintro _ _ S2 ⟨rfl, rfl, rfl⟩
          by_cases w3 : c3 = 42 ∨ c3 = 63
          · refine WP.topI (show (if c3 = 42 ∨ c3 = 63 then (1 : Int32) else 0) = (1 : Int32) from (if_pos w3)) ?_
            refine Ru.ifY d_law_131 (show ¬ (1 : Int32) = (0 : Int32) from (by decide)) ?_
            refine Ru.iconst (x := 1) d_law_162 rfl ?_
            refine Ru.goto d_law_163 ?_
            refine Ru.istore d_law_167 (ls' := #[.val (.int p0), .val (.int p1), .val (.int p2), .val (.int p3), .val (.int (n32 4)), .val (.int c0), .val (.int c1), .val (.int c2), .val (.int c3), .val (.int c4), .val (.int c5), .val (.ref s), .val (.int (1 : Int32))]) rfl ?_
            refine Ru.aload d_law_169 rfl rfl ?_
            refine Ru.callS0 (J := I_ispat) (c_ispat e T) d_law_171 (e.w 39 rfl) (e.w 40 rfl) (e.w 41 rfl) (e.w 42 rfl) (by decide) np_ispat rfl (argsL := [(.ref s)]) (rest := []) rfl rfl (fun _ q => nomatch q) (Nat.le_of_ble_eq_true rfl) (Nat.le_of_ble_eq_true rfl) (Nat.le_of_ble_eq_true rfl) (Nat.le_of_ble_eq_true rfl) (WP.rt ?_)
            rintro _ _ S3 ⟨rfl, rfl, rfl⟩
            refine WP.topI (show (if (42 : Int32) ∈ ([c0, c1, c2, c3, c4, c5] : List Int32).take 4 ∨ (63 : Int32) ∈ ([c0, c1, c2, c3, c4, c5] : List Int32).take 4 then (1 : Int32) else 0) = (1 : Int32) from (if_pos (mem_wild (c := c3) (by simp) w3))) ?_
            refine Ru.iload d_law_174 rfl ?_
            refine Ru.icmpN d_law_176 (show (1 : Int32) = (1 : Int32) from rfl) ?_
            refine Ru.iconst (x := 1) d_law_179 rfl ?_
            refine Ru.goto d_law_180 ?_
            exact Ru.ireturnN (t := .boolean) (x' := (1 : Int32)) d_law_184 rfl (by simp) rfl [] (fun _ q => nomatch q) (Nat.le_of_ble_eq_true rfl) (Nat.le_of_ble_eq_true rfl) ⟨_, rfl, rfl⟩
          · refine WP.topI (show (if c3 = 42 ∨ c3 = 63 then (1 : Int32) else 0) = (0 : Int32) from (if_neg w3)) ?_
            refine Ru.ifN d_law_131 (show (0 : Int32) = (0 : Int32) from rfl) ?_
            refine Ru.iload d_law_134 rfl ?_
            refine Ru.iconst (x := 4) d_law_136 rfl ?_
            refine Ru.icmpY d_law_137 (show ¬ (4 : Int32) < (n32 4) from (by decide)) ?_
            refine Ru.iload d_law_148 rfl ?_
            refine Ru.iconst (x := 5) d_law_150 rfl ?_
            refine Ru.icmpY d_law_151 (show ¬ (5 : Int32) < (n32 4) from (by decide)) ?_
            refine Ru.iconst (x := 0) d_law_166 rfl ?_
            refine Ru.istore d_law_167 (ls' := #[.val (.int p0), .val (.int p1), .val (.int p2), .val (.int p3), .val (.int (n32 4)), .val (.int c0), .val (.int c1), .val (.int c2), .val (.int c3), .val (.int c4), .val (.int c5), .val (.ref s), .val (.int (0 : Int32))]) rfl ?_
            refine Ru.aload d_law_169 rfl rfl ?_
            refine Ru.callS0 (J := I_ispat) (c_ispat e T) d_law_171 (e.w 39 rfl) (e.w 40 rfl) (e.w 41 rfl) (e.w 42 rfl) (by decide) np_ispat rfl (argsL := [(.ref s)]) (rest := []) rfl rfl (fun _ q => nomatch q) (Nat.le_of_ble_eq_true rfl) (Nat.le_of_ble_eq_true rfl) (Nat.le_of_ble_eq_true rfl) (Nat.le_of_ble_eq_true rfl) (WP.rt ?_)
            rintro _ _ S3 ⟨rfl, rfl, rfl⟩
            refine WP.topI (show (if (42 : Int32) ∈ ([c0, c1, c2, c3, c4, c5] : List Int32).take 4 ∨ (63 : Int32) ∈ ([c0, c1, c2, c3, c4, c5] : List Int32).take 4 then (1 : Int32) else 0) = (0 : Int32) from (if_neg (no_wild (by simp [(not_or.mp w0).1, (not_or.mp w0).2, (not_or.mp w1).1, (not_or.mp w1).2, (not_or.mp w2).1, (not_or.mp w2).2, (not_or.mp w3).1, (not_or.mp w3).2])))) ?_
            refine Ru.iload d_law_174 rfl ?_
            refine Ru.icmpN d_law_176 (show (0 : Int32) = (0 : Int32) from rfl) ?_
            refine Ru.iconst (x := 1) d_law_179 rfl ?_
            refine Ru.goto d_law_180 ?_
            exact Ru.ireturnN (t := .boolean) (x' := (1 : Int32)) d_law_184 rfl (by simp) rfl [] (fun _ q => nomatch q) (Nat.le_of_ble_eq_true rfl) (Nat.le_of_ble_eq_true rfl) ⟨_, rfl, rfl⟩
  · refine Ru.iload d_law_79 rfl ?_
    refine Ru.ifN d_law_81 (show (0 : Int32) < (n32 5) from (by decide)) ?_
    refine Ru.iload d_law_84 rfl ?_
    refine Ru.callS0 (J := I_wild) (c_wild e) d_law_86 (e.w 36 rfl) (e.w 37 rfl) (e.w 4 rfl) (e.w 38 rfl) (by decide) np_wild rfl (argsL := [(.int c0)]) (rest := []) rfl rfl (fun _ q => nomatch q) (Nat.le_of_ble_eq_true rfl) (Nat.le_of_ble_eq_true rfl) (Nat.le_of_ble_eq_true rfl) (Nat.le_of_ble_eq_true rfl) (WP.rt ?_)
    rintro _ _ S2 ⟨rfl, rfl, rfl⟩
    by_cases w0 : c0 = 42 ∨ c0 = 63
    · refine WP.topI (show (if c0 = 42 ∨ c0 = 63 then (1 : Int32) else 0) = (1 : Int32) from (if_pos w0)) ?_
      refine Ru.ifY d_law_89 (show ¬ (1 : Int32) = (0 : Int32) from (by decide)) ?_
      refine Ru.iconst (x := 1) d_law_162 rfl ?_
      refine Ru.goto d_law_163 ?_
      refine Ru.istore d_law_167 (ls' := #[.val (.int p0), .val (.int p1), .val (.int p2), .val (.int p3), .val (.int (n32 5)), .val (.int c0), .val (.int c1), .val (.int c2), .val (.int c3), .val (.int c4), .val (.int c5), .val (.ref s), .val (.int (1 : Int32))]) rfl ?_
      refine Ru.aload d_law_169 rfl rfl ?_
      refine Ru.callS0 (J := I_ispat) (c_ispat e T) d_law_171 (e.w 39 rfl) (e.w 40 rfl) (e.w 41 rfl) (e.w 42 rfl) (by decide) np_ispat rfl (argsL := [(.ref s)]) (rest := []) rfl rfl (fun _ q => nomatch q) (Nat.le_of_ble_eq_true rfl) (Nat.le_of_ble_eq_true rfl) (Nat.le_of_ble_eq_true rfl) (Nat.le_of_ble_eq_true rfl) (WP.rt ?_)
      rintro _ _ S3 ⟨rfl, rfl, rfl⟩
      refine WP.topI (show (if (42 : Int32) ∈ ([c0, c1, c2, c3, c4, c5] : List Int32).take 5 ∨ (63 : Int32) ∈ ([c0, c1, c2, c3, c4, c5] : List Int32).take 5 then (1 : Int32) else 0) = (1 : Int32) from (if_pos (mem_wild (c := c0) (by simp) w0))) ?_
      refine Ru.iload d_law_174 rfl ?_
      refine Ru.icmpN d_law_176 (show (1 : Int32) = (1 : Int32) from rfl) ?_
      refine Ru.iconst (x := 1) d_law_179 rfl ?_
      refine Ru.goto d_law_180 ?_
      exact Ru.ireturnN (t := .boolean) (x' := (1 : Int32)) d_law_184 rfl (by simp) rfl [] (fun _ q => nomatch q) (Nat.le_of_ble_eq_true rfl) (Nat.le_of_ble_eq_true rfl) ⟨_, rfl, rfl⟩
    · refine WP.topI (show (if c0 = 42 ∨ c0 = 63 then (1 : Int32) else 0) = (0 : Int32) from (if_neg w0)) ?_
      refine Ru.ifN d_law_89 (show (0 : Int32) = (0 : Int32) from rfl) ?_
      refine Ru.iload d_law_92 rfl ?_
      refine Ru.iconst (x := 1) d_law_94 rfl ?_
      refine Ru.icmpN d_law_95 (show (1 : Int32) < (n32 5) from (by decide)) ?_
      refine Ru.iload d_law_98 rfl ?_
      refine Ru.callS0 (J := I_wild) (c_wild e) d_law_100 (e.w 36 rfl) (e.w 37 rfl) (e.w 4 rfl) (e.w 38 rfl) (by decide) np_wild rfl (argsL := [(.int c1)]) (rest := []) rfl rfl (fun _ q => nomatch q) (Nat.le_of_ble_eq_true rfl) (Nat.le_of_ble_eq_true rfl) (Nat.le_of_ble_eq_true rfl) (Nat.le_of_ble_eq_true rfl) (WP.rt ?_)
      rintro _ _ S2 ⟨rfl, rfl, rfl⟩
      by_cases w1 : c1 = 42 ∨ c1 = 63
      · refine WP.topI (show (if c1 = 42 ∨ c1 = 63 then (1 : Int32) else 0) = (1 : Int32) from (if_pos w1)) ?_
        refine Ru.ifY d_law_103 (show ¬ (1 : Int32) = (0 : Int32) from (by decide)) ?_
        refine Ru.iconst (x := 1) d_law_162 rfl ?_
        refine Ru.goto d_law_163 ?_
        refine Ru.istore d_law_167 (ls' := #[.val (.int p0), .val (.int p1), .val (.int p2), .val (.int p3), .val (.int (n32 5)), .val (.int c0), .val (.int c1), .val (.int c2), .val (.int c3), .val (.int c4), .val (.int c5), .val (.ref s), .val (.int (1 : Int32))]) rfl ?_
        refine Ru.aload d_law_169 rfl rfl ?_
        refine Ru.callS0 (J := I_ispat) (c_ispat e T) d_law_171 (e.w 39 rfl) (e.w 40 rfl) (e.w 41 rfl) (e.w 42 rfl) (by decide) np_ispat rfl (argsL := [(.ref s)]) (rest := []) rfl rfl (fun _ q => nomatch q) (Nat.le_of_ble_eq_true rfl) (Nat.le_of_ble_eq_true rfl) (Nat.le_of_ble_eq_true rfl) (Nat.le_of_ble_eq_true rfl) (WP.rt ?_)
        rintro _ _ S3 ⟨rfl, rfl, rfl⟩
        refine WP.topI (show (if (42 : Int32) ∈ ([c0, c1, c2, c3, c4, c5] : List Int32).take 5 ∨ (63 : Int32) ∈ ([c0, c1, c2, c3, c4, c5] : List Int32).take 5 then (1 : Int32) else 0) = (1 : Int32) from (if_pos (mem_wild (c := c1) (by simp) w1))) ?_
        refine Ru.iload d_law_174 rfl ?_
        refine Ru.icmpN d_law_176 (show (1 : Int32) = (1 : Int32) from rfl) ?_
        refine Ru.iconst (x := 1) d_law_179 rfl ?_
        refine Ru.goto d_law_180 ?_
        exact Ru.ireturnN (t := .boolean) (x' := (1 : Int32)) d_law_184 rfl (by simp) rfl [] (fun _ q => nomatch q) (Nat.le_of_ble_eq_true rfl) (Nat.le_of_ble_eq_true rfl) ⟨_, rfl, rfl⟩
      · refine WP.topI (show (if c1 = 42 ∨ c1 = 63 then (1 : Int32) else 0) = (0 : Int32) from (if_neg w1)) ?_
        refine Ru.ifN d_law_103 (show (0 : Int32) = (0 : Int32) from rfl) ?_
        refine Ru.iload d_law_106 rfl ?_
        refine Ru.iconst (x := 2) d_law_108 rfl ?_
        refine Ru.icmpN d_law_109 (show (2 : Int32) < (n32 5) from (by decide)) ?_
        refine Ru.iload d_law_112 rfl ?_
        refine Ru.callS0 (J := I_wild) (c_wild e) d_law_114 (e.w 36 rfl) (e.w 37 rfl) (e.w 4 rfl) (e.w 38 rfl) (by decide) np_wild rfl (argsL := [(.int c2)]) (rest := []) rfl rfl (fun _ q => nomatch q) (Nat.le_of_ble_eq_true rfl) (Nat.le_of_ble_eq_true rfl) (Nat.le_of_ble_eq_true rfl) (Nat.le_of_ble_eq_true rfl) (WP.rt ?_)
        rintro _ _ S2 ⟨rfl, rfl, rfl⟩
        by_cases w2 : c2 = 42 ∨ c2 = 63
        · refine WP.topI (show (if c2 = 42 ∨ c2 = 63 then (1 : Int32) else 0) = (1 : Int32) from (if_pos w2)) ?_
          refine Ru.ifY d_law_117 (show ¬ (1 : Int32) = (0 : Int32) from (by decide)) ?_
          refine Ru.iconst (x := 1) d_law_162 rfl ?_
          refine Ru.goto d_law_163 ?_
          refine Ru.istore d_law_167 (ls' := #[.val (.int p0), .val (.int p1), .val (.int p2), .val (.int p3), .val (.int (n32 5)), .val (.int c0), .val (.int c1), .val (.int c2), .val (.int c3), .val (.int c4), .val (.int c5), .val (.ref s), .val (.int (1 : Int32))]) rfl ?_
          refine Ru.aload d_law_169 rfl rfl ?_
          refine Ru.callS0 (J := I_ispat) (c_ispat e T) d_law_171 (e.w 39 rfl) (e.w 40 rfl) (e.w 41 rfl) (e.w 42 rfl) (by decide) np_ispat rfl (argsL := [(.ref s)]) (rest := []) rfl rfl (fun _ q => nomatch q) (Nat.le_of_ble_eq_true rfl) (Nat.le_of_ble_eq_true rfl) (Nat.le_of_ble_eq_true rfl) (Nat.le_of_ble_eq_true rfl) (WP.rt ?_)
          rintro _ _ S3 ⟨rfl, rfl, rfl⟩
          refine WP.topI (show (if (42 : Int32) ∈ ([c0, c1, c2, c3, c4, c5] : List Int32).take 5 ∨ (63 : Int32) ∈ ([c0, c1, c2, c3, c4, c5] : List Int32).take 5 then (1 : Int32) else 0) = (1 : Int32) from (if_pos (mem_wild (c := c2) (by simp) w2))) ?_
          refine Ru.iload d_law_174 rfl ?_
          refine Ru.icmpN d_law_176 (show (1 : Int32) = (1 : Int32) from rfl) ?_
          refine Ru.iconst (x := 1) d_law_179 rfl ?_
          refine Ru.goto d_law_180 ?_
          exact Ru.ireturnN (t := .boolean) (x' := (1 : Int32)) d_law_184 rfl (by simp) rfl [] (fun _ q => nomatch q) (Nat.le_of_ble_eq_true rfl) (Nat.le_of_ble_eq_true rfl) ⟨_, rfl, rfl⟩
        · refine WP.topI (show (if c2 = 42 ∨ c2 = 63 then (1 : Int32) else 0) = (0 : Int32) from (if_neg w2)) ?_
          refine Ru.ifN d_law_117 (show (0 : Int32) = (0 : Int32) from rfl) ?_
          refine Ru.iload d_law_120 rfl ?_
          refine Ru.iconst (x := 3) d_law_122 rfl ?_
          refine Ru.icmpN d_law_123 (show (3 : Int32) < (n32 5) from (by decide)) ?_
          refine Ru.iload d_law_126 rfl ?_
          refine Ru.callS0 (J := I_wild) (c_wild e) d_law_128 (e.w 36 rfl) (e.w 37 rfl) (e.w 4 rfl) (e.w 38 rfl) (by decide) np_wild rfl (argsL := [(.int c3)]) (rest := []) rfl rfl (fun _ q => nomatch q) (Nat.le_of_ble_eq_true rfl) (Nat.le_of_ble_eq_true rfl) (Nat.le_of_ble_eq_true rfl) (Nat.le_of_ble_eq_true rfl) (WP.rt ?_)
          rintro _ _ S2 ⟨rfl, rfl, rfl⟩
          by_cases w3 : c3 = 42 ∨ c3 = 63
          · refine WP.topI (show (if c3 = 42 ∨ c3 = 63 then (1 : Int32) else 0) = (1 : Int32) from (if_pos w3)) ?_
            refine Ru.ifY d_law_131 (show ¬ (1 : Int32) = (0 : Int32) from (by decide)) ?_
            refine Ru.iconst (x := 1) d_law_162 rfl ?_
            refine Ru.goto d_law_163 ?_
            refine Ru.istore d_law_167 (ls' := #[.val (.int p0), .val (.int p1), .val (.int p2), .val (.int p3), .val (.int (n32 5)), .val (.int c0), .val (.int c1), .val (.int c2), .val (.int c3), .val (.int c4), .val (.int c5), .val (.ref s), .val (.int (1 : Int32))]) rfl ?_
            refine Ru.aload d_law_169 rfl rfl ?_
            refine Ru.callS0 (J := I_ispat) (c_ispat e T) d_law_171 (e.w 39 rfl) (e.w 40 rfl) (e.w 41 rfl) (e.w 42 rfl) (by decide) np_ispat rfl (argsL := [(.ref s)]) (rest := []) rfl rfl (fun _ q => nomatch q) (Nat.le_of_ble_eq_true rfl) (Nat.le_of_ble_eq_true rfl) (Nat.le_of_ble_eq_true rfl) (Nat.le_of_ble_eq_true rfl) (WP.rt ?_)
            rintro _ _ S3 ⟨rfl, rfl, rfl⟩
            refine WP.topI (show (if (42 : Int32) ∈ ([c0, c1, c2, c3, c4, c5] : List Int32).take 5 ∨ (63 : Int32) ∈ ([c0, c1, c2, c3, c4, c5] : List Int32).take 5 then (1 : Int32) else 0) = (1 : Int32) from (if_pos (mem_wild (c := c3) (by simp) w3))) ?_
            refine Ru.iload d_law_174 rfl ?_
            refine Ru.icmpN d_law_176 (show (1 : Int32) = (1 : Int32) from rfl) ?_
            refine Ru.iconst (x := 1) d_law_179 rfl ?_
            refine Ru.goto d_law_180 ?_
            exact Ru.ireturnN (t := .boolean) (x' := (1 : Int32)) d_law_184 rfl (by simp) rfl [] (fun _ q => nomatch q) (Nat.le_of_ble_eq_true rfl) (Nat.le_of_ble_eq_true rfl) ⟨_, rfl, rfl⟩
          · refine WP.topI (show (if c3 = 42 ∨ c3 = 63 then (1 : Int32) else 0) = (0 : Int32) from (if_neg w3)) ?_
            refine Ru.ifN d_law_131 (show (0 : Int32) = (0 : Int32) from rfl) ?_
            refine Ru.iload d_law_134 rfl ?_
            refine Ru.iconst (x := 4) d_law_136 rfl ?_
            refine Ru.icmpN d_law_137 (show (4 : Int32) < (n32 5) from (by decide)) ?_
            refine Ru.iload d_law_140 rfl ?_
            refine Ru.callS0 (J := I_wild) (c_wild e) d_law_142 (e.w 36 rfl) (e.w 37 rfl) (e.w 4 rfl) (e.w 38 rfl) (by decide) np_wild rfl (argsL := [(.int c4)]) (rest := []) rfl rfl (fun _ q => nomatch q) (Nat.le_of_ble_eq_true rfl) (Nat.le_of_ble_eq_true rfl) (Nat.le_of_ble_eq_true rfl) (Nat.le_of_ble_eq_true rfl) (WP.rt ?_)
            rintro _ _ S2 ⟨rfl, rfl, rfl⟩
            by_cases w4 : c4 = 42 ∨ c4 = 63
            · refine WP.topI (show (if c4 = 42 ∨ c4 = 63 then (1 : Int32) else 0) = (1 : Int32) from (if_pos w4)) ?_
              refine Ru.ifY d_law_145 (show ¬ (1 : Int32) = (0 : Int32) from (by decide)) ?_
              refine Ru.iconst (x := 1) d_law_162 rfl ?_
              refine Ru.goto d_law_163 ?_
              refine Ru.istore d_law_167 (ls' := #[.val (.int p0), .val (.int p1), .val (.int p2), .val (.int p3), .val (.int (n32 5)), .val (.int c0), .val (.int c1), .val (.int c2), .val (.int c3), .val (.int c4), .val (.int c5), .val (.ref s), .val (.int (1 : Int32))]) rfl ?_
              refine Ru.aload d_law_169 rfl rfl ?_
              refine Ru.callS0 (J := I_ispat) (c_ispat e T) d_law_171 (e.w 39 rfl) (e.w 40 rfl) (e.w 41 rfl) (e.w 42 rfl) (by decide) np_ispat rfl (argsL := [(.ref s)]) (rest := []) rfl rfl (fun _ q => nomatch q) (Nat.le_of_ble_eq_true rfl) (Nat.le_of_ble_eq_true rfl) (Nat.le_of_ble_eq_true rfl) (Nat.le_of_ble_eq_true rfl) (WP.rt ?_)
              rintro _ _ S3 ⟨rfl, rfl, rfl⟩
              refine WP.topI (show (if (42 : Int32) ∈ ([c0, c1, c2, c3, c4, c5] : List Int32).take 5 ∨ (63 : Int32) ∈ ([c0, c1, c2, c3, c4, c5] : List Int32).take 5 then (1 : Int32) else 0) = (1 : Int32) from (if_pos (mem_wild (c := c4) (by simp) w4))) ?_
              refine Ru.iload d_law_174 rfl ?_
              refine Ru.icmpN d_law_176 (show (1 : Int32) = (1 : Int32) from rfl) ?_
              refine Ru.iconst (x := 1) d_law_179 rfl ?_
              refine Ru.goto d_law_180 ?_
              exact Ru.ireturnN (t := .boolean) (x' := (1 : Int32)) d_law_184 rfl (by simp) rfl [] (fun _ q => nomatch q) (Nat.le_of_ble_eq_true rfl) (Nat.le_of_ble_eq_true rfl) ⟨_, rfl, rfl⟩
            · refine WP.topI (show (if c4 = 42 ∨ c4 = 63 then (1 : Int32) else 0) = (0 : Int32) from (if_neg w4)) ?_
              refine Ru.ifN d_law_145 (show (0 : Int32) = (0 : Int32) from rfl) ?_
              refine Ru.iload d_law_148 rfl ?_
              refine Ru.iconst (x := 5) d_law_150 rfl ?_
              refine Ru.icmpY d_law_151 (show ¬ (5 : Int32) < (n32 5) from (by decide)) ?_
              refine Ru.iconst (x := 0) d_law_166 rfl ?_
              refine Ru.istore d_law_167 (ls' := #[.val (.int p0), .val (.int p1), .val (.int p2), .val (.int p3), .val (.int (n32 5)), .val (.int c0), .val (.int c1), .val (.int c2), .val (.int c3), .val (.int c4), .val (.int c5), .val (.ref s), .val (.int (0 : Int32))]) rfl ?_
              refine Ru.aload d_law_169 rfl rfl ?_
              refine Ru.callS0 (J := I_ispat) (c_ispat e T) d_law_171 (e.w 39 rfl) (e.w 40 rfl) (e.w 41 rfl) (e.w 42 rfl) (by decide) np_ispat rfl (argsL := [(.ref s)]) (rest := []) rfl rfl (fun _ q => nomatch q) (Nat.le_of_ble_eq_true rfl) (Nat.le_of_ble_eq_true rfl) (Nat.le_of_ble_eq_true rfl) (Nat.le_of_ble_eq_true rfl) (WP.rt ?_)
              rintro _ _ S3 ⟨rfl, rfl, rfl⟩
              refine WP.topI (show (if (42 : Int32) ∈ ([c0, c1, c2, c3, c4, c5] : List Int32).take 5 ∨ (63 : Int32) ∈ ([c0, c1, c2, c3, c4, c5] : List Int32).take 5 then (1 : Int32) else 0) = (0 : Int32) from (if_neg (no_wild (by simp [(not_or.mp w0).1, (not_or.mp w0).2, (not_or.mp w1).1, (not_or.mp w1).2, (not_or.mp w2).1, (not_or.mp w2).2, (not_or.mp w3).1, (not_or.mp w3).2, (not_or.mp w4).1, (not_or.mp w4).2])))) ?_
              refine Ru.iload d_law_174 rfl ?_
              refine Ru.icmpN d_law_176 (show (0 : Int32) = (0 : Int32) from rfl) ?_
              refine Ru.iconst (x := 1) d_law_179 rfl ?_
              refine Ru.goto d_law_180 ?_
              exact Ru.ireturnN (t := .boolean) (x' := (1 : Int32)) d_law_184 rfl (by simp) rfl [] (fun _ q => nomatch q) (Nat.le_of_ble_eq_true rfl) (Nat.le_of_ble_eq_true rfl) ⟨_, rfl, rfl⟩
  · refine Ru.iload d_law_79 rfl ?_
    refine Ru.ifN d_law_81 (show (0 : Int32) < (n32 6) from (by decide)) ?_
    refine Ru.iload d_law_84 rfl ?_
    refine Ru.callS0 (J := I_wild) (c_wild e) d_law_86 (e.w 36 rfl) (e.w 37 rfl) (e.w 4 rfl) (e.w 38 rfl) (by decide) np_wild rfl (argsL := [(.int c0)]) (rest := []) rfl rfl (fun _ q => nomatch q) (Nat.le_of_ble_eq_true rfl) (Nat.le_of_ble_eq_true rfl) (Nat.le_of_ble_eq_true rfl) (Nat.le_of_ble_eq_true rfl) (WP.rt ?_)
    rintro _ _ S2 ⟨rfl, rfl, rfl⟩
    by_cases w0 : c0 = 42 ∨ c0 = 63
    · refine WP.topI (show (if c0 = 42 ∨ c0 = 63 then (1 : Int32) else 0) = (1 : Int32) from (if_pos w0)) ?_
      refine Ru.ifY d_law_89 (show ¬ (1 : Int32) = (0 : Int32) from (by decide)) ?_
      refine Ru.iconst (x := 1) d_law_162 rfl ?_
      refine Ru.goto d_law_163 ?_
      refine Ru.istore d_law_167 (ls' := #[.val (.int p0), .val (.int p1), .val (.int p2), .val (.int p3), .val (.int (n32 6)), .val (.int c0), .val (.int c1), .val (.int c2), .val (.int c3), .val (.int c4), .val (.int c5), .val (.ref s), .val (.int (1 : Int32))]) rfl ?_
      refine Ru.aload d_law_169 rfl rfl ?_
      refine Ru.callS0 (J := I_ispat) (c_ispat e T) d_law_171 (e.w 39 rfl) (e.w 40 rfl) (e.w 41 rfl) (e.w 42 rfl) (by decide) np_ispat rfl (argsL := [(.ref s)]) (rest := []) rfl rfl (fun _ q => nomatch q) (Nat.le_of_ble_eq_true rfl) (Nat.le_of_ble_eq_true rfl) (Nat.le_of_ble_eq_true rfl) (Nat.le_of_ble_eq_true rfl) (WP.rt ?_)
      rintro _ _ S3 ⟨rfl, rfl, rfl⟩
      refine WP.topI (show (if (42 : Int32) ∈ ([c0, c1, c2, c3, c4, c5] : List Int32).take 6 ∨ (63 : Int32) ∈ ([c0, c1, c2, c3, c4, c5] : List Int32).take 6 then (1 : Int32) else 0) = (1 : Int32) from (if_pos (mem_wild (c := c0) (by simp) w0))) ?_
      refine Ru.iload d_law_174 rfl ?_
      refine Ru.icmpN d_law_176 (show (1 : Int32) = (1 : Int32) from rfl) ?_
      refine Ru.iconst (x := 1) d_law_179 rfl ?_
      refine Ru.goto d_law_180 ?_
      exact Ru.ireturnN (t := .boolean) (x' := (1 : Int32)) d_law_184 rfl (by simp) rfl [] (fun _ q => nomatch q) (Nat.le_of_ble_eq_true rfl) (Nat.le_of_ble_eq_true rfl) ⟨_, rfl, rfl⟩
    · refine WP.topI (show (if c0 = 42 ∨ c0 = 63 then (1 : Int32) else 0) = (0 : Int32) from (if_neg w0)) ?_
      refine Ru.ifN d_law_89 (show (0 : Int32) = (0 : Int32) from rfl) ?_
      refine Ru.iload d_law_92 rfl ?_
      refine Ru.iconst (x := 1) d_law_94 rfl ?_
      refine Ru.icmpN d_law_95 (show (1 : Int32) < (n32 6) from (by decide)) ?_
      refine Ru.iload d_law_98 rfl ?_
      refine Ru.callS0 (J := I_wild) (c_wild e) d_law_100 (e.w 36 rfl) (e.w 37 rfl) (e.w 4 rfl) (e.w 38 rfl) (by decide) np_wild rfl (argsL := [(.int c1)]) (rest := []) rfl rfl (fun _ q => nomatch q) (Nat.le_of_ble_eq_true rfl) (Nat.le_of_ble_eq_true rfl) (Nat.le_of_ble_eq_true rfl) (Nat.le_of_ble_eq_true rfl) (WP.rt ?_)
      rintro _ _ S2 ⟨rfl, rfl, rfl⟩
      by_cases w1 : c1 = 42 ∨ c1 = 63
      · refine WP.topI (show (if c1 = 42 ∨ c1 = 63 then (1 : Int32) else 0) = (1 : Int32) from (if_pos w1)) ?_
        refine Ru.ifY d_law_103 (show ¬ (1 : Int32) = (0 : Int32) from (by decide)) ?_
        refine Ru.iconst (x := 1) d_law_162 rfl ?_
        refine Ru.goto d_law_163 ?_
        refine Ru.istore d_law_167 (ls' := #[.val (.int p0), .val (.int p1), .val (.int p2), .val (.int p3), .val (.int (n32 6)), .val (.int c0), .val (.int c1), .val (.int c2), .val (.int c3), .val (.int c4), .val (.int c5), .val (.ref s), .val (.int (1 : Int32))]) rfl ?_
        refine Ru.aload d_law_169 rfl rfl ?_
        refine Ru.callS0 (J := I_ispat) (c_ispat e T) d_law_171 (e.w 39 rfl) (e.w 40 rfl) (e.w 41 rfl) (e.w 42 rfl) (by decide) np_ispat rfl (argsL := [(.ref s)]) (rest := []) rfl rfl (fun _ q => nomatch q) (Nat.le_of_ble_eq_true rfl) (Nat.le_of_ble_eq_true rfl) (Nat.le_of_ble_eq_true rfl) (Nat.le_of_ble_eq_true rfl) (WP.rt ?_)
        rintro _ _ S3 ⟨rfl, rfl, rfl⟩
        refine WP.topI (show (if (42 : Int32) ∈ ([c0, c1, c2, c3, c4, c5] : List Int32).take 6 ∨ (63 : Int32) ∈ ([c0, c1, c2, c3, c4, c5] : List Int32).take 6 then (1 : Int32) else 0) = (1 : Int32) from (if_pos (mem_wild (c := c1) (by simp) w1))) ?_
        refine Ru.iload d_law_174 rfl ?_
        refine Ru.icmpN d_law_176 (show (1 : Int32) = (1 : Int32) from rfl) ?_
        refine Ru.iconst (x := 1) d_law_179 rfl ?_
        refine Ru.goto d_law_180 ?_
        exact Ru.ireturnN (t := .boolean) (x' := (1 : Int32)) d_law_184 rfl (by simp) rfl [] (fun _ q => nomatch q) (Nat.le_of_ble_eq_true rfl) (Nat.le_of_ble_eq_true rfl) ⟨_, rfl, rfl⟩
      · refine WP.topI (show (if c1 = 42 ∨ c1 = 63 then (1 : Int32) else 0) = (0 : Int32) from (if_neg w1)) ?_
        refine Ru.ifN d_law_103 (show (0 : Int32) = (0 : Int32) from rfl) ?_
        refine Ru.iload d_law_106 rfl ?_
        refine Ru.iconst (x := 2) d_law_108 rfl ?_
        refine Ru.icmpN d_law_109 (show (2 : Int32) < (n32 6) from (by decide)) ?_
        refine Ru.iload d_law_112 rfl ?_
        refine Ru.callS0 (J := I_wild) (c_wild e) d_law_114 (e.w 36 rfl) (e.w 37 rfl) (e.w 4 rfl) (e.w 38 rfl) (by decide) np_wild rfl (argsL := [(.int c2)]) (rest := []) rfl rfl (fun _ q => nomatch q) (Nat.le_of_ble_eq_true rfl) (Nat.le_of_ble_eq_true rfl) (Nat.le_of_ble_eq_true rfl) (Nat.le_of_ble_eq_true rfl) (WP.rt ?_)
        rintro _ _ S2 ⟨rfl, rfl, rfl⟩
        by_cases w2 : c2 = 42 ∨ c2 = 63
        · refine WP.topI (show (if c2 = 42 ∨ c2 = 63 then (1 : Int32) else 0) = (1 : Int32) from (if_pos w2)) ?_
          refine Ru.ifY d_law_117 (show ¬ (1 : Int32) = (0 : Int32) from (by decide)) ?_
          refine Ru.iconst (x := 1) d_law_162 rfl ?_
          refine Ru.goto d_law_163 ?_
          refine Ru.istore d_law_167 (ls' := #[.val (.int p0), .val (.int p1), .val (.int p2), .val (.int p3), .val (.int (n32 6)), .val (.int c0), .val (.int c1), .val (.int c2), .val (.int c3), .val (.int c4), .val (.int c5), .val (.ref s), .val (.int (1 : Int32))]) rfl ?_
          refine Ru.aload d_law_169 rfl rfl ?_
          refine Ru.callS0 (J := I_ispat) (c_ispat e T) d_law_171 (e.w 39 rfl) (e.w 40 rfl) (e.w 41 rfl) (e.w 42 rfl) (by decide) np_ispat rfl (argsL := [(.ref s)]) (rest := []) rfl rfl (fun _ q => nomatch q) (Nat.le_of_ble_eq_true rfl) (Nat.le_of_ble_eq_true rfl) (Nat.le_of_ble_eq_true rfl) (Nat.le_of_ble_eq_true rfl) (WP.rt ?_)
          rintro _ _ S3 ⟨rfl, rfl, rfl⟩
          refine WP.topI (show (if (42 : Int32) ∈ ([c0, c1, c2, c3, c4, c5] : List Int32).take 6 ∨ (63 : Int32) ∈ ([c0, c1, c2, c3, c4, c5] : List Int32).take 6 then (1 : Int32) else 0) = (1 : Int32) from (if_pos (mem_wild (c := c2) (by simp) w2))) ?_
          refine Ru.iload d_law_174 rfl ?_
          refine Ru.icmpN d_law_176 (show (1 : Int32) = (1 : Int32) from rfl) ?_
          refine Ru.iconst (x := 1) d_law_179 rfl ?_
          refine Ru.goto d_law_180 ?_
          exact Ru.ireturnN (t := .boolean) (x' := (1 : Int32)) d_law_184 rfl (by simp) rfl [] (fun _ q => nomatch q) (Nat.le_of_ble_eq_true rfl) (Nat.le_of_ble_eq_true rfl) ⟨_, rfl, rfl⟩
        · refine WP.topI (show (if c2 = 42 ∨ c2 = 63 then (1 : Int32) else 0) = (0 : Int32) from (if_neg w2)) ?_
          refine Ru.ifN d_law_117 (show (0 : Int32) = (0 : Int32) from rfl) ?_
          refine Ru.iload d_law_120 rfl ?_
          refine Ru.iconst (x := 3) d_law_122 rfl ?_
          refine Ru.icmpN d_law_123 (show (3 : Int32) < (n32 6) from (by decide)) ?_
          refine Ru.iload d_law_126 rfl ?_
          refine Ru.callS0 (J := I_wild) (c_wild e) d_law_128 (e.w 36 rfl) (e.w 37 rfl) (e.w 4 rfl) (e.w 38 rfl) (by decide) np_wild rfl (argsL := [(.int c3)]) (rest := []) rfl rfl (fun _ q => nomatch q) (Nat.le_of_ble_eq_true rfl) (Nat.le_of_ble_eq_true rfl) (Nat.le_of_ble_eq_true rfl) (Nat.le_of_ble_eq_true rfl) (WP.rt ?_)
          rintro _ _ S2 ⟨rfl, rfl, rfl⟩
          by_cases w3 : c3 = 42 ∨ c3 = 63
          · refine WP.topI (show (if c3 = 42 ∨ c3 = 63 then (1 : Int32) else 0) = (1 : Int32) from (if_pos w3)) ?_
            refine Ru.ifY d_law_131 (show ¬ (1 : Int32) = (0 : Int32) from (by decide)) ?_
            refine Ru.iconst (x := 1) d_law_162 rfl ?_
            refine Ru.goto d_law_163 ?_
            refine Ru.istore d_law_167 (ls' := #[.val (.int p0), .val (.int p1), .val (.int p2), .val (.int p3), .val (.int (n32 6)), .val (.int c0), .val (.int c1), .val (.int c2), .val (.int c3), .val (.int c4), .val (.int c5), .val (.ref s), .val (.int (1 : Int32))]) rfl ?_
            refine Ru.aload d_law_169 rfl rfl ?_
            refine Ru.callS0 (J := I_ispat) (c_ispat e T) d_law_171 (e.w 39 rfl) (e.w 40 rfl) (e.w 41 rfl) (e.w 42 rfl) (by decide) np_ispat rfl (argsL := [(.ref s)]) (rest := []) rfl rfl (fun _ q => nomatch q) (Nat.le_of_ble_eq_true rfl) (Nat.le_of_ble_eq_true rfl) (Nat.le_of_ble_eq_true rfl) (Nat.le_of_ble_eq_true rfl) (WP.rt ?_)
            rintro _ _ S3 ⟨rfl, rfl, rfl⟩
            refine WP.topI (show (if (42 : Int32) ∈ ([c0, c1, c2, c3, c4, c5] : List Int32).take 6 ∨ (63 : Int32) ∈ ([c0, c1, c2, c3, c4, c5] : List Int32).take 6 then (1 : Int32) else 0) = (1 : Int32) from (if_pos (mem_wild (c := c3) (by simp) w3))) ?_
            refine Ru.iload d_law_174 rfl ?_
            refine Ru.icmpN d_law_176 (show (1 : Int32) = (1 : Int32) from rfl) ?_
            refine Ru.iconst (x := 1) d_law_179 rfl ?_
            refine Ru.goto d_law_180 ?_
            exact Ru.ireturnN (t := .boolean) (x' := (1 : Int32)) d_law_184 rfl (by simp) rfl [] (fun _ q => nomatch q) (Nat.le_of_ble_eq_true rfl) (Nat.le_of_ble_eq_true rfl) ⟨_, rfl, rfl⟩
          · refine WP.topI (show (if c3 = 42 ∨ c3 = 63 then (1 : Int32) else 0) = (0 : Int32) from (if_neg w3)) ?_
            refine Ru.ifN d_law_131 (show (0 : Int32) = (0 : Int32) from rfl) ?_
            refine Ru.iload d_law_134 rfl ?_
            refine Ru.iconst (x := 4) d_law_136 rfl ?_
            refine Ru.icmpN d_law_137 (show (4 : Int32) < (n32 6) from (by decide)) ?_
            refine Ru.iload d_law_140 rfl ?_
            refine Ru.callS0 (J := I_wild) (c_wild e) d_law_142 (e.w 36 rfl) (e.w 37 rfl) (e.w 4 rfl) (e.w 38 rfl) (by decide) np_wild rfl (argsL := [(.int c4)]) (rest := []) rfl rfl (fun _ q => nomatch q) (Nat.le_of_ble_eq_true rfl) (Nat.le_of_ble_eq_true rfl) (Nat.le_of_ble_eq_true rfl) (Nat.le_of_ble_eq_true rfl) (WP.rt ?_)
            rintro _ _ S2 ⟨rfl, rfl, rfl⟩
            by_cases w4 : c4 = 42 ∨ c4 = 63
            · refine WP.topI (show (if c4 = 42 ∨ c4 = 63 then (1 : Int32) else 0) = (1 : Int32) from (if_pos w4)) ?_
              refine Ru.ifY d_law_145 (show ¬ (1 : Int32) = (0 : Int32) from (by decide)) ?_
              refine Ru.iconst (x := 1) d_law_162 rfl ?_
              refine Ru.goto d_law_163 ?_
              refine Ru.istore d_law_167 (ls' := #[.val (.int p0), .val (.int p1), .val (.int p2), .val (.int p3), .val (.int (n32 6)), .val (.int c0), .val (.int c1), .val (.int c2), .val (.int c3), .val (.int c4), .val (.int c5), .val (.ref s), .val (.int (1 : Int32))]) rfl ?_
              refine Ru.aload d_law_169 rfl rfl ?_
              refine Ru.callS0 (J := I_ispat) (c_ispat e T) d_law_171 (e.w 39 rfl) (e.w 40 rfl) (e.w 41 rfl) (e.w 42 rfl) (by decide) np_ispat rfl (argsL := [(.ref s)]) (rest := []) rfl rfl (fun _ q => nomatch q) (Nat.le_of_ble_eq_true rfl) (Nat.le_of_ble_eq_true rfl) (Nat.le_of_ble_eq_true rfl) (Nat.le_of_ble_eq_true rfl) (WP.rt ?_)
              rintro _ _ S3 ⟨rfl, rfl, rfl⟩
              refine WP.topI (show (if (42 : Int32) ∈ ([c0, c1, c2, c3, c4, c5] : List Int32).take 6 ∨ (63 : Int32) ∈ ([c0, c1, c2, c3, c4, c5] : List Int32).take 6 then (1 : Int32) else 0) = (1 : Int32) from (if_pos (mem_wild (c := c4) (by simp) w4))) ?_
              refine Ru.iload d_law_174 rfl ?_
              refine Ru.icmpN d_law_176 (show (1 : Int32) = (1 : Int32) from rfl) ?_
              refine Ru.iconst (x := 1) d_law_179 rfl ?_
              refine Ru.goto d_law_180 ?_
              exact Ru.ireturnN (t := .boolean) (x' := (1 : Int32)) d_law_184 rfl (by simp) rfl [] (fun _ q => nomatch q) (Nat.le_of_ble_eq_true rfl) (Nat.le_of_ble_eq_true rfl) ⟨_, rfl, rfl⟩
            · refine WP.topI (show (if c4 = 42 ∨ c4 = 63 then (1 : Int32) else 0) = (0 : Int32) from (if_neg w4)) ?_
              refine Ru.ifN d_law_145 (show (0 : Int32) = (0 : Int32) from rfl) ?_
              refine Ru.iload d_law_148 rfl ?_
              refine Ru.iconst (x := 5) d_law_150 rfl ?_
              refine Ru.icmpN d_law_151 (show (5 : Int32) < (n32 6) from (by decide)) ?_
              refine Ru.iload d_law_154 rfl ?_
              refine Ru.callS0 (J := I_wild) (c_wild e) d_law_156 (e.w 36 rfl) (e.w 37 rfl) (e.w 4 rfl) (e.w 38 rfl) (by decide) np_wild rfl (argsL := [(.int c5)]) (rest := []) rfl rfl (fun _ q => nomatch q) (Nat.le_of_ble_eq_true rfl) (Nat.le_of_ble_eq_true rfl) (Nat.le_of_ble_eq_true rfl) (Nat.le_of_ble_eq_true rfl) (WP.rt ?_)
              rintro _ _ S2 ⟨rfl, rfl, rfl⟩
              by_cases w5 : c5 = 42 ∨ c5 = 63
              · refine WP.topI (show (if c5 = 42 ∨ c5 = 63 then (1 : Int32) else 0) = (1 : Int32) from (if_pos w5)) ?_
                refine Ru.ifN d_law_159 (show ¬ (1 : Int32) = (0 : Int32) from (by decide)) ?_
                refine Ru.iconst (x := 1) d_law_162 rfl ?_
                refine Ru.goto d_law_163 ?_
                refine Ru.istore d_law_167 (ls' := #[.val (.int p0), .val (.int p1), .val (.int p2), .val (.int p3), .val (.int (n32 6)), .val (.int c0), .val (.int c1), .val (.int c2), .val (.int c3), .val (.int c4), .val (.int c5), .val (.ref s), .val (.int (1 : Int32))]) rfl ?_
                refine Ru.aload d_law_169 rfl rfl ?_
                refine Ru.callS0 (J := I_ispat) (c_ispat e T) d_law_171 (e.w 39 rfl) (e.w 40 rfl) (e.w 41 rfl) (e.w 42 rfl) (by decide) np_ispat rfl (argsL := [(.ref s)]) (rest := []) rfl rfl (fun _ q => nomatch q) (Nat.le_of_ble_eq_true rfl) (Nat.le_of_ble_eq_true rfl) (Nat.le_of_ble_eq_true rfl) (Nat.le_of_ble_eq_true rfl) (WP.rt ?_)
                rintro _ _ S3 ⟨rfl, rfl, rfl⟩
                refine WP.topI (show (if (42 : Int32) ∈ ([c0, c1, c2, c3, c4, c5] : List Int32).take 6 ∨ (63 : Int32) ∈ ([c0, c1, c2, c3, c4, c5] : List Int32).take 6 then (1 : Int32) else 0) = (1 : Int32) from (if_pos (mem_wild (c := c5) (by simp) w5))) ?_
                refine Ru.iload d_law_174 rfl ?_
                refine Ru.icmpN d_law_176 (show (1 : Int32) = (1 : Int32) from rfl) ?_
                refine Ru.iconst (x := 1) d_law_179 rfl ?_
                refine Ru.goto d_law_180 ?_
                exact Ru.ireturnN (t := .boolean) (x' := (1 : Int32)) d_law_184 rfl (by simp) rfl [] (fun _ q => nomatch q) (Nat.le_of_ble_eq_true rfl) (Nat.le_of_ble_eq_true rfl) ⟨_, rfl, rfl⟩
              · refine WP.topI (show (if c5 = 42 ∨ c5 = 63 then (1 : Int32) else 0) = (0 : Int32) from (if_neg w5)) ?_
                refine Ru.ifY d_law_159 (show (0 : Int32) = (0 : Int32) from rfl) ?_
                refine Ru.iconst (x := 0) d_law_166 rfl ?_
                refine Ru.istore d_law_167 (ls' := #[.val (.int p0), .val (.int p1), .val (.int p2), .val (.int p3), .val (.int (n32 6)), .val (.int c0), .val (.int c1), .val (.int c2), .val (.int c3), .val (.int c4), .val (.int c5), .val (.ref s), .val (.int (0 : Int32))]) rfl ?_
                refine Ru.aload d_law_169 rfl rfl ?_
                refine Ru.callS0 (J := I_ispat) (c_ispat e T) d_law_171 (e.w 39 rfl) (e.w 40 rfl) (e.w 41 rfl) (e.w 42 rfl) (by decide) np_ispat rfl (argsL := [(.ref s)]) (rest := []) rfl rfl (fun _ q => nomatch q) (Nat.le_of_ble_eq_true rfl) (Nat.le_of_ble_eq_true rfl) (Nat.le_of_ble_eq_true rfl) (Nat.le_of_ble_eq_true rfl) (WP.rt ?_)
                rintro _ _ S3 ⟨rfl, rfl, rfl⟩
                refine WP.topI (show (if (42 : Int32) ∈ ([c0, c1, c2, c3, c4, c5] : List Int32).take 6 ∨ (63 : Int32) ∈ ([c0, c1, c2, c3, c4, c5] : List Int32).take 6 then (1 : Int32) else 0) = (0 : Int32) from (if_neg (no_wild (by simp [(not_or.mp w0).1, (not_or.mp w0).2, (not_or.mp w1).1, (not_or.mp w1).2, (not_or.mp w2).1, (not_or.mp w2).2, (not_or.mp w3).1, (not_or.mp w3).2, (not_or.mp w4).1, (not_or.mp w4).2, (not_or.mp w5).1, (not_or.mp w5).2])))) ?_
                refine Ru.iload d_law_174 rfl ?_
                refine Ru.icmpN d_law_176 (show (0 : Int32) = (0 : Int32) from rfl) ?_
                refine Ru.iconst (x := 1) d_law_179 rfl ?_
                refine Ru.goto d_law_180 ?_
                exact Ru.ireturnN (t := .boolean) (x' := (1 : Int32)) d_law_184 rfl (by simp) rfl [] (fun _ q => nomatch q) (Nat.le_of_ble_eq_true rfl) (Nat.le_of_ble_eq_true rfl) ⟨_, rfl, rfl⟩
set_option maxRecDepth 65536 in
set_option maxHeartbeats 40000000 in
theorem comes_1 {Post : Tables → Env → Array Value → State → Outcome → State → Prop} (hpost : ∀ tb e args s v u, (limb_1_1.after args s (.returned v) u = true ∧ limb_1_2.after args s (.returned v) u = true ∧ True) → ReturnedEndW s (.returned v) u (Jvm.fieldLocs frame_1_writes args s ++ Jvm.arrayLocs frame_1_arrays args s ++ Jvm.staticLocs frame_1_statics s) 24 1152 → Post tb e args s (.returned v) u) :
    ArmFor flags0 classFile x code maxLocals ret World_1 tables_1 room_1 Calls_1 rest_1 Pre_1 Post := by
  intro l hfl _ _ p e ha hc hk s m args below hf hA hF happ hP
  obtain ⟨hcalls, hrest, hpre⟩ := hP
  obtain ⟨-, -, -, hnamed, -, -, -, hat⟩ := (Spec.applies_iff hf).mp happ
  obtain ⟨hg, hn⟩ := and_e (Cond.before_iff.mp (show (Jvm.Cond.and given_1 narrow_1).before args s = true from hpre))
  obtain ⟨hg0, hgs⟩ := and_e hg
  obtain ⟨ga0, gr0⟩ := and_e hgs
  obtain ⟨ga1, gr1⟩ := and_e gr0
  obtain ⟨ga2, gr2⟩ := and_e gr1
  have ga3 := gr2
  obtain ⟨w0, w1, w2, w3, rfl⟩ : ∃ w0 w1 w2 w3 : Value, args = #[w0, w1, w2, w3] := by
    have hs : args.size = 4 := by simpa [Cond.value, given_1] using hg0
    obtain ⟨L⟩ := args
    match L, hs with
    | [w0, w1, w2, w3], _ => exact ⟨w0, w1, w2, w3, rfl⟩
  have hw := fun d (hd : d ∈ tables_1) => atoms_spec (ws := Jvm.Cond.code x code maxLocals ret :: tables_1) hat d (List.mem_cons_of_mem _ hd)
  obtain ⟨hsets, hown0⟩ := atoms_of _ (rest_1_c_eq ▸ (show rest_1_c.before _ s = true from hrest))
  have hfit : Fit s := fun {y c} hc i hi => by
    obtain ⟨ha, rfl⟩ := Array.getElem?_eq_some_iff.mp hc
    have q := List.all_eq_true.mp ((Array.all_eq_true_iff_forall_mem.mp hF) _ (Array.getElem_mem ha)) i (List.mem_range.mpr hi)
    simpa [Array.getElem?_eq_getElem hi] using q
  obtain ⟨i0, ei0⟩ := is_v ga0
  obtain rfl : w0 = (.int i0) := Option.some.inj ei0
  obtain ⟨i1, ei1⟩ := is_v ga1
  obtain rfl : w1 = (.int i1) := Option.some.inj ei1
  obtain ⟨i2, ei2⟩ := is_v ga2
  obtain rfl : w2 = (.int i2) := Option.some.inj ei2
  obtain ⟨i3, ei3⟩ := is_v ga3
  obtain rfl : w3 = (.int i3) := Option.some.inj ei3
  have n5 := not_v (Cond.before_iff.mp (hsets _ (List.mem_of_getElem? (i := 2) rfl)))
  obtain ⟨cz, ecz⟩ := is_v (Cond.before_iff.mp (hsets _ (List.mem_of_getElem? (i := 1) rfl)))
  have Scz : Sta s s.heap "java/lang/String" "COMPACT_STRINGS" "Z" (.int cz) := Sta.start ecz (Or.inl (hsets _ (List.mem_of_getElem? (i := 0) rfl)))
  have ncz : ¬ (cz = (0 : Int32)) := gotF (Cond.eq_ints ecz (Term.int_eval (0))) n5
  have Sad : Sta s s.heap "java/lang/StringUTF16" "$assertionsDisabled" "Z" (.int 1) := Sta.start (eqv_i (Term.int_eval 1) (Cond.before_iff.mp (hsets _ (List.mem_of_getElem? (i := 12) rfl)))) (Or.inl (hsets _ (List.mem_of_getElem? (i := 11) rfl)))
  have Shi : Sta s s.heap "java/lang/StringUTF16" "HI_BYTE_SHIFT" "I" (.int 0) := Sta.start (eqv_i (Term.int_eval 0) (Cond.before_iff.mp (hsets _ (List.mem_of_getElem? (i := 15) rfl)))) (Or.inl (hsets _ (List.mem_of_getElem? (i := 14) rfl)))
  have Slo : Sta s s.heap "java/lang/StringUTF16" "LO_BYTE_SHIFT" "I" (.int 8) := Sta.start (eqv_i (Term.int_eval 8) (Cond.before_iff.mp (hsets _ (List.mem_of_getElem? (i := 18) rfl)))) (Or.inl (hsets _ (List.mem_of_getElem? (i := 17) rfl)))
  obtain ⟨vfm, efm, rfm⟩ := isR_v (Cond.before_iff.mp (hsets _ (List.mem_of_getElem? (i := 8) rfl)))
  have Sfm : Sta s s.heap "jdk/internal/util/Preconditions" "SIOOBE_FORMATTER" "Ljava/util/function/BiFunction;" vfm := Sta.start efm (Or.inl (hsets _ (List.mem_of_getElem? (i := 7) rfl)))
  have ev : Ev ((l, s, lits_1, false) : Own.Wd) _ := ⟨hw, ⟨cz, Scz, ncz⟩, rfl, fun p hp => hp, Sad, Shi, Slo, ⟨vfm, rfm, Sfm⟩, trivial⟩
  have M := c_law ev (p0 := i0) (p1 := i1) (p2 := i2) (p3 := i3) (h := s.heap)
  obtain ⟨n, o, h1, h2, h3, v, L, rfl, ⟨⟨S, ⟨x, rfl, rfl⟩, -⟩, N, -⟩, -, hR, hN⟩ := M #[] (EW.cons (hw _ (List.mem_of_getElem? (i := 130) rfl)) (by decide) EW.nil) ⟨Nat.le_refl _, fun _ _ q => q⟩ tables_1 p e ha hc hk s m _ below hf ((Spec.applies_iff_loose hf).mp happ).1 ⟨rfl, State.Warmed39.refl s, rfl, (CHv.start (EW.cons (hw _ (List.mem_of_getElem? (i := 130) rfl)) (by decide) EW.nil) (fun p hp => hcalls.1 p hp) (hsets _ (List.mem_of_getElem? (i := 2) rfl)) (hw _ (List.mem_of_getElem? (i := 25) rfl)) (hw _ (List.mem_of_getElem? (i := 7) rfl))), Own.Ws.nil⟩ trivial
  refine ⟨n, _, h1, h2, h3, hpost _ _ _ _ _ _ ⟨Cond.after_iff.mpr rfl, Cond.after_iff.mpr (eq_i res_at (Term.int_eval (1)) rfl), trivial⟩ ⟨hR.1, hR.2.1, hR.2.2.1, (hR.2.2.2.sift fun y hy => Or.inr (N y hy)).mono (by decide) (by decide)⟩⟩
theorem main_1_1 : Claimed_1_1 := comes_1 fun _ _ _ _ _ _ h hF => ⟨h.1, hF⟩
theorem main_1_2 : Claimed_1_2 := comes_1 fun _ _ _ _ _ _ h hF => ⟨h.2.1, hF⟩
end Jvm.Pilot.@@N@@
namespace Jvm.Pilot.@@N@@
open Jvm Jvm.ClassFile Sem Op Lib Jvm.Free Jvm.Stand Jvm.Pilot.@@N@@.Jvm.D
/-! MADE BY PROGRAM (witnessworld.py) out of the Statement's table words and the real class files: 23 classes; the members and pool entries that the words name. The judged class is class 1, her method 1. -/
namespace start1
open Jvm.ClassFile
def u (s : String) : CpInfo := .utf8 (stringToUtf16 s)
/-- a pool by its gaps: so many unusable entries, then the entry; so many at the end -/
def gap : Nat → List CpInfo → List CpInfo
  | 0, r => r
  | n + 1, r => .unusable :: gap n r
def poolList (es : List (Nat × CpInfo)) (last : Nat) : List CpInfo := es.foldr (fun e r => gap e.1 (e.2 :: r)) (gap last [])
def pool (es : List (Nat × CpInfo)) (last : Nat) : Array CpInfo := ⟨poolList es last⟩
def fileOf (pool : Array CpInfo) (this : Nat) (attrs : Array Attribute := #[]) (ms : Array MethodInfo := #[]) (fl : Nat := 33) (sup : Nat := 0) (ifs : Array Nat := #[]) (fds : Array FieldInfo := #[]) : ClassFile where
  minorVersion := 0
  majorVersion := 65
  constantPool := pool
  accessFlags := fl
  thisClass := this
  superClass := sup
  interfaces := ifs
  fields := fds
  methods := ms
  attributes := attrs
def plain (name : String) (sup : Option ClassId) : Class where
  name := name
  kind := .ordinary
  loader := none
  accessFlags := 33
  super := sup
  interfaces := #[]
  cf := none
  fields := #[]
  methods := #[]
  instanceTypes := #[]
  staticTypes := #[]
  resolved := #[]
  callSites := []
  init := .initialized
  statics := none
  mirror := none

def pool0 : Array CpInfo := pool [(5, u "<init>"), (0, u "()V"), (1, .class_ 10), (1, u "java/lang/Object")] 113

def k0c0 : Code := { maxStack := 0, maxLocals := 1, code := object_method_1_code, exceptionTable := #[], attributes := #[] }
def k0m0 : Method := { name := "<init>", desc := "()V", sig := { parameters := [], returnType := none }, accessFlags := 1, code := some k0c0 }
/-- java/lang/Object -/
def k0 : Class := { plain "java/lang/Object" none with
  accessFlags := 33
  interfaces := #[]
  cf := some (fileOf pool0 8 #[] #[{ accessFlags := 1, nameIndex := 5, descriptorIndex := 6, attributes := #[] }] 33 0 #[] #[])
  fields := #[]
  methods := #[k0m0]
  instanceTypes := #[]
  staticTypes := #[]
  resolved := Array.replicate 124 none
  statics := none }

def pool1 : Array CpInfo := pool [(2, .class_ 4), (1, u "java/lang/Object"), (0, u "<init>"), (0, u "()V"), (0, .integer 2147483647), (0, .integer 65535), (0, .methodref 10 11), (0, .class_ 12), (0, .nameAndType 13 14), (0, u "com/example/lucid_index/lucidindex/core/WildcardIsPatternPinLaw"), (0, u "make"), (0, u "(ICCCCCC)Ljava/lang/String;"), (0, .methodref 10 16), (0, .nameAndType 17 18), (0, u "wild"), (0, u "(C)Z"), (0, .methodref 20 21), (0, .class_ 22), (0, .nameAndType 23 24), (0, u "com/example/lucid_index/lucidindex/core/Condition$Wildcard"), (0, u "isPattern"), (0, u "(Ljava/lang/String;)Z"), (0, .class_ 26), (0, u "java/lang/String"), (0, .methodref 25 28), (0, .nameAndType 5 29), (0, u "([C)V"), (2, u "law"), (0, u "(IIII)Z")] 7

def k1m0 : Method := { name := "<init>", desc := "()V", sig := { parameters := [], returnType := none }, accessFlags := 1, code := none }
def k1c1 : Code := { maxStack := 7, maxLocals := 13, code := code, exceptionTable := #[], attributes := #[] }
def k1m1 : Method := { name := "law", desc := "(IIII)Z", sig := { parameters := [.int, .int, .int, .int], returnType := some .boolean }, accessFlags := 9, code := some k1c1 }
def k1c2 : Code := { maxStack := 2, maxLocals := 1, code := method_3_code, exceptionTable := #[], attributes := #[] }
def k1m2 : Method := { name := "wild", desc := "(C)Z", sig := { parameters := [.char], returnType := some .boolean }, accessFlags := 10, code := some k1c2 }
def k1c3 : Code := { maxStack := 6, maxLocals := 7, code := method_4_code, exceptionTable := #[], attributes := #[] }
def k1m3 : Method := { name := "make", desc := "(ICCCCCC)Ljava/lang/String;", sig := { parameters := [.int, .char, .char, .char, .char, .char, .char], returnType := some (.object "java/lang/String") }, accessFlags := 10, code := some k1c3 }
/-- com/example/lucid_index/lucidindex/core/WildcardIsPatternPinLaw -/
def k1 : Class := { plain "com/example/lucid_index/lucidindex/core/WildcardIsPatternPinLaw" (some 0) with
  accessFlags := 49
  interfaces := #[]
  cf := some (fileOf pool1 10 #[] #[{ accessFlags := 1, nameIndex := 5, descriptorIndex := 6, attributes := #[] }, { accessFlags := 9, nameIndex := 32, descriptorIndex := 33, attributes := #[] }, { accessFlags := 10, nameIndex := 17, descriptorIndex := 18, attributes := #[] }, { accessFlags := 10, nameIndex := 13, descriptorIndex := 14, attributes := #[] }] 49 2 #[] #[])
  fields := #[]
  methods := #[k1m0, k1m1, k1m2, k1m3]
  instanceTypes := #[]
  staticTypes := #[]
  resolved := Array.replicate 41 none
  statics := none }

def pool2 : Array CpInfo := pool [(1, .class_ 2), (0, u "java/io/Serializable"), (0, .class_ 4), (0, u "java/lang/Object")] 2

/-- java/io/Serializable -/
def k2 : Class := { plain "java/io/Serializable" (some 0) with
  accessFlags := 1537
  interfaces := #[]
  cf := some (fileOf pool2 1 #[] #[] 1537 3 #[] #[])
  fields := #[]
  methods := #[]
  instanceTypes := #[]
  staticTypes := #[]
  resolved := Array.replicate 7 none
  statics := none }

def pool3 : Array CpInfo := pool [(1, .class_ 2), (0, u "java/lang/Comparable"), (0, .class_ 4), (0, u "java/lang/Object")] 7

/-- java/lang/Comparable -/
def k3 : Class := { plain "java/lang/Comparable" (some 0) with
  accessFlags := 1537
  interfaces := #[]
  cf := some (fileOf pool3 1 #[] #[] 1537 3 #[] #[])
  fields := #[]
  methods := #[]
  instanceTypes := #[]
  staticTypes := #[]
  resolved := Array.replicate 12 none
  statics := none }

def pool4 : Array CpInfo := pool [(2, .class_ 4), (1, u "java/lang/CharSequence"), (42, .class_ 48), (0, u "java/lang/CharSequence$1CodePointIterator"), (10, .class_ 60), (0, u "java/lang/CharSequence$1CharIterator"), (5, .class_ 67), (0, u "java/lang/Object")] 63

/-- java/lang/CharSequence -/
def k4 : Class := { plain "java/lang/CharSequence" (some 0) with
  accessFlags := 1537
  interfaces := #[]
  cf := some (fileOf pool4 2 #[.nestMembers #[47, 59]] #[] 1537 66 #[] #[])
  fields := #[]
  methods := #[]
  instanceTypes := #[]
  staticTypes := #[]
  resolved := Array.replicate 131 none
  statics := none }

def pool5 : Array CpInfo := pool [(1, .class_ 2), (0, u "java/lang/constant/Constable"), (0, .class_ 4), (0, u "java/lang/Object")] 6

/-- java/lang/constant/Constable -/
def k5 : Class := { plain "java/lang/constant/Constable" (some 0) with
  accessFlags := 1537
  interfaces := #[]
  cf := some (fileOf pool5 1 #[] #[] 1537 3 #[] #[])
  fields := #[]
  methods := #[]
  instanceTypes := #[]
  staticTypes := #[]
  resolved := Array.replicate 11 none
  statics := none }

def pool6 : Array CpInfo := pool [(1, .class_ 2), (0, u "java/lang/constant/ConstantDesc"), (0, .class_ 4), (0, u "java/lang/Object")] 32

/-- java/lang/constant/ConstantDesc -/
def k6 : Class := { plain "java/lang/constant/ConstantDesc" (some 0) with
  accessFlags := 1537
  interfaces := #[]
  cf := some (fileOf pool6 1 #[] #[] 1537 3 #[] #[])
  fields := #[]
  methods := #[]
  instanceTypes := #[]
  staticTypes := #[]
  resolved := Array.replicate 37 none
  statics := none }

def pool7 : Array CpInfo := pool [(1, .methodref 2 3), (0, .class_ 4), (0, .nameAndType 5 6), (0, u "java/lang/Object"), (0, u "<init>"), (0, u "()V"), (0, .string 8), (0, u ""), (0, .fieldref 10 11), (0, .class_ 12), (0, .nameAndType 13 14), (0, u "java/lang/String"), (0, u "value"), (0, u "[B"), (0, .fieldref 10 16), (0, .nameAndType 17 18), (0, u "coder"), (0, u "B"), (2, u "hash"), (0, u "I"), (2, u "hashIsZero"), (0, u "Z"), (0, .methodref 10 28), (0, .nameAndType 5 29), (0, u "([CIILjava/lang/Void;)V"), (8, .fieldref 10 39), (0, .nameAndType 40 26), (0, u "COMPACT_STRINGS"), (1, .class_ 44), (1, u "java/lang/StringUTF16"), (0, u "compress"), (1, .methodref 42 48), (0, .nameAndType 49 50), (0, u "coderFromArrayLen"), (0, u "([BI)B"), (56, .class_ 109), (1, u "java/lang/StringLatin1"), (32, u "()Z"), (34, .methodref 42 178), (0, .nameAndType 45 179), (0, u "([CII)[B"), (154, u "()I"), (0, .methodref 10 336), (0, .nameAndType 17 337), (0, u "()B"), (154, .methodref 10 493), (0, .nameAndType 494 142), (0, u "isLatin1"), (10, .methodref 10 506), (0, .nameAndType 507 334), (0, u "length"), (5, u "checkFromToIndex"), (9, u "checkBoundsBeginEnd"), (0, u "(III)V"), (50, .class_ 576), (0, u "java/lang/CharSequence"), (22, u "CASE_INSENSITIVE_ORDER"), (0, u "Ljava/util/Comparator;"), (32, .methodref 10 634), (0, .nameAndType 635 636), (0, u "indexOf"), (0, u "(II)I"), (0, .methodref 107 638), (0, .nameAndType 635 639), (0, u "([BIII)I"), (0, .methodref 42 638), (124, u "(I)I"), (244, u "([C)V"), (42, .fieldref 1054 1055), (0, .class_ 1056), (0, .nameAndType 1057 1058), (0, u "jdk/internal/util/Preconditions"), (0, u "SIOOBE_FORMATTER"), (0, u "Ljava/util/function/BiFunction;"), (3, .methodref 1054 1063), (0, .nameAndType 513 1064), (0, u "(IIILjava/util/function/BiFunction;)I"), (36, u "serialPersistentFields"), (0, u "[Ljava/io/ObjectStreamField;"), (0, .class_ 1104), (0, u "java/lang/String$CaseInsensitiveComparator"), (1, .class_ 1107), (0, u "java/io/Serializable"), (0, .class_ 1109), (0, u "java/lang/Comparable"), (0, .class_ 1111), (0, u "java/lang/constant/Constable"), (0, .class_ 1113), (0, u "java/lang/constant/ConstantDesc"), (2, u "serialVersionUID"), (0, u "J"), (3, u "REPL"), (0, u "C"), (2, u "LATIN1"), (1, u "UTF16")] 323

def k7m0 : Method := { name := "<init>", desc := "()V", sig := { parameters := [], returnType := none }, accessFlags := 1, code := none }
def k7c1 : Code := { maxStack := 5, maxLocals := 2, code := jdk_42_method_3_code, exceptionTable := #[], attributes := #[] }
def k7m1 : Method := { name := "<init>", desc := "([C)V", sig := { parameters := [(.array .char)], returnType := none }, accessFlags := 1, code := some k7c1 }
def k7c2 : Code := { maxStack := 2, maxLocals := 1, code := jdk_42_method_54_code, exceptionTable := #[], attributes := #[] }
def k7m2 : Method := { name := "length", desc := "()I", sig := { parameters := [], returnType := some .int }, accessFlags := 1, code := some k7c2 }
def k7c3 : Code := { maxStack := 3, maxLocals := 2, code := jdk_42_method_79_code, exceptionTable := #[], attributes := #[] }
def k7m3 : Method := { name := "indexOf", desc := "(I)I", sig := { parameters := [.int], returnType := some .int }, accessFlags := 1, code := some k7c3 }
def k7c4 : Code := { maxStack := 4, maxLocals := 3, code := jdk_42_method_80_code, exceptionTable := #[], attributes := #[] }
def k7m4 : Method := { name := "indexOf", desc := "(II)I", sig := { parameters := [.int, .int], returnType := some .int }, accessFlags := 1, code := some k7c4 }
def k7c5 : Code := { maxStack := 4, maxLocals := 6, code := jdk_42_method_149_code, exceptionTable := #[], attributes := #[] }
def k7m5 : Method := { name := "<init>", desc := "([CIILjava/lang/Void;)V", sig := { parameters := [(.array .char), .int, .int, (.object "java/lang/Void")], returnType := none }, accessFlags := 2, code := some k7c5 }
def k7c6 : Code := { maxStack := 1, maxLocals := 1, code := jdk_42_method_152_code, exceptionTable := #[], attributes := #[] }
def k7m6 : Method := { name := "coder", desc := "()B", sig := { parameters := [], returnType := some .byte }, accessFlags := 0, code := some k7c6 }
def k7c7 : Code := { maxStack := 1, maxLocals := 1, code := jdk_42_method_154_code, exceptionTable := #[], attributes := #[] }
def k7m7 : Method := { name := "isLatin1", desc := "()Z", sig := { parameters := [], returnType := some .boolean }, accessFlags := 0, code := some k7c7 }
def k7c8 : Code := { maxStack := 4, maxLocals := 3, code := jdk_42_method_158_code, exceptionTable := #[], attributes := #[] }
def k7m8 : Method := { name := "checkBoundsBeginEnd", desc := "(III)V", sig := { parameters := [.int, .int, .int], returnType := none }, accessFlags := 8, code := some k7c8 }
/-- java/lang/String -/
def k7 : Class := { plain "java/lang/String" (some 0) with
  accessFlags := 49
  interfaces := #[2, 3, 4, 5, 6]
  cf := some (fileOf pool7 10 #[.nestMembers #[1103]] #[{ accessFlags := 1, nameIndex := 5, descriptorIndex := 6, attributes := #[] }, { accessFlags := 1, nameIndex := 5, descriptorIndex := 1010, attributes := #[] }, { accessFlags := 1, nameIndex := 507, descriptorIndex := 334, attributes := #[] }, { accessFlags := 1, nameIndex := 635, descriptorIndex := 765, attributes := #[] }, { accessFlags := 1, nameIndex := 635, descriptorIndex := 636, attributes := #[] }, { accessFlags := 2, nameIndex := 5, descriptorIndex := 29, attributes := #[] }, { accessFlags := 0, nameIndex := 17, descriptorIndex := 337, attributes := #[] }, { accessFlags := 0, nameIndex := 494, descriptorIndex := 142, attributes := #[] }, { accessFlags := 8, nameIndex := 523, descriptorIndex := 524, attributes := #[] }] 49 2 #[1106, 1108, 575, 1110, 1112] #[{ accessFlags := 18, nameIndex := 13, descriptorIndex := 14, attributes := #[] }, { accessFlags := 18, nameIndex := 17, descriptorIndex := 18, attributes := #[] }, { accessFlags := 2, nameIndex := 21, descriptorIndex := 22, attributes := #[] }, { accessFlags := 2, nameIndex := 25, descriptorIndex := 26, attributes := #[] }, { accessFlags := 26, nameIndex := 1116, descriptorIndex := 1117, attributes := #[] }, { accessFlags := 24, nameIndex := 40, descriptorIndex := 26, attributes := #[] }, { accessFlags := 26, nameIndex := 1101, descriptorIndex := 1102, attributes := #[] }, { accessFlags := 26, nameIndex := 1121, descriptorIndex := 1122, attributes := #[] }, { accessFlags := 25, nameIndex := 599, descriptorIndex := 600, attributes := #[] }, { accessFlags := 24, nameIndex := 1125, descriptorIndex := 18, attributes := #[] }, { accessFlags := 24, nameIndex := 1127, descriptorIndex := 18, attributes := #[] }])
  fields := #[{ name := "value", type := (.array .byte), accessFlags := 18, slot := 0, constantValue := 0 }, { name := "coder", type := .byte, accessFlags := 18, slot := 1, constantValue := 0 }, { name := "hash", type := .int, accessFlags := 2, slot := 2, constantValue := 0 }, { name := "hashIsZero", type := .boolean, accessFlags := 2, slot := 3, constantValue := 0 }, { name := "serialVersionUID", type := .long, accessFlags := 26, slot := 0, constantValue := 0 }, { name := "COMPACT_STRINGS", type := .boolean, accessFlags := 24, slot := 1, constantValue := 0 }, { name := "serialPersistentFields", type := (.array (.object "java/io/ObjectStreamField")), accessFlags := 26, slot := 2, constantValue := 0 }, { name := "REPL", type := .char, accessFlags := 26, slot := 3, constantValue := 0 }, { name := "CASE_INSENSITIVE_ORDER", type := (.object "java/util/Comparator"), accessFlags := 25, slot := 4, constantValue := 0 }, { name := "LATIN1", type := .byte, accessFlags := 24, slot := 5, constantValue := 0 }, { name := "UTF16", type := .byte, accessFlags := 24, slot := 6, constantValue := 0 }]
  methods := #[k7m0, k7m1, k7m2, k7m3, k7m4, k7m5, k7m6, k7m7, k7m8]
  instanceTypes := #[(.array .byte), .byte, .int, .boolean]
  staticTypes := #[.long, .boolean, (.array (.object "java/io/ObjectStreamField")), .char, (.object "java/util/Comparator"), .byte, .byte]
  resolved := Array.replicate 1451 none
  statics := some 0 }

def pool8 : Array CpInfo := pool [(3, .class_ 4), (0, u "java/lang/String"), (1, .class_ 8), (1, u "java/lang/Object"), (0, u "<init>"), (0, u "()V"), (0, .methodref 12 13), (0, .class_ 14), (0, .nameAndType 15 16), (0, u "java/lang/StringUTF16"), (0, u "newBytesLength"), (0, u "(I)I"), (3, .integer 1073741823), (23, .fieldref 12 45), (0, .nameAndType 46 47), (0, u "$assertionsDisabled"), (0, u "Z"), (0, .methodref 12 49), (0, .nameAndType 50 51), (0, u "length"), (0, u "([B)I"), (7, .fieldref 12 60), (0, .nameAndType 61 62), (0, u "HI_BYTE_SHIFT"), (0, u "I"), (0, .fieldref 12 64), (0, .nameAndType 65 62), (0, u "LO_BYTE_SHIFT"), (5, .methodref 12 72), (0, .nameAndType 73 74), (0, u "getChar"), (0, u "([BI)C"), (21, .methodref 12 97), (0, .nameAndType 98 99), (0, u "checkBoundsBeginEnd"), (0, u "(II[B)V"), (7, .methodref 12 108), (0, .nameAndType 109 110), (0, u "newBytesFor"), (0, u "(I)[B"), (0, .methodref 12 112), (0, .nameAndType 113 114), (0, u "putChar"), (0, u "([BII)V"), (0, .methodref 12 116), (0, .nameAndType 117 118), (0, u "compress"), (0, u "([CI[BII)I"), (0, .methodref 12 120), (0, .nameAndType 121 122), (0, u "toBytes"), (0, u "([CII)[B"), (60, .methodref 184 185), (0, .class_ 186), (0, .nameAndType 187 188), (0, u "java/lang/Math"), (0, u "min"), (0, u "(II)I"), (35, .methodref 184 225), (0, .nameAndType 226 188), (0, u "max"), (0, .integer 65536), (0, .methodref 12 229), (0, .nameAndType 230 231), (0, u "indexOfChar"), (0, u "([BIII)I"), (9, .methodref 3 242), (0, .nameAndType 98 243), (0, u "(III)V"), (0, .methodref 12 245), (0, .nameAndType 246 231), (0, u "indexOfCharUnsafe"), (14, u "coderFromArrayLen"), (0, u "([BI)B"), (5, u "indexOf"), (100, .class_ 371), (1, u "java/lang/StringUTF16$LinesSpliterator"), (58, u "MAX_LENGTH"), (196, .class_ 628), (0, u "java/lang/StringUTF16$CodePointsSpliterator"), (0, .class_ 630), (0, u "java/lang/StringUTF16$CharsSpliterator")] 4

def k8m0 : Method := { name := "<init>", desc := "()V", sig := { parameters := [], returnType := none }, accessFlags := 0, code := none }
def k8c1 : Code := { maxStack := 1, maxLocals := 1, code := jdk_52_method_2_code, exceptionTable := #[], attributes := #[] }
def k8m1 : Method := { name := "newBytesFor", desc := "(I)[B", sig := { parameters := [.int], returnType := some (.array .byte) }, accessFlags := 9, code := some k8c1 }
def k8c2 : Code := { maxStack := 4, maxLocals := 1, code := jdk_52_method_3_code, exceptionTable := #[], attributes := #[] }
def k8m2 : Method := { name := "newBytesLength", desc := "(I)I", sig := { parameters := [.int], returnType := some .int }, accessFlags := 9, code := some k8c2 }
def k8c3 : Code := { maxStack := 4, maxLocals := 3, code := jdk_52_method_4_code, exceptionTable := #[], attributes := #[] }
def k8m3 : Method := { name := "putChar", desc := "([BII)V", sig := { parameters := [(.array .byte), .int, .int], returnType := none }, accessFlags := 8, code := some k8c3 }
def k8c4 : Code := { maxStack := 3, maxLocals := 2, code := jdk_52_method_5_code, exceptionTable := #[], attributes := #[] }
def k8m4 : Method := { name := "getChar", desc := "([BI)C", sig := { parameters := [(.array .byte), .int], returnType := some .char }, accessFlags := 8, code := some k8c4 }
def k8c5 : Code := { maxStack := 2, maxLocals := 1, code := jdk_52_method_6_code, exceptionTable := #[], attributes := #[] }
def k8m5 : Method := { name := "length", desc := "([B)I", sig := { parameters := [(.array .byte)], returnType := some .int }, accessFlags := 9, code := some k8c5 }
def k8c6 : Code := { maxStack := 4, maxLocals := 5, code := jdk_52_method_14_code, exceptionTable := #[], attributes := #[] }
def k8m6 : Method := { name := "toBytes", desc := "([CII)[B", sig := { parameters := [(.array .char), .int, .int], returnType := some (.array .byte) }, accessFlags := 9, code := some k8c6 }
def k8c7 : Code := { maxStack := 2, maxLocals := 2, code := jdk_52_method_15_code, exceptionTable := #[], attributes := #[] }
def k8m7 : Method := { name := "coderFromArrayLen", desc := "([BI)B", sig := { parameters := [(.array .byte), .int], returnType := some .byte }, accessFlags := 8, code := some k8c7 }
def k8c8 : Code := { maxStack := 5, maxLocals := 6, code := jdk_52_method_16_code, exceptionTable := #[], attributes := #[] }
def k8m8 : Method := { name := "compress", desc := "([CII)[B", sig := { parameters := [(.array .char), .int, .int], returnType := some (.array .byte) }, accessFlags := 9, code := some k8c8 }
def k8c9 : Code := { maxStack := 3, maxLocals := 7, code := jdk_52_method_21_code, exceptionTable := #[], attributes := #[] }
def k8m9 : Method := { name := "compress", desc := "([CI[BII)I", sig := { parameters := [(.array .char), .int, (.array .byte), .int, .int], returnType := some .int }, accessFlags := 9, code := some k8c9 }
def k8c10 : Code := { maxStack := 4, maxLocals := 4, code := jdk_52_method_40_code, exceptionTable := #[], attributes := #[] }
def k8m10 : Method := { name := "indexOf", desc := "([BIII)I", sig := { parameters := [(.array .byte), .int, .int, .int], returnType := some .int }, accessFlags := 9, code := some k8c10 }
def k8c11 : Code := { maxStack := 4, maxLocals := 4, code := jdk_52_method_47_code, exceptionTable := #[], attributes := #[] }
def k8m11 : Method := { name := "indexOfChar", desc := "([BIII)I", sig := { parameters := [(.array .byte), .int, .int, .int], returnType := some .int }, accessFlags := 10, code := some k8c11 }
def k8c12 : Code := { maxStack := 2, maxLocals := 5, code := jdk_52_method_48_code, exceptionTable := #[], attributes := #[] }
def k8m12 : Method := { name := "indexOfCharUnsafe", desc := "([BIII)I", sig := { parameters := [(.array .byte), .int, .int, .int], returnType := some .int }, accessFlags := 10, code := some k8c12 }
def k8c13 : Code := { maxStack := 3, maxLocals := 3, code := jdk_52_method_93_code, exceptionTable := #[], attributes := #[] }
def k8m13 : Method := { name := "checkBoundsBeginEnd", desc := "(II[B)V", sig := { parameters := [.int, .int, (.array .byte)], returnType := none }, accessFlags := 9, code := some k8c13 }
/-- java/lang/StringUTF16 -/
def k8 : Class := { plain "java/lang/StringUTF16" (some 0) with
  accessFlags := 48
  interfaces := #[]
  cf := some (fileOf pool8 12 #[.nestMembers #[627, 629, 369]] #[{ accessFlags := 0, nameIndex := 9, descriptorIndex := 10, attributes := #[] }, { accessFlags := 9, nameIndex := 109, descriptorIndex := 110, attributes := #[] }, { accessFlags := 9, nameIndex := 15, descriptorIndex := 16, attributes := #[] }, { accessFlags := 8, nameIndex := 113, descriptorIndex := 114, attributes := #[] }, { accessFlags := 8, nameIndex := 73, descriptorIndex := 74, attributes := #[] }, { accessFlags := 9, nameIndex := 50, descriptorIndex := 51, attributes := #[] }, { accessFlags := 9, nameIndex := 121, descriptorIndex := 122, attributes := #[] }, { accessFlags := 8, nameIndex := 261, descriptorIndex := 262, attributes := #[] }, { accessFlags := 9, nameIndex := 117, descriptorIndex := 122, attributes := #[] }, { accessFlags := 9, nameIndex := 117, descriptorIndex := 118, attributes := #[] }, { accessFlags := 9, nameIndex := 268, descriptorIndex := 231, attributes := #[] }, { accessFlags := 10, nameIndex := 230, descriptorIndex := 231, attributes := #[] }, { accessFlags := 10, nameIndex := 246, descriptorIndex := 231, attributes := #[] }, { accessFlags := 9, nameIndex := 98, descriptorIndex := 99, attributes := #[] }] 48 6 #[] #[{ accessFlags := 26, nameIndex := 61, descriptorIndex := 62, attributes := #[] }, { accessFlags := 26, nameIndex := 65, descriptorIndex := 62, attributes := #[] }, { accessFlags := 24, nameIndex := 430, descriptorIndex := 62, attributes := #[] }, { accessFlags := 4120, nameIndex := 46, descriptorIndex := 47, attributes := #[] }])
  fields := #[{ name := "HI_BYTE_SHIFT", type := .int, accessFlags := 26, slot := 0, constantValue := 0 }, { name := "LO_BYTE_SHIFT", type := .int, accessFlags := 26, slot := 1, constantValue := 0 }, { name := "MAX_LENGTH", type := .int, accessFlags := 24, slot := 2, constantValue := 0 }, { name := "$assertionsDisabled", type := .boolean, accessFlags := 4120, slot := 3, constantValue := 0 }]
  methods := #[k8m0, k8m1, k8m2, k8m3, k8m4, k8m5, k8m6, k8m7, k8m8, k8m9, k8m10, k8m11, k8m12, k8m13]
  instanceTypes := #[]
  staticTypes := #[.int, .int, .int, .boolean]
  resolved := Array.replicate 635 none
  statics := some 1 }

def pool9 : Array CpInfo := pool [(2, .class_ 4), (1, u "java/lang/Object"), (0, u "<init>"), (0, u "()V"), (0, .class_ 8), (0, u "java/lang/Record")] 13

def k9m0 : Method := { name := "<init>", desc := "()V", sig := { parameters := [], returnType := none }, accessFlags := 4, code := none }
/-- java/lang/Record -/
def k9 : Class := { plain "java/lang/Record" (some 0) with
  accessFlags := 1057
  interfaces := #[]
  cf := some (fileOf pool9 7 #[] #[{ accessFlags := 4, nameIndex := 5, descriptorIndex := 6, attributes := #[] }] 1057 2 #[] #[])
  fields := #[]
  methods := #[k9m0]
  instanceTypes := #[]
  staticTypes := #[]
  resolved := Array.replicate 22 none
  statics := none }

def pool10 : Array CpInfo := pool [(1, .class_ 2), (0, u "com/example/lucid_index/lucidindex/core/Condition$And"), (10, .class_ 14), (0, u "com/example/lucid_index/lucidindex/core/Condition$Declared"), (20, .class_ 37), (1, u "java/lang/Object"), (17, .class_ 56), (0, u "com/example/lucid_index/lucidindex/core/Condition"), (14, .class_ 72), (0, u "com/example/lucid_index/lucidindex/core/Condition$Or"), (0, .class_ 74), (0, u "com/example/lucid_index/lucidindex/core/Condition$Not"), (0, .class_ 76), (0, u "com/example/lucid_index/lucidindex/core/Condition$InBoxAround"), (0, .class_ 78), (0, u "com/example/lucid_index/lucidindex/core/Condition$InBox"), (0, .class_ 80), (0, u "com/example/lucid_index/lucidindex/core/Condition$InCircle"), (0, .class_ 82), (0, u "com/example/lucid_index/lucidindex/core/Condition$Wildcard"), (0, .class_ 84), (0, u "com/example/lucid_index/lucidindex/core/Condition$Substring"), (0, .class_ 86), (0, u "com/example/lucid_index/lucidindex/core/Condition$Substring$Position"), (0, .class_ 88), (0, u "com/example/lucid_index/lucidindex/core/Condition$In"), (0, .class_ 90), (0, u "com/example/lucid_index/lucidindex/core/Condition$Exists"), (0, .class_ 92), (0, u "com/example/lucid_index/lucidindex/core/Condition$Range"), (0, .class_ 94), (0, u "com/example/lucid_index/lucidindex/core/Condition$Equals")] 32

/-- com/example/lucid_index/lucidindex/core/Condition -/
def k10 : Class := { plain "com/example/lucid_index/lucidindex/core/Condition" (some 0) with
  accessFlags := 1537
  interfaces := #[]
  cf := some (fileOf pool10 55 #[.nestMembers #[13, 71, 1, 73, 75, 77, 79, 81, 83, 85, 87, 89, 91, 93]] #[] 1537 35 #[] #[])
  fields := #[]
  methods := #[]
  instanceTypes := #[]
  staticTypes := #[]
  resolved := Array.replicate 127 none
  statics := none }

def pool11 : Array CpInfo := pool [(2, .class_ 4), (1, u "java/lang/Record"), (3, u "field"), (7, .class_ 18), (1, u "com/example/lucid_index/lucidindex/core/Condition$Wildcard"), (0, u "isPattern"), (0, u "(Ljava/lang/String;)Z"), (11, u "Ljava/lang/String;"), (2, u "pattern"), (0, .methodref 37 38), (0, .class_ 39), (0, .nameAndType 40 41), (0, u "java/lang/String"), (0, u "indexOf"), (0, u "(I)I"), (12, .class_ 55), (0, u "com/example/lucid_index/lucidindex/core/Condition")] 39

def k11c0 : Code := { maxStack := 2, maxLocals := 1, code := prog_15_method_2_code, exceptionTable := #[], attributes := #[] }
def k11m0 : Method := { name := "isPattern", desc := "(Ljava/lang/String;)Z", sig := { parameters := [(.object "java/lang/String")], returnType := some .boolean }, accessFlags := 9, code := some k11c0 }
/-- com/example/lucid_index/lucidindex/core/Condition$Wildcard -/
def k11 : Class := { plain "com/example/lucid_index/lucidindex/core/Condition$Wildcard" (some 9) with
  accessFlags := 49
  interfaces := #[10]
  cf := some (fileOf pool11 16 #[.nestHost 54] #[{ accessFlags := 9, nameIndex := 19, descriptorIndex := 20, attributes := #[] }] 49 2 #[54] #[{ accessFlags := 18, nameIndex := 8, descriptorIndex := 32, attributes := #[] }, { accessFlags := 18, nameIndex := 35, descriptorIndex := 32, attributes := #[] }])
  fields := #[{ name := "field", type := (.object "java/lang/String"), accessFlags := 18, slot := 0, constantValue := 0 }, { name := "pattern", type := (.object "java/lang/String"), accessFlags := 18, slot := 1, constantValue := 0 }]
  methods := #[k11m0]
  instanceTypes := #[(.object "java/lang/String"), (.object "java/lang/String")]
  staticTypes := #[]
  resolved := Array.replicate 95 none
  statics := none }

def pool12 : Array CpInfo := pool [(4, .class_ 6), (1, u "java/lang/Object"), (0, u "<init>"), (0, u "()V"), (5, .class_ 16), (1, u "java/lang/StringLatin1"), (21, .methodref 39 40), (0, .class_ 41), (0, .nameAndType 42 43), (0, u "java/lang/Math"), (0, u "min"), (0, u "(II)I"), (44, .methodref 14 89), (0, .nameAndType 90 91), (0, u "canEncode"), (0, u "(I)Z"), (0, .methodref 39 93), (0, .nameAndType 94 43), (0, u "max"), (0, .methodref 14 96), (0, .nameAndType 97 98), (0, u "indexOfChar"), (0, u "([BIII)I"), (2, u "indexOf"), (19, u "$assertionsDisabled"), (0, u "Z"), (98, .class_ 223), (1, u "java/lang/StringLatin1$LinesSpliterator"), (166, .class_ 391), (0, u "java/lang/StringLatin1$CharsSpliterator")] 3

def k12m0 : Method := { name := "<init>", desc := "()V", sig := { parameters := [], returnType := none }, accessFlags := 0, code := none }
def k12c1 : Code := { maxStack := 2, maxLocals := 1, code := jdk_43_method_4_code, exceptionTable := #[], attributes := #[] }
def k12m1 : Method := { name := "canEncode", desc := "(I)Z", sig := { parameters := [.int], returnType := some .boolean }, accessFlags := 9, code := some k12c1 }
def k12c2 : Code := { maxStack := 4, maxLocals := 4, code := jdk_43_method_22_code, exceptionTable := #[], attributes := #[] }
def k12m2 : Method := { name := "indexOf", desc := "([BIII)I", sig := { parameters := [(.array .byte), .int, .int, .int], returnType := some .int }, accessFlags := 9, code := some k12c2 }
def k12c3 : Code := { maxStack := 2, maxLocals := 6, code := jdk_43_method_23_code, exceptionTable := #[], attributes := #[] }
def k12m3 : Method := { name := "indexOfChar", desc := "([BIII)I", sig := { parameters := [(.array .byte), .int, .int, .int], returnType := some .int }, accessFlags := 10, code := some k12c3 }
/-- java/lang/StringLatin1 -/
def k12 : Class := { plain "java/lang/StringLatin1" (some 0) with
  accessFlags := 48
  interfaces := #[]
  cf := some (fileOf pool12 14 #[.nestMembers #[390, 221]] #[{ accessFlags := 0, nameIndex := 7, descriptorIndex := 8, attributes := #[] }, { accessFlags := 9, nameIndex := 90, descriptorIndex := 91, attributes := #[] }, { accessFlags := 9, nameIndex := 101, descriptorIndex := 98, attributes := #[] }, { accessFlags := 10, nameIndex := 97, descriptorIndex := 98, attributes := #[] }] 48 4 #[] #[{ accessFlags := 4120, nameIndex := 121, descriptorIndex := 122, attributes := #[] }])
  fields := #[{ name := "$assertionsDisabled", type := .boolean, accessFlags := 4120, slot := 0, constantValue := 0 }]
  methods := #[k12m0, k12m1, k12m2, k12m3]
  instanceTypes := #[]
  staticTypes := #[.boolean]
  resolved := Array.replicate 395 none
  statics := none }

def pool13 : Array CpInfo := pool [(1, .class_ 2), (0, u "java/lang/Math"), (1, .class_ 6), (1, u "java/lang/Object"), (0, u "<init>"), (0, u "()V"), (89, .class_ 100), (1, u "java/lang/Math$RandomNumberGeneratorHolder"), (71, u "negativeZeroFloatBits"), (0, u "J"), (2, u "negativeZeroDoubleBits"), (21, u "max"), (2, u "min"), (43, u "$assertionsDisabled"), (0, u "Z"), (88, u "(II)I"), (2, u "twoToTheDoubleScaleDown"), (0, u "D"), (4, u "twoToTheDoubleScaleUp"), (9, u "E"), (3, u "PI"), (2, u "TAU"), (2, u "DEGREES_TO_RADIANS"), (0, u "RADIANS_TO_DEGREES")] 94

def k13m0 : Method := { name := "<init>", desc := "()V", sig := { parameters := [], returnType := none }, accessFlags := 2, code := none }
def k13c1 : Code := { maxStack := 2, maxLocals := 2, code := jdk_29_method_65_code, exceptionTable := #[], attributes := #[] }
def k13m1 : Method := { name := "max", desc := "(II)I", sig := { parameters := [.int, .int], returnType := some .int }, accessFlags := 9, code := some k13c1 }
def k13c2 : Code := { maxStack := 2, maxLocals := 2, code := jdk_29_method_69_code, exceptionTable := #[], attributes := #[] }
def k13m2 : Method := { name := "min", desc := "(II)I", sig := { parameters := [.int, .int], returnType := some .int }, accessFlags := 9, code := some k13c2 }
/-- java/lang/Math -/
def k13 : Class := { plain "java/lang/Math" (some 0) with
  accessFlags := 49
  interfaces := #[]
  cf := some (fileOf pool13 1 #[.nestMembers #[98]] #[{ accessFlags := 2, nameIndex := 7, descriptorIndex := 8, attributes := #[] }, { accessFlags := 9, nameIndex := 198, descriptorIndex := 335, attributes := #[] }, { accessFlags := 9, nameIndex := 201, descriptorIndex := 335, attributes := #[] }] 49 4 #[] #[{ accessFlags := 25, nameIndex := 354, descriptorIndex := 339, attributes := #[] }, { accessFlags := 25, nameIndex := 358, descriptorIndex := 339, attributes := #[] }, { accessFlags := 25, nameIndex := 361, descriptorIndex := 339, attributes := #[] }, { accessFlags := 26, nameIndex := 364, descriptorIndex := 339, attributes := #[] }, { accessFlags := 26, nameIndex := 365, descriptorIndex := 339, attributes := #[] }, { accessFlags := 26, nameIndex := 172, descriptorIndex := 173, attributes := #[] }, { accessFlags := 26, nameIndex := 176, descriptorIndex := 173, attributes := #[] }, { accessFlags := 8, nameIndex := 344, descriptorIndex := 339, attributes := #[] }, { accessFlags := 8, nameIndex := 338, descriptorIndex := 339, attributes := #[] }, { accessFlags := 4120, nameIndex := 245, descriptorIndex := 246, attributes := #[] }])
  fields := #[{ name := "E", type := .double, accessFlags := 25, slot := 0, constantValue := 0 }, { name := "PI", type := .double, accessFlags := 25, slot := 1, constantValue := 0 }, { name := "TAU", type := .double, accessFlags := 25, slot := 2, constantValue := 0 }, { name := "DEGREES_TO_RADIANS", type := .double, accessFlags := 26, slot := 3, constantValue := 0 }, { name := "RADIANS_TO_DEGREES", type := .double, accessFlags := 26, slot := 4, constantValue := 0 }, { name := "negativeZeroFloatBits", type := .long, accessFlags := 26, slot := 5, constantValue := 0 }, { name := "negativeZeroDoubleBits", type := .long, accessFlags := 26, slot := 6, constantValue := 0 }, { name := "twoToTheDoubleScaleUp", type := .double, accessFlags := 8, slot := 7, constantValue := 0 }, { name := "twoToTheDoubleScaleDown", type := .double, accessFlags := 8, slot := 8, constantValue := 0 }, { name := "$assertionsDisabled", type := .boolean, accessFlags := 4120, slot := 9, constantValue := 0 }]
  methods := #[k13m0, k13m1, k13m2]
  instanceTypes := #[]
  staticTypes := #[.double, .double, .double, .double, .double, .long, .long, .double, .double, .boolean]
  resolved := Array.replicate 460 none
  statics := none }

def pool14 : Array CpInfo := pool [(2, .class_ 4), (1, u "java/lang/Object"), (0, u "<init>"), (0, u "()V"), (17, .class_ 26), (1, u "jdk/internal/util/Preconditions"), (20, u "checkFromToIndex"), (7, .class_ 56), (0, u "jdk/internal/util/Preconditions$4"), (57, .class_ 115), (0, u "jdk/internal/util/Preconditions$1"), (7, u "SIOOBE_FORMATTER"), (0, u "Ljava/util/function/BiFunction;"), (0, .class_ 126), (0, u "jdk/internal/util/Preconditions$2"), (3, u "AIOOBE_FORMATTER"), (0, .class_ 132), (0, u "jdk/internal/util/Preconditions$3"), (3, u "IOOBE_FORMATTER"), (46, u "(IIILjava/util/function/BiFunction;)I")] 10

def k14m0 : Method := { name := "<init>", desc := "()V", sig := { parameters := [], returnType := none }, accessFlags := 1, code := none }
def k14c1 : Code := { maxStack := 4, maxLocals := 4, code := jdk_41_method_12_code, exceptionTable := #[], attributes := #[] }
def k14m1 : Method := { name := "checkFromToIndex", desc := "(IIILjava/util/function/BiFunction;)I", sig := { parameters := [.int, .int, .int, (.object "java/util/function/BiFunction")], returnType := some .int }, accessFlags := 9, code := some k14c1 }
/-- jdk/internal/util/Preconditions -/
def k14 : Class := { plain "jdk/internal/util/Preconditions" (some 0) with
  accessFlags := 33
  interfaces := #[]
  cf := some (fileOf pool14 24 #[.nestMembers #[55, 131, 125, 114]] #[{ accessFlags := 1, nameIndex := 5, descriptorIndex := 6, attributes := #[] }, { accessFlags := 9, nameIndex := 47, descriptorIndex := 183, attributes := #[] }] 33 2 #[] #[{ accessFlags := 25, nameIndex := 123, descriptorIndex := 124, attributes := #[] }, { accessFlags := 25, nameIndex := 130, descriptorIndex := 124, attributes := #[] }, { accessFlags := 25, nameIndex := 136, descriptorIndex := 124, attributes := #[] }])
  fields := #[{ name := "SIOOBE_FORMATTER", type := (.object "java/util/function/BiFunction"), accessFlags := 25, slot := 0, constantValue := 0 }, { name := "AIOOBE_FORMATTER", type := (.object "java/util/function/BiFunction"), accessFlags := 25, slot := 1, constantValue := 0 }, { name := "IOOBE_FORMATTER", type := (.object "java/util/function/BiFunction"), accessFlags := 25, slot := 2, constantValue := 0 }]
  methods := #[k14m0, k14m1]
  instanceTypes := #[]
  staticTypes := #[(.object "java/util/function/BiFunction"), (.object "java/util/function/BiFunction"), (.object "java/util/function/BiFunction")]
  resolved := Array.replicate 194 none
  statics := some 2 }

def pool15 : Array CpInfo := pool [(9, u "<init>"), (6, .class_ 18), (1, u "java/lang/Object"), (0, u "()V"), (1, .class_ 23), (1, u "jdk/internal/util/ArraysSupport"), (0, u "LOG2_ARRAY_LONG_INDEX_SCALE"), (0, u "I"), (2, u "U"), (0, u "Ljdk/internal/misc/Unsafe;"), (8, u "BIG_ENDIAN"), (0, u "Z"), (8, u "LOG2_BYTE_BIT_SIZE"), (4, u "LOG2_ARRAY_INT_INDEX_SCALE"), (54, u "JLA"), (0, u "Ljdk/internal/access/JavaLangAccess;"), (11, u "LOG2_ARRAY_BOOLEAN_INDEX_SCALE"), (9, u "LOG2_ARRAY_BYTE_INDEX_SCALE"), (5, u "LOG2_ARRAY_CHAR_INDEX_SCALE"), (5, u "LOG2_ARRAY_SHORT_INDEX_SCALE"), (18, u "LOG2_ARRAY_FLOAT_INDEX_SCALE"), (24, u "LOG2_ARRAY_DOUBLE_INDEX_SCALE"), (89, u "T_BOOLEAN"), (2, u "T_CHAR"), (1, u "T_FLOAT"), (1, u "T_DOUBLE"), (1, u "T_BYTE"), (1, u "T_SHORT"), (1, u "T_INT"), (1, u "T_LONG"), (1, u "SOFT_MAX_ARRAY_LENGTH")] 83

def k15m0 : Method := { name := "<init>", desc := "()V", sig := { parameters := [], returnType := none }, accessFlags := 2, code := none }
/-- jdk/internal/util/ArraysSupport -/
def k15 : Class := { plain "jdk/internal/util/ArraysSupport" (some 0) with
  accessFlags := 33
  interfaces := #[]
  cf := some (fileOf pool15 21 #[] #[{ accessFlags := 2, nameIndex := 9, descriptorIndex := 19, attributes := #[] }] 33 16 #[] #[{ accessFlags := 24, nameIndex := 28, descriptorIndex := 29, attributes := #[] }, { accessFlags := 26, nameIndex := 38, descriptorIndex := 39, attributes := #[] }, { accessFlags := 25, nameIndex := 121, descriptorIndex := 25, attributes := #[] }, { accessFlags := 25, nameIndex := 131, descriptorIndex := 25, attributes := #[] }, { accessFlags := 25, nameIndex := 137, descriptorIndex := 25, attributes := #[] }, { accessFlags := 25, nameIndex := 143, descriptorIndex := 25, attributes := #[] }, { accessFlags := 25, nameIndex := 53, descriptorIndex := 25, attributes := #[] }, { accessFlags := 25, nameIndex := 24, descriptorIndex := 25, attributes := #[] }, { accessFlags := 25, nameIndex := 162, descriptorIndex := 25, attributes := #[] }, { accessFlags := 25, nameIndex := 187, descriptorIndex := 25, attributes := #[] }, { accessFlags := 26, nameIndex := 48, descriptorIndex := 25, attributes := #[] }, { accessFlags := 25, nameIndex := 277, descriptorIndex := 25, attributes := #[] }, { accessFlags := 25, nameIndex := 280, descriptorIndex := 25, attributes := #[] }, { accessFlags := 25, nameIndex := 282, descriptorIndex := 25, attributes := #[] }, { accessFlags := 25, nameIndex := 284, descriptorIndex := 25, attributes := #[] }, { accessFlags := 25, nameIndex := 286, descriptorIndex := 25, attributes := #[] }, { accessFlags := 25, nameIndex := 288, descriptorIndex := 25, attributes := #[] }, { accessFlags := 25, nameIndex := 290, descriptorIndex := 25, attributes := #[] }, { accessFlags := 25, nameIndex := 292, descriptorIndex := 25, attributes := #[] }, { accessFlags := 26, nameIndex := 108, descriptorIndex := 109, attributes := #[] }, { accessFlags := 25, nameIndex := 294, descriptorIndex := 25, attributes := #[] }])
  fields := #[{ name := "U", type := (.object "jdk/internal/misc/Unsafe"), accessFlags := 24, slot := 0, constantValue := 0 }, { name := "BIG_ENDIAN", type := .boolean, accessFlags := 26, slot := 1, constantValue := 0 }, { name := "LOG2_ARRAY_BOOLEAN_INDEX_SCALE", type := .int, accessFlags := 25, slot := 2, constantValue := 0 }, { name := "LOG2_ARRAY_BYTE_INDEX_SCALE", type := .int, accessFlags := 25, slot := 3, constantValue := 0 }, { name := "LOG2_ARRAY_CHAR_INDEX_SCALE", type := .int, accessFlags := 25, slot := 4, constantValue := 0 }, { name := "LOG2_ARRAY_SHORT_INDEX_SCALE", type := .int, accessFlags := 25, slot := 5, constantValue := 0 }, { name := "LOG2_ARRAY_INT_INDEX_SCALE", type := .int, accessFlags := 25, slot := 6, constantValue := 0 }, { name := "LOG2_ARRAY_LONG_INDEX_SCALE", type := .int, accessFlags := 25, slot := 7, constantValue := 0 }, { name := "LOG2_ARRAY_FLOAT_INDEX_SCALE", type := .int, accessFlags := 25, slot := 8, constantValue := 0 }, { name := "LOG2_ARRAY_DOUBLE_INDEX_SCALE", type := .int, accessFlags := 25, slot := 9, constantValue := 0 }, { name := "LOG2_BYTE_BIT_SIZE", type := .int, accessFlags := 26, slot := 10, constantValue := 0 }, { name := "T_BOOLEAN", type := .int, accessFlags := 25, slot := 11, constantValue := 0 }, { name := "T_CHAR", type := .int, accessFlags := 25, slot := 12, constantValue := 0 }, { name := "T_FLOAT", type := .int, accessFlags := 25, slot := 13, constantValue := 0 }, { name := "T_DOUBLE", type := .int, accessFlags := 25, slot := 14, constantValue := 0 }, { name := "T_BYTE", type := .int, accessFlags := 25, slot := 15, constantValue := 0 }, { name := "T_SHORT", type := .int, accessFlags := 25, slot := 16, constantValue := 0 }, { name := "T_INT", type := .int, accessFlags := 25, slot := 17, constantValue := 0 }, { name := "T_LONG", type := .int, accessFlags := 25, slot := 18, constantValue := 0 }, { name := "JLA", type := (.object "jdk/internal/access/JavaLangAccess"), accessFlags := 26, slot := 19, constantValue := 0 }, { name := "SOFT_MAX_ARRAY_LENGTH", type := .int, accessFlags := 25, slot := 20, constantValue := 0 }]
  methods := #[k15m0]
  instanceTypes := #[]
  staticTypes := #[(.object "jdk/internal/misc/Unsafe"), .boolean, .int, .int, .int, .int, .int, .int, .int, .int, .int, .int, .int, .int, .int, .int, .int, .int, .int, (.object "jdk/internal/access/JavaLangAccess"), .int]
  resolved := Array.replicate 378 none
  statics := none }

def pool16 : Array CpInfo := pool [(1, u "java/lang/Cloneable"), (0, .class_ 1), (0, u "java/lang/Object"), (0, .class_ 3)] 3

/-- java/lang/Cloneable -/
def k16 : Class := { plain "java/lang/Cloneable" (some 0) with
  accessFlags := 1537
  interfaces := #[]
  cf := some (fileOf pool16 2 #[] #[] 1537 4 #[] #[])
  fields := #[]
  methods := #[]
  instanceTypes := #[]
  staticTypes := #[]
  resolved := Array.replicate 8 none
  statics := none }

/-- the primitive byte -/
def k17 : Class := { plain "byte" none with kind := .primitive 'B', accessFlags := 0x411 }
/-- [B -/
def k18 : Class := { plain "[B" (some 0) with kind := .array 17 .byte, interfaces := #[16, 2], accessFlags := 1041 }

/-- the primitive char -/
def k19 : Class := { plain "char" none with kind := .primitive 'C', accessFlags := 0x411 }
/-- [C -/
def k20 : Class := { plain "[C" (some 0) with kind := .array 19 .char, interfaces := #[16, 2], accessFlags := 1041 }

/-- the primitive int -/
def k21 : Class := { plain "int" none with kind := .primitive 'I', accessFlags := 0x411 }
/-- [I -/
def k22 : Class := { plain "[I" (some 0) with kind := .array 21 .int, interfaces := #[16, 2], accessFlags := 1041 }

def heap : Heap := #[{ cls := 7, slots := #[.long 0, .int 1, .null, .int 0, .null, .int 0, .int 0], vm := .statics 7 },
  { cls := 8, slots := #[.int 0, .int 8, .int 0, .int 1], vm := .statics 8 },
  { cls := 14, slots := #[.null, .null, .null], vm := .statics 14 }]
def classes : Array Class := #[k0, k1, k2, k3, k4, k5, k6, k7, k8, k9, k10, k11, k12, k13, k14, k15, k16, k17, k18, k19, k20, k21, k22]
def interned : List (Array UInt16 × Addr) := []
def slotsUsed : Nat := 14
def theMethod : MethodId := ⟨1, 1⟩
def args0 : Array Value := #[.int 0, .int 1, .int 2, .int 3]
def aboutOver (below : List Frame) : State where
  vm := { classes := classes, interned := interned.toArray }
  heap := heap
  slotsUsed := slotsUsed
  threads := #[{ frames := .invoking theMethod args0 :: below }]
def below0 : List Frame := [.native { method := ⟨0, 0⟩, args := #[] }]
def about1 : State := aboutOver below0
def p0 : Program := .bare "" "" ""
def e0 : Env := launch0.env 0 0 0
theorem w_frames : about1.frames = Frame.invoking theMethod args0 :: below0 := rfl
set_option maxRecDepth 65536 in
theorem w_args : argsFit about1.vm theMethod args0 = true := by decide +kernel
set_option maxRecDepth 65536 in
theorem w_heap : heapFits about1 = true := by decide +kernel
set_option maxRecDepth 65536 in
theorem w_runnable : about1.curStatus? = some .runnable := by decide +kernel
set_option maxRecDepth 65536 in
theorem w_alone : about1.alone = true := by decide +kernel
set_option maxRecDepth 65536 in
theorem w_named : about1.methodNamed? x = some theMethod := by decide +kernel
set_option maxRecDepth 65536 in
theorem w_hears : about1.hears theMethod below0 = true := by decide +kernel
set_option maxRecDepth 65536 in
theorem w_ripe : about1.ripe theMethod args0 below0 = true := by decide +kernel
theorem w_running : about1.status = .running := rfl
set_option maxRecDepth 65536 in
theorem w_room : about1.hasRoom e0.platform room_1 = true :=
  launch0.hasRoom_least _ room_1 (by decide +kernel) (by decide +kernel) (by decide +kernel) (by decide +kernel) (by decide +kernel) (by decide +kernel)
theorem allAtoms_all (ts : List Jvm.Cond) (a : Array Jvm.Value) (st : Jvm.State) : (allAtoms ts).before a st = ts.all (fun c => c.before a st) := by
  induction ts with
  | nil => rfl
  | cons c t ih =>
    show (Jvm.Cond.and c (allAtoms t)).before a st = _
    rw [Jvm.Cond.before_and, ih, List.all_cons]
def words1 : List Jvm.Cond := Jvm.Cond.code x code maxLocals ret :: tables_1
/-- a 'code' word, met by the world's own term for the bytes: nothing is compared byte by byte -/
theorem code_word {y : MethodName} {bytes : ByteArray} {mx : Nat} {rt : Option FieldType} {a : Array Value} {s : State} {m : MethodId} {meth : Method} {c : Code} (h1 : s.methodNamed? y = some m) (h2 : s.vm.method? m = some meth) (h3 : meth.code = some c) (h4 : c.code = bytes)
    (h5 : (c.maxLocals == mx && c.exceptionTable.isEmpty && decide (c.maxStack ≤ mostOperands) && decide (meth.sig.returnType = rt) && !meth.locks && decide (parseMethodDescriptor y.desc = some meth.sig)) = true) : (Jvm.Cond.code y bytes mx rt).before a s = true := by
  simp only [Bool.and_eq_true, beq_iff_eq, Bool.not_eq_true', decide_eq_true_eq] at h5
  obtain ⟨⟨⟨⟨⟨g1, g2⟩, g3⟩, g4⟩, g5⟩, g6⟩ := h5
  simp [Cond.before, Cond.holds, Cond.value, h1, h2, h3, h4, g1, g2, g3, g4, g5, g6]
def isCode : Jvm.Cond → Bool
  | .code _ _ _ _ => true
  | _ => false
theorem all_split {L : List Jvm.Cond} {P : Jvm.Cond → Bool} (h1 : L.all (fun c => isCode c || P c) = true) (h2 : ∀ c ∈ L.filter isCode, P c = true) : L.all P = true := by
  refine List.all_eq_true.mpr fun c hc => ?_
  have h := List.all_eq_true.mp h1 c hc
  rcases Bool.eq_false_or_eq_true (isCode c) with hi | hi
  · exact h2 c (List.mem_filter.mpr ⟨hc, hi⟩)
  · simpa [hi] using h
set_option maxRecDepth 65536 in
theorem w_c0 : (Jvm.Cond.code x code maxLocals ret).before args0 about1 = true := code_word (m := ⟨1, 1⟩) (meth := k1m1) (c := k1c1) (by decide +kernel) rfl rfl rfl (by decide +kernel)
set_option maxRecDepth 65536 in
theorem w_c1 : (Jvm.Cond.code ({ cls := "com/example/lucid_index/lucidindex/core/WildcardIsPatternPinLaw", name := "make", desc := "(ICCCCCC)Ljava/lang/String;" } : Jvm.MethodName) method_4_code (7 : Nat) (Option.some (Jvm.ClassFile.FieldType.object "java/lang/String"))).before args0 about1 = true := code_word (m := ⟨1, 3⟩) (meth := k1m3) (c := k1c3) (by decide +kernel) rfl rfl rfl (by decide +kernel)
set_option maxRecDepth 65536 in
theorem w_c2 : (Jvm.Cond.code ({ cls := "java/lang/String", name := "<init>", desc := "([C)V" } : Jvm.MethodName) jdk_42_method_3_code (2 : Nat) (Option.none : Option Jvm.ClassFile.FieldType)).before args0 about1 = true := code_word (m := ⟨7, 1⟩) (meth := k7m1) (c := k7c1) (by decide +kernel) rfl rfl rfl (by decide +kernel)
set_option maxRecDepth 65536 in
theorem w_c3 : (Jvm.Cond.code ({ cls := "java/lang/String", name := "<init>", desc := "([CIILjava/lang/Void;)V" } : Jvm.MethodName) jdk_42_method_149_code (6 : Nat) (Option.none : Option Jvm.ClassFile.FieldType)).before args0 about1 = true := code_word (m := ⟨7, 5⟩) (meth := k7m5) (c := k7c5) (by decide +kernel) rfl rfl rfl (by decide +kernel)
set_option maxRecDepth 65536 in
theorem w_c4 : (Jvm.Cond.code ({ cls := "java/lang/Object", name := "<init>", desc := "()V" } : Jvm.MethodName) object_method_1_code (1 : Nat) (Option.none : Option Jvm.ClassFile.FieldType)).before args0 about1 = true := code_word (m := ⟨0, 0⟩) (meth := k0m0) (c := k0c0) (by decide +kernel) rfl rfl rfl (by decide +kernel)
set_option maxRecDepth 65536 in
theorem w_c5 : (Jvm.Cond.code ({ cls := "java/lang/StringUTF16", name := "compress", desc := "([CII)[B" } : Jvm.MethodName) jdk_52_method_16_code (6 : Nat) (Option.some (Jvm.ClassFile.FieldType.array Jvm.ClassFile.FieldType.byte))).before args0 about1 = true := code_word (m := ⟨8, 8⟩) (meth := k8m8) (c := k8c8) (by decide +kernel) rfl rfl rfl (by decide +kernel)
set_option maxRecDepth 65536 in
theorem w_c6 : (Jvm.Cond.code ({ cls := "java/lang/StringUTF16", name := "compress", desc := "([CI[BII)I" } : Jvm.MethodName) jdk_52_method_21_code (7 : Nat) (Option.some Jvm.ClassFile.FieldType.int)).before args0 about1 = true := code_word (m := ⟨8, 9⟩) (meth := k8m9) (c := k8c9) (by decide +kernel) rfl rfl rfl (by decide +kernel)
set_option maxRecDepth 65536 in
theorem w_c7 : (Jvm.Cond.code ({ cls := "java/lang/StringUTF16", name := "coderFromArrayLen", desc := "([BI)B" } : Jvm.MethodName) jdk_52_method_15_code (2 : Nat) (Option.some Jvm.ClassFile.FieldType.byte)).before args0 about1 = true := code_word (m := ⟨8, 7⟩) (meth := k8m7) (c := k8c7) (by decide +kernel) rfl rfl rfl (by decide +kernel)
set_option maxRecDepth 65536 in
theorem w_c8 : (Jvm.Cond.code ({ cls := "com/example/lucid_index/lucidindex/core/WildcardIsPatternPinLaw", name := "wild", desc := "(C)Z" } : Jvm.MethodName) method_3_code (1 : Nat) (Option.some Jvm.ClassFile.FieldType.boolean)).before args0 about1 = true := code_word (m := ⟨1, 2⟩) (meth := k1m2) (c := k1c2) (by decide +kernel) rfl rfl rfl (by decide +kernel)
set_option maxRecDepth 65536 in
theorem w_c9 : (Jvm.Cond.code ({ cls := "com/example/lucid_index/lucidindex/core/Condition$Wildcard", name := "isPattern", desc := "(Ljava/lang/String;)Z" } : Jvm.MethodName) prog_15_method_2_code (1 : Nat) (Option.some Jvm.ClassFile.FieldType.boolean)).before args0 about1 = true := code_word (m := ⟨11, 0⟩) (meth := k11m0) (c := k11c0) (by decide +kernel) rfl rfl rfl (by decide +kernel)
set_option maxRecDepth 65536 in
theorem w_c10 : (Jvm.Cond.code ({ cls := "java/lang/String", name := "indexOf", desc := "(I)I" } : Jvm.MethodName) jdk_42_method_79_code (2 : Nat) (Option.some Jvm.ClassFile.FieldType.int)).before args0 about1 = true := code_word (m := ⟨7, 3⟩) (meth := k7m3) (c := k7c3) (by decide +kernel) rfl rfl rfl (by decide +kernel)
set_option maxRecDepth 65536 in
theorem w_c11 : (Jvm.Cond.code ({ cls := "java/lang/String", name := "indexOf", desc := "(II)I" } : Jvm.MethodName) jdk_42_method_80_code (3 : Nat) (Option.some Jvm.ClassFile.FieldType.int)).before args0 about1 = true := code_word (m := ⟨7, 4⟩) (meth := k7m4) (c := k7c4) (by decide +kernel) rfl rfl rfl (by decide +kernel)
set_option maxRecDepth 65536 in
theorem w_c12 : (Jvm.Cond.code ({ cls := "java/lang/String", name := "isLatin1", desc := "()Z" } : Jvm.MethodName) jdk_42_method_154_code (1 : Nat) (Option.some Jvm.ClassFile.FieldType.boolean)).before args0 about1 = true := code_word (m := ⟨7, 7⟩) (meth := k7m7) (c := k7c7) (by decide +kernel) rfl rfl rfl (by decide +kernel)
set_option maxRecDepth 65536 in
theorem w_c13 : (Jvm.Cond.code ({ cls := "java/lang/String", name := "length", desc := "()I" } : Jvm.MethodName) jdk_42_method_54_code (1 : Nat) (Option.some Jvm.ClassFile.FieldType.int)).before args0 about1 = true := code_word (m := ⟨7, 2⟩) (meth := k7m2) (c := k7c2) (by decide +kernel) rfl rfl rfl (by decide +kernel)
set_option maxRecDepth 65536 in
theorem w_c14 : (Jvm.Cond.code ({ cls := "java/lang/String", name := "coder", desc := "()B" } : Jvm.MethodName) jdk_42_method_152_code (1 : Nat) (Option.some Jvm.ClassFile.FieldType.byte)).before args0 about1 = true := code_word (m := ⟨7, 6⟩) (meth := k7m6) (c := k7c6) (by decide +kernel) rfl rfl rfl (by decide +kernel)
set_option maxRecDepth 65536 in
theorem w_c15 : (Jvm.Cond.code ({ cls := "java/lang/StringLatin1", name := "indexOf", desc := "([BIII)I" } : Jvm.MethodName) jdk_43_method_22_code (4 : Nat) (Option.some Jvm.ClassFile.FieldType.int)).before args0 about1 = true := code_word (m := ⟨12, 2⟩) (meth := k12m2) (c := k12c2) (by decide +kernel) rfl rfl rfl (by decide +kernel)
set_option maxRecDepth 65536 in
theorem w_c16 : (Jvm.Cond.code ({ cls := "java/lang/StringLatin1", name := "canEncode", desc := "(I)Z" } : Jvm.MethodName) jdk_43_method_4_code (1 : Nat) (Option.some Jvm.ClassFile.FieldType.boolean)).before args0 about1 = true := code_word (m := ⟨12, 1⟩) (meth := k12m1) (c := k12c1) (by decide +kernel) rfl rfl rfl (by decide +kernel)
set_option maxRecDepth 65536 in
theorem w_c17 : (Jvm.Cond.code ({ cls := "java/lang/Math", name := "max", desc := "(II)I" } : Jvm.MethodName) jdk_29_method_65_code (2 : Nat) (Option.some Jvm.ClassFile.FieldType.int)).before args0 about1 = true := code_word (m := ⟨13, 1⟩) (meth := k13m1) (c := k13c1) (by decide +kernel) rfl rfl rfl (by decide +kernel)
set_option maxRecDepth 65536 in
theorem w_c18 : (Jvm.Cond.code ({ cls := "java/lang/Math", name := "min", desc := "(II)I" } : Jvm.MethodName) jdk_29_method_69_code (2 : Nat) (Option.some Jvm.ClassFile.FieldType.int)).before args0 about1 = true := code_word (m := ⟨13, 2⟩) (meth := k13m2) (c := k13c2) (by decide +kernel) rfl rfl rfl (by decide +kernel)
set_option maxRecDepth 65536 in
theorem w_c19 : (Jvm.Cond.code ({ cls := "java/lang/StringLatin1", name := "indexOfChar", desc := "([BIII)I" } : Jvm.MethodName) jdk_43_method_23_code (6 : Nat) (Option.some Jvm.ClassFile.FieldType.int)).before args0 about1 = true := code_word (m := ⟨12, 3⟩) (meth := k12m3) (c := k12c3) (by decide +kernel) rfl rfl rfl (by decide +kernel)
set_option maxRecDepth 65536 in
theorem w_c20 : (Jvm.Cond.code ({ cls := "java/lang/StringUTF16", name := "toBytes", desc := "([CII)[B" } : Jvm.MethodName) jdk_52_method_14_code (5 : Nat) (Option.some (Jvm.ClassFile.FieldType.array Jvm.ClassFile.FieldType.byte))).before args0 about1 = true := code_word (m := ⟨8, 6⟩) (meth := k8m6) (c := k8c6) (by decide +kernel) rfl rfl rfl (by decide +kernel)
set_option maxRecDepth 65536 in
theorem w_c21 : (Jvm.Cond.code ({ cls := "java/lang/StringUTF16", name := "newBytesFor", desc := "(I)[B" } : Jvm.MethodName) jdk_52_method_2_code (1 : Nat) (Option.some (Jvm.ClassFile.FieldType.array Jvm.ClassFile.FieldType.byte))).before args0 about1 = true := code_word (m := ⟨8, 1⟩) (meth := k8m1) (c := k8c1) (by decide +kernel) rfl rfl rfl (by decide +kernel)
set_option maxRecDepth 65536 in
theorem w_c22 : (Jvm.Cond.code ({ cls := "java/lang/StringUTF16", name := "newBytesLength", desc := "(I)I" } : Jvm.MethodName) jdk_52_method_3_code (1 : Nat) (Option.some Jvm.ClassFile.FieldType.int)).before args0 about1 = true := code_word (m := ⟨8, 2⟩) (meth := k8m2) (c := k8c2) (by decide +kernel) rfl rfl rfl (by decide +kernel)
set_option maxRecDepth 65536 in
theorem w_c23 : (Jvm.Cond.code ({ cls := "java/lang/StringUTF16", name := "putChar", desc := "([BII)V" } : Jvm.MethodName) jdk_52_method_4_code (3 : Nat) (Option.none : Option Jvm.ClassFile.FieldType)).before args0 about1 = true := code_word (m := ⟨8, 3⟩) (meth := k8m3) (c := k8c3) (by decide +kernel) rfl rfl rfl (by decide +kernel)
set_option maxRecDepth 65536 in
theorem w_c24 : (Jvm.Cond.code ({ cls := "java/lang/StringUTF16", name := "getChar", desc := "([BI)C" } : Jvm.MethodName) jdk_52_method_5_code (2 : Nat) (Option.some Jvm.ClassFile.FieldType.char)).before args0 about1 = true := code_word (m := ⟨8, 4⟩) (meth := k8m4) (c := k8c4) (by decide +kernel) rfl rfl rfl (by decide +kernel)
set_option maxRecDepth 65536 in
theorem w_c25 : (Jvm.Cond.code ({ cls := "java/lang/StringUTF16", name := "indexOf", desc := "([BIII)I" } : Jvm.MethodName) jdk_52_method_40_code (4 : Nat) (Option.some Jvm.ClassFile.FieldType.int)).before args0 about1 = true := code_word (m := ⟨8, 10⟩) (meth := k8m10) (c := k8c10) (by decide +kernel) rfl rfl rfl (by decide +kernel)
set_option maxRecDepth 65536 in
theorem w_c26 : (Jvm.Cond.code ({ cls := "java/lang/StringUTF16", name := "indexOfChar", desc := "([BIII)I" } : Jvm.MethodName) jdk_52_method_47_code (4 : Nat) (Option.some Jvm.ClassFile.FieldType.int)).before args0 about1 = true := code_word (m := ⟨8, 11⟩) (meth := k8m11) (c := k8c11) (by decide +kernel) rfl rfl rfl (by decide +kernel)
set_option maxRecDepth 65536 in
theorem w_c27 : (Jvm.Cond.code ({ cls := "java/lang/StringUTF16", name := "checkBoundsBeginEnd", desc := "(II[B)V" } : Jvm.MethodName) jdk_52_method_93_code (3 : Nat) (Option.none : Option Jvm.ClassFile.FieldType)).before args0 about1 = true := code_word (m := ⟨8, 13⟩) (meth := k8m13) (c := k8c13) (by decide +kernel) rfl rfl rfl (by decide +kernel)
set_option maxRecDepth 65536 in
theorem w_c28 : (Jvm.Cond.code ({ cls := "java/lang/StringUTF16", name := "length", desc := "([B)I" } : Jvm.MethodName) jdk_52_method_6_code (1 : Nat) (Option.some Jvm.ClassFile.FieldType.int)).before args0 about1 = true := code_word (m := ⟨8, 5⟩) (meth := k8m5) (c := k8c5) (by decide +kernel) rfl rfl rfl (by decide +kernel)
set_option maxRecDepth 65536 in
theorem w_c29 : (Jvm.Cond.code ({ cls := "java/lang/String", name := "checkBoundsBeginEnd", desc := "(III)V" } : Jvm.MethodName) jdk_42_method_158_code (3 : Nat) (Option.none : Option Jvm.ClassFile.FieldType)).before args0 about1 = true := code_word (m := ⟨7, 8⟩) (meth := k7m8) (c := k7c8) (by decide +kernel) rfl rfl rfl (by decide +kernel)
set_option maxRecDepth 65536 in
theorem w_c30 : (Jvm.Cond.code ({ cls := "jdk/internal/util/Preconditions", name := "checkFromToIndex", desc := "(IIILjava/util/function/BiFunction;)I" } : Jvm.MethodName) jdk_41_method_12_code (4 : Nat) (Option.some Jvm.ClassFile.FieldType.int)).before args0 about1 = true := code_word (m := ⟨14, 1⟩) (meth := k14m1) (c := k14c1) (by decide +kernel) rfl rfl rfl (by decide +kernel)
set_option maxRecDepth 65536 in
theorem w_c31 : (Jvm.Cond.code ({ cls := "java/lang/StringUTF16", name := "indexOfCharUnsafe", desc := "([BIII)I" } : Jvm.MethodName) jdk_52_method_48_code (5 : Nat) (Option.some Jvm.ClassFile.FieldType.int)).before args0 about1 = true := code_word (m := ⟨8, 12⟩) (meth := k8m12) (c := k8c12) (by decide +kernel) rfl rfl rfl (by decide +kernel)
def codes1 : List Jvm.Cond := [Jvm.Cond.code x code maxLocals ret, Jvm.Cond.code ({ cls := "com/example/lucid_index/lucidindex/core/WildcardIsPatternPinLaw", name := "make", desc := "(ICCCCCC)Ljava/lang/String;" } : Jvm.MethodName) method_4_code (7 : Nat) (Option.some (Jvm.ClassFile.FieldType.object "java/lang/String")), Jvm.Cond.code ({ cls := "java/lang/String", name := "<init>", desc := "([C)V" } : Jvm.MethodName) jdk_42_method_3_code (2 : Nat) (Option.none : Option Jvm.ClassFile.FieldType), Jvm.Cond.code ({ cls := "java/lang/String", name := "<init>", desc := "([CIILjava/lang/Void;)V" } : Jvm.MethodName) jdk_42_method_149_code (6 : Nat) (Option.none : Option Jvm.ClassFile.FieldType), Jvm.Cond.code ({ cls := "java/lang/Object", name := "<init>", desc := "()V" } : Jvm.MethodName) object_method_1_code (1 : Nat) (Option.none : Option Jvm.ClassFile.FieldType), Jvm.Cond.code ({ cls := "java/lang/StringUTF16", name := "compress", desc := "([CII)[B" } : Jvm.MethodName) jdk_52_method_16_code (6 : Nat) (Option.some (Jvm.ClassFile.FieldType.array Jvm.ClassFile.FieldType.byte)), Jvm.Cond.code ({ cls := "java/lang/StringUTF16", name := "compress", desc := "([CI[BII)I" } : Jvm.MethodName) jdk_52_method_21_code (7 : Nat) (Option.some Jvm.ClassFile.FieldType.int), Jvm.Cond.code ({ cls := "java/lang/StringUTF16", name := "coderFromArrayLen", desc := "([BI)B" } : Jvm.MethodName) jdk_52_method_15_code (2 : Nat) (Option.some Jvm.ClassFile.FieldType.byte), Jvm.Cond.code ({ cls := "com/example/lucid_index/lucidindex/core/WildcardIsPatternPinLaw", name := "wild", desc := "(C)Z" } : Jvm.MethodName) method_3_code (1 : Nat) (Option.some Jvm.ClassFile.FieldType.boolean), Jvm.Cond.code ({ cls := "com/example/lucid_index/lucidindex/core/Condition$Wildcard", name := "isPattern", desc := "(Ljava/lang/String;)Z" } : Jvm.MethodName) prog_15_method_2_code (1 : Nat) (Option.some Jvm.ClassFile.FieldType.boolean), Jvm.Cond.code ({ cls := "java/lang/String", name := "indexOf", desc := "(I)I" } : Jvm.MethodName) jdk_42_method_79_code (2 : Nat) (Option.some Jvm.ClassFile.FieldType.int), Jvm.Cond.code ({ cls := "java/lang/String", name := "indexOf", desc := "(II)I" } : Jvm.MethodName) jdk_42_method_80_code (3 : Nat) (Option.some Jvm.ClassFile.FieldType.int), Jvm.Cond.code ({ cls := "java/lang/String", name := "isLatin1", desc := "()Z" } : Jvm.MethodName) jdk_42_method_154_code (1 : Nat) (Option.some Jvm.ClassFile.FieldType.boolean), Jvm.Cond.code ({ cls := "java/lang/String", name := "length", desc := "()I" } : Jvm.MethodName) jdk_42_method_54_code (1 : Nat) (Option.some Jvm.ClassFile.FieldType.int), Jvm.Cond.code ({ cls := "java/lang/String", name := "coder", desc := "()B" } : Jvm.MethodName) jdk_42_method_152_code (1 : Nat) (Option.some Jvm.ClassFile.FieldType.byte), Jvm.Cond.code ({ cls := "java/lang/StringLatin1", name := "indexOf", desc := "([BIII)I" } : Jvm.MethodName) jdk_43_method_22_code (4 : Nat) (Option.some Jvm.ClassFile.FieldType.int), Jvm.Cond.code ({ cls := "java/lang/StringLatin1", name := "canEncode", desc := "(I)Z" } : Jvm.MethodName) jdk_43_method_4_code (1 : Nat) (Option.some Jvm.ClassFile.FieldType.boolean), Jvm.Cond.code ({ cls := "java/lang/Math", name := "max", desc := "(II)I" } : Jvm.MethodName) jdk_29_method_65_code (2 : Nat) (Option.some Jvm.ClassFile.FieldType.int), Jvm.Cond.code ({ cls := "java/lang/Math", name := "min", desc := "(II)I" } : Jvm.MethodName) jdk_29_method_69_code (2 : Nat) (Option.some Jvm.ClassFile.FieldType.int), Jvm.Cond.code ({ cls := "java/lang/StringLatin1", name := "indexOfChar", desc := "([BIII)I" } : Jvm.MethodName) jdk_43_method_23_code (6 : Nat) (Option.some Jvm.ClassFile.FieldType.int), Jvm.Cond.code ({ cls := "java/lang/StringUTF16", name := "toBytes", desc := "([CII)[B" } : Jvm.MethodName) jdk_52_method_14_code (5 : Nat) (Option.some (Jvm.ClassFile.FieldType.array Jvm.ClassFile.FieldType.byte)), Jvm.Cond.code ({ cls := "java/lang/StringUTF16", name := "newBytesFor", desc := "(I)[B" } : Jvm.MethodName) jdk_52_method_2_code (1 : Nat) (Option.some (Jvm.ClassFile.FieldType.array Jvm.ClassFile.FieldType.byte)), Jvm.Cond.code ({ cls := "java/lang/StringUTF16", name := "newBytesLength", desc := "(I)I" } : Jvm.MethodName) jdk_52_method_3_code (1 : Nat) (Option.some Jvm.ClassFile.FieldType.int), Jvm.Cond.code ({ cls := "java/lang/StringUTF16", name := "putChar", desc := "([BII)V" } : Jvm.MethodName) jdk_52_method_4_code (3 : Nat) (Option.none : Option Jvm.ClassFile.FieldType), Jvm.Cond.code ({ cls := "java/lang/StringUTF16", name := "getChar", desc := "([BI)C" } : Jvm.MethodName) jdk_52_method_5_code (2 : Nat) (Option.some Jvm.ClassFile.FieldType.char), Jvm.Cond.code ({ cls := "java/lang/StringUTF16", name := "indexOf", desc := "([BIII)I" } : Jvm.MethodName) jdk_52_method_40_code (4 : Nat) (Option.some Jvm.ClassFile.FieldType.int), Jvm.Cond.code ({ cls := "java/lang/StringUTF16", name := "indexOfChar", desc := "([BIII)I" } : Jvm.MethodName) jdk_52_method_47_code (4 : Nat) (Option.some Jvm.ClassFile.FieldType.int), Jvm.Cond.code ({ cls := "java/lang/StringUTF16", name := "checkBoundsBeginEnd", desc := "(II[B)V" } : Jvm.MethodName) jdk_52_method_93_code (3 : Nat) (Option.none : Option Jvm.ClassFile.FieldType), Jvm.Cond.code ({ cls := "java/lang/StringUTF16", name := "length", desc := "([B)I" } : Jvm.MethodName) jdk_52_method_6_code (1 : Nat) (Option.some Jvm.ClassFile.FieldType.int), Jvm.Cond.code ({ cls := "java/lang/String", name := "checkBoundsBeginEnd", desc := "(III)V" } : Jvm.MethodName) jdk_42_method_158_code (3 : Nat) (Option.none : Option Jvm.ClassFile.FieldType), Jvm.Cond.code ({ cls := "jdk/internal/util/Preconditions", name := "checkFromToIndex", desc := "(IIILjava/util/function/BiFunction;)I" } : Jvm.MethodName) jdk_41_method_12_code (4 : Nat) (Option.some Jvm.ClassFile.FieldType.int), Jvm.Cond.code ({ cls := "java/lang/StringUTF16", name := "indexOfCharUnsafe", desc := "([BIII)I" } : Jvm.MethodName) jdk_52_method_48_code (5 : Nat) (Option.some Jvm.ClassFile.FieldType.int)]
set_option maxRecDepth 65536 in
theorem codes_eq : words1.filter isCode = codes1 := rfl
theorem w_codes : ∀ c ∈ words1.filter isCode, c.before args0 about1 = true := by
  rw [codes_eq]
  intro c hc
  simp only [codes1, List.mem_cons, List.not_mem_nil, or_false] at hc
  rcases hc with rfl | rfl | rfl | rfl | rfl | rfl | rfl | rfl | rfl | rfl | rfl | rfl | rfl | rfl | rfl | rfl | rfl | rfl | rfl | rfl | rfl | rfl | rfl | rfl | rfl | rfl | rfl | rfl | rfl | rfl | rfl | rfl
  · exact w_c0
  · exact w_c1
  · exact w_c2
  · exact w_c3
  · exact w_c4
  · exact w_c5
  · exact w_c6
  · exact w_c7
  · exact w_c8
  · exact w_c9
  · exact w_c10
  · exact w_c11
  · exact w_c12
  · exact w_c13
  · exact w_c14
  · exact w_c15
  · exact w_c16
  · exact w_c17
  · exact w_c18
  · exact w_c19
  · exact w_c20
  · exact w_c21
  · exact w_c22
  · exact w_c23
  · exact w_c24
  · exact w_c25
  · exact w_c26
  · exact w_c27
  · exact w_c28
  · exact w_c29
  · exact w_c30
  · exact w_c31
set_option maxRecDepth 65536 in
theorem w_t1 : (words1.take 24).all (fun c => isCode c || c.before args0 about1) = true := by decide +kernel
set_option maxRecDepth 65536 in
theorem w_t2 : ((words1.drop 24).take 24).all (fun c => isCode c || c.before args0 about1) = true := by decide +kernel
set_option maxRecDepth 65536 in
theorem w_t3 : (((words1.drop 24).drop 24).take 24).all (fun c => isCode c || c.before args0 about1) = true := by decide +kernel
set_option maxRecDepth 65536 in
theorem w_t4 : ((((words1.drop 24).drop 24).drop 24).take 24).all (fun c => isCode c || c.before args0 about1) = true := by decide +kernel
set_option maxRecDepth 65536 in
theorem w_t5 : (((((words1.drop 24).drop 24).drop 24).drop 24).take 24).all (fun c => isCode c || c.before args0 about1) = true := by decide +kernel
set_option maxRecDepth 65536 in
theorem w_t6 : (((((words1.drop 24).drop 24).drop 24).drop 24).drop 24).all (fun c => isCode c || c.before args0 about1) = true := by decide +kernel
theorem w_tables : (allAtoms (Jvm.Cond.code x code maxLocals ret :: tables_1)).before args0 about1 = true := by
  rw [allAtoms_all]
  show words1.all (fun c => c.before args0 about1) = true
  refine all_split ?_ w_codes
  rw [← List.take_append_drop 24 words1, List.all_append, w_t1, ← List.take_append_drop 24 (words1.drop 24), List.all_append, w_t2, ← List.take_append_drop 24 ((words1.drop 24).drop 24), List.all_append, w_t3, ← List.take_append_drop 24 (((words1.drop 24).drop 24).drop 24), List.all_append, w_t4, ← List.take_append_drop 24 ((((words1.drop 24).drop 24).drop 24).drop 24), List.all_append, w_t5, w_t6]
  rfl
set_option maxRecDepth 65536 in
theorem w_rest : rest_1_c.before args0 about1 = true := by decide +kernel
set_option maxRecDepth 65536 in
theorem w_case : (Jvm.Cond.and given_1 narrow_1).before args0 about1 = true := by decide +kernel
set_option maxRecDepth 65536 in
theorem w_consts : constsHeld consts_1 about1 := Jvm.Lit.constsHeldB_iff.mp (by decide +kernel)
theorem w_applies : (headSpec (Jvm.Cond.code x code maxLocals ret :: tables_1) room_1).applies x e0.platform about1 = true :=
  (Spec.applies_iff w_frames).mpr ⟨w_running, w_runnable, w_alone, w_named, w_hears, w_ripe, w_room, w_tables⟩
theorem atStart : AtStart classFile x code maxLocals ret World_1 tables_1 room_1 Calls_1 rest_1 Pre_1 launch0 p0 e0 about1 theMethod args0 below0 :=
  ⟨lists_1, trivial, launch0.admits_env _ _ _, launch0.least_env, fairChoices_fair.cas, fairChoices_fair.clock, w_frames, w_args, w_heap, w_applies, ⟨w_consts, trivial⟩, w_rest, w_case⟩
end start1
theorem witness_1 : WitnessClaimed_1 := ⟨start1.p0, start1.e0, start1.about1, start1.theMethod, start1.args0, start1.below0, start1.atStart⟩
end Jvm.Pilot.@@N@@
