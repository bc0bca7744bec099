import JvmDerived
import JvmDerived.Pilot.@@N@@Statement
import JvmDerived.Pilot.@@N@@Code
set_option linter.unusedVariables false
set_option linter.unusedSimpArgs false
namespace Jvm.Own
open Jvm Jvm.ClassFile Sem Op Lib Jvm.Free Jvm.Stand Jvm.LawKit Jvm.RoadKit Bundle
/-! A layer of weakest premises over the library's Stand family: a goal says 'from here the body ends as Q says'; one rule an instruction. -/
abbrev Inf : Type := MethodName × ByteArray × Nat × Option FieldType × Room
abbrev Inf.y (I : Inf) : MethodName := I.1
abbrev Inf.b (I : Inf) : ByteArray := I.2.1
abbrev Inf.n (I : Inf) : Nat := I.2.2.1
abbrev Inf.r (I : Inf) : Option FieldType := I.2.2.2.1
abbrev Inf.R (I : Inf) : Room := I.2.2.2.2
abbrev Wd : Type := Launch × State × List (String × Nat) × Bool
abbrev Wd.l (G : Wd) : Launch := G.1
abbrev Wd.Z (G : Wd) : State := G.2.1
abbrev Wd.E (G : Wd) : List (String × Nat) := G.2.2.1
abbrev Wd.nar (G : Wd) : Bool := G.2.2.2
abbrev Rn : Type := Program × Env × State × MethodId × Array Value × List Frame × Method × Code
abbrev Rn.p (K : Rn) : Program := K.1
abbrev Rn.e (K : Rn) : Env := K.2.1
abbrev Rn.s (K : Rn) : State := K.2.2.1
abbrev Rn.m (K : Rn) : MethodId := K.2.2.2.1
abbrev Rn.args (K : Rn) : Array Value := K.2.2.2.2.1
abbrev Rn.below (K : Rn) : List Frame := K.2.2.2.2.2.1
abbrev Rn.meth (K : Rn) : Method := K.2.2.2.2.2.2.1
abbrev Rn.c (K : Rn) : Code := K.2.2.2.2.2.2.2
abbrev Po : Type := Option Value → Heap → List Addr → Prop
/-- what holds of the run all along -/
def Ok (G : Wd) (I : Inf) (K : Rn) : Prop := K.p.tables.exec = Jvm.exec ∧ K.c.code = I.b ∧ K.c.maxLocals = I.n ∧ K.meth.sig.returnType = I.r ∧ K.meth.locks = false ∧ K.meth.name = I.y.name ∧ ∃ a0, EW G.Z a0 G.E
/-- cells that may be written: new ones, no literal's -/
def Ws (G : Wd) (vm : Vm) (h : Heap) (S : List Addr) : Prop := ∀ x ∈ S, G.Z.heap.size ≤ x ∧ x < h.size ∧ Safe G.Z G.E vm h x
/-- the state at hand -/
def Sd (G : Wd) (I : Inf) (K : Rn) (S : List Addr) (h : Heap) (cs sl : Nat) (vm0 : Vm) (k0 : Nat) (T : State) (L : List Loc) : Prop :=
  Stand K.p G.l K.e I.R (K.s.setVm vm0) K.m K.args K.below K.meth K.c T L cs sl ∧ G.Z.Warmed39 vm0 ∧ K.s.Since vm0 k0 ∧ k0 ≤ h.size ∧ vm0.findClass I.y.cls = some K.m.cls ∧ T.heap = h ∧ Ext G.Z.heap h ∧ Fr G.Z.heap.size L ∧ Ws G vm0 h S ∧ CHr G.Z G.E K.s.vm K.s.heap vm0 h ∧ (G.nar = true → K.s.WarmedH vm0)
/-- what the end owes -/
def Pst (G : Wd) (Q : Po) (R : Room) (s : State) (o : Outcome) (t : State) : Prop :=
  ∃ v L, o = .returned v ∧ ((∃ S, Q v t.heap S ∧ Ws G t.vm t.heap S) ∧ Fr G.Z.heap.size L ∧ Ext G.Z.heap t.heap) ∧ CHr G.Z G.E s.vm s.heap t.vm t.heap ∧ ReturnedEndW s o t L R.cells R.slots ∧ (G.nar = true → s.WarmedH t.vm)
def WP (G : Wd) (I : Inf) (Q : Po) (K : Rn) (S : List Addr) (h : Heap) (cs sl pc : Nat) (ls : Array Slot) (st : List Value) : Prop :=
  Ok G I K → ∀ vm0 k0 T L, Sd G I K S h cs sl vm0 k0 T L →
    ∃ t o, Steps K.p.tables K.e K.below (T.setTop (mkF K.m pc ls st)) t ∧ t.status = .running ∧ Ended t K.below o ∧ Pst G Q I.R K.s o t
/-- a method's contract -/
def Met (G : Wd) (J : Inf) (as' : Array Value) (h : Heap) (S : List Addr) (Q : Po) : Prop :=
  ∀ a1, EW G.Z a1 G.E → Ext G.Z.heap h → ∀ ws : List Jvm.Cond, MetFree G.l J.y (head1 (Jvm.Cond.code J.y J.b J.n J.r :: ws) J.R) (fun a U => a = as' ∧ G.Z.Warmed39 U.vm ∧ U.heap = h ∧ CHv G.Z G.E U.vm h ∧ Ws G U.vm h S) (fun _ _ _ _ _ => True) (fun _ U o U' => Pst G Q J.R U o U')
section Rules
variable {G : Wd} {I J : Inf} {Q Q' : Po} {K : Rn} {S S' : List Addr} {h h' : Heap} {cs sl pc pc' : Nat} {ls ls' : Array Slot} {st st' rest : List Value} {a0 : Array Value}
theorem Met.intro (hpn : plainFor J.y = true) {as' : Array Value} (hef : ∀ m, entryFrame m as' J.n = mkF m 0 ls [])
    (H : ∀ K : Rn, WP G J Q K S h 0 0 0 ls []) : Met G J as' h S Q := by
  intro a0 hEW hO ws
  refine MetFree.of_bodySF hpn hisR ?_
  intro p e s m args below meth c s₁ Bd hml0 hP hK
  obtain ⟨rfl, hZ, hh, hCH, hS⟩ := hP
  have X0 : Stand p G.l e J.R s m args below meth c s₁ [] 0 0 := Stand.of_body Bd
  have e0 : s₁.heap = h := by rw [← hh, Bd.state]; rfl
  have ok : Ok G J (p, e, s, m, args, below, meth, c) := ⟨Bd.exec, Bd.bytes, hml0, Bd.returns, Bd.notSynchronized, (name_of_methodNamed Bd.named Bd.method).1, a0, hEW⟩
  have q : CHr G.Z G.E s.vm s.heap s.vm h := by rw [hh]; exact CHr.refl hCH
  obtain ⟨t, o, st, r1, r2, r3⟩ := H (p, e, s, m, args, below, meth, c) ok s.vm 0 s₁ [] ⟨X0, hZ, (State.WarmedH.refl s).since 0, Nat.zero_le _, findClass_of_methodNamed Bd.named, e0, hO, Fr.nil _, hS, q, fun _ => State.WarmedH.refl s⟩
  exact ⟨t, o, castTop (hef m) st, r1, r2, r3⟩
theorem Ws.nil {vm : Vm} : Ws G vm h [] := fun _ q => nomatch q
theorem Ws.sub {vm : Vm} (H : Ws G vm h S) (q : ∀ x ∈ S', x ∈ S) : Ws G vm h S' := fun x hx => H x (q x hx)
theorem Ws.on {vm vm' : Vm} (H : Ws G vm h S) (C : CHr G.Z G.E vm h vm' h') : Ws G vm' h' S := fun x hx => by
  obtain ⟨h1, h2, h3⟩ := H x hx
  exact ⟨h1, Nat.lt_of_lt_of_le h2 C.2.1, C.safe h2 h3⟩
/-- a step that moves neither heap nor room -/
theorem WP.quiet (hst : ∀ vm0 T L, Ok G I K → Stand K.p G.l K.e I.R (K.s.setVm vm0) K.m K.args K.below K.meth K.c T L cs sl → G.Z.Warmed39 vm0 → vm0.findClass I.y.cls = some K.m.cls → T.heap = h → Ext G.Z.heap h →
      ∃ T', Stand K.p G.l K.e I.R (K.s.setVm vm0) K.m K.args K.below K.meth K.c T' L cs sl ∧ T'.heap = h ∧ ∀ target, Steps K.p.tables K.e K.below (T'.setTop (mkF K.m pc' ls' st')) target → Steps K.p.tables K.e K.below (T.setTop (mkF K.m pc ls st)) target)
    (k : WP G I Q K S h cs sl pc' ls' st') : WP G I Q K S h cs sl pc ls st := by
  intro ok vm0 k0 T L ⟨X, hZ, hS, hk, hf, eT, hE, hr⟩
  obtain ⟨T', X', eT', stp⟩ := hst vm0 T L ok X hZ hf eT hE
  obtain ⟨t, o, st1, r⟩ := k ok vm0 k0 T' L ⟨X', hZ, hS, hk, hf, eT', hE, hr⟩
  exact ⟨t, o, stp _ st1, r⟩
theorem WP.plain (hst : ∀ (T target : State), At T K.m K.c K.below → K.p.tables.exec = Jvm.exec → K.c.code = I.b → Steps K.p.tables K.e K.below (T.setTop (mkF K.m pc' ls' st')) target → Steps K.p.tables K.e K.below (T.setTop (mkF K.m pc ls st)) target)
    (k : WP G I Q K S h cs sl pc' ls' st') : WP G I Q K S h cs sl pc ls st :=
  WP.quiet (fun vm0 T L ok X hZ hf eT hE => ⟨T, X, eT, fun target s => hst T target X.here ok.1 ok.2.1 s⟩) k
/-- a store in one cell -/
theorem WP.write {a : Addr} {i : Nat} {v : Value} (ha : a ∈ S) (hst : ∀ vm0 T L, Ok G I K → Stand K.p G.l K.e I.R (K.s.setVm vm0) K.m K.args K.below K.meth K.c T L cs sl → G.Z.Warmed39 vm0 → vm0.findClass I.y.cls = some K.m.cls → T.heap = h →
      ∃ T' h', Stand K.p G.l K.e I.R (K.s.setVm vm0) K.m K.args K.below K.meth K.c T' (L ++ [⟨a, i⟩]) cs sl ∧ T'.heap = h' ∧ Wr h h' a i v ∧ ∀ target, Steps K.p.tables K.e K.below (T'.setTop (mkF K.m pc' ls' st')) target → Steps K.p.tables K.e K.below (T.setTop (mkF K.m pc ls st)) target)
    (k : ∀ h', Wr h h' a i v → WP G I Q K S h' cs sl pc' ls' st') : WP G I Q K S h cs sl pc ls st := by
  intro ok vm0 k0 T L ⟨X, hZ, hS, hk, hf, eT, hE, hF, hW, hC, hN⟩
  obtain ⟨T', h', X', eT', W, stp⟩ := hst vm0 T L ok X hZ hf eT
  obtain ⟨w1, w2, w3⟩ := hW a ha
  have C : CHr G.Z G.E vm0 h vm0 h' := CHr.wr W w3 hC.1
  have Kp : Keep h h' [a] := Keep.of_wr W
  have hE' : Ext G.Z.heap h' := ⟨Nat.le_trans hE.1 Kp.1, fun x c q => Kp.2.1 x c (hE.2 x c q) (ninS (Nat.ne_of_lt (Nat.lt_of_lt_of_le (Array.getElem?_eq_some_iff.mp q).1 w1)) nin0)⟩
  obtain ⟨t, o, st1, r⟩ := k h' W ok vm0 k0 T' (L ++ [⟨a, i⟩]) ⟨X', hZ, hS, Nat.le_trans hk Kp.1, hf, eT', hE', Fr.snoc X' hF w1, hW.on C, hC.trans C, hN⟩
  exact ⟨t, o, stp _ st1, r⟩
/-- a step that makes one cell -/
theorem WP.alloc {P : Heap → Prop} {n : Nat} (hst : ∀ vm0 T L, Ok G I K → Stand K.p G.l K.e I.R (K.s.setVm vm0) K.m K.args K.below K.meth K.c T L cs sl → G.Z.Warmed39 vm0 → vm0.findClass I.y.cls = some K.m.cls → T.heap = h →
      ∃ T' h', Stand K.p G.l K.e I.R (K.s.setVm vm0) K.m K.args K.below K.meth K.c T' L (cs + 1) (sl + n) ∧ T'.heap = h' ∧ Ext h h' ∧ h.size < h'.size ∧ P h' ∧ ∀ target, Steps K.p.tables K.e K.below (T'.setTop (mkF K.m pc' ls' st')) target → Steps K.p.tables K.e K.below (T.setTop (mkF K.m pc ls st)) target)
    (k : ∀ h', Ext h h' → P h' → WP G I Q K (h.size :: S) h' (cs + 1) (sl + n) pc' ls' st') : WP G I Q K S h cs sl pc ls st := by
  intro ok vm0 k0 T L ⟨X, hZ, hS, hk, hf, eT, hE, hF, hW, hC, hN⟩
  obtain ⟨T', h', X', eT', E, hlt, hP, stp⟩ := hst vm0 T L ok X hZ hf eT
  have C : CHr G.Z G.E vm0 h vm0 h' := CHr.ext E hC.1
  have hW' : Ws G vm0 h' (h.size :: S) := fun x hx => by
    rcases List.mem_cons.mp hx with rfl | hx
    · exact ⟨hE.1, hlt, Safe.ext E hC.1 (Safe.new (Nat.le_refl _))⟩
    · exact hW.on C x hx
  obtain ⟨t, o, st1, r⟩ := k h' E hP ok vm0 k0 T' L ⟨X', hZ, hS, Nat.le_trans hk E.1, hf, eT', ⟨Nat.le_trans hE.1 E.1, fun x c q => E.2 x c (hE.2 x c q)⟩, hF, hW', hC.trans C, hN⟩
  exact ⟨t, o, stp _ st1, r⟩
/-! ### calls -/
theorem Met.back {as' : Array Value} {R : Room} {p : Program} {e : Env} {below : List Frame} {s : State} {args : Array Value} {vm0 : Vm} {W len : Nat} (M : Met G J as' h S' Q') (hZ : G.Z.Warmed39 vm0) (wc : (Jvm.Cond.code J.y J.b J.n J.r).before a0 G.Z = true) (wz : (Jvm.Cond.initialized J.y.cls).before a0 G.Z = true)
    (hf : J.R.frames + 1 ≤ R.frames) (hl : W + (J.n + 11) + J.R.locals ≤ R.locals) {a1 : Array Value} (hEL : EW G.Z a1 G.E) (hO : Ext G.Z.heap h) (H : CHv G.Z G.E vm0 h) (hS : Ws G vm0 h S') :
    BackS G.l R p e below (s.setVm vm0) args J.y len W (fun A a => a = as' ∧ A.U.heap = h ∧ A.cells + J.R.cells ≤ R.cells ∧ A.slots + J.R.slots ≤ R.slots)
      (fun A _ v B => ∃ L, ((∃ S2, Q' v B.U.heap S2 ∧ Ws G B.U.vm B.U.heap S2) ∧ Fr G.Z.heap.size L ∧ Ext G.Z.heap B.U.heap) ∧ B.locs = A.locs ++ L ∧ B.cells = A.cells + J.R.cells ∧ B.slots = A.slots + J.R.slots ∧ CHr G.Z G.E vm0 h B.U.vm B.U.heap ∧ (G.nar = true → (s.setVm vm0).WarmedH B.U.vm)) :=
  BackS.of_freeW (bytes := J.b) (maxL := J.n) (ret := J.r) (E := fun _ first o t L k n => k = J.R.cells ∧ n = J.R.slots ∧ (∃ v, o = .returned v ∧ ((∃ S2, Q' v t.heap S2 ∧ Ws G t.vm t.heap S2) ∧ Fr G.Z.heap.size L ∧ Ext G.Z.heap t.heap)) ∧ CHr G.Z G.E first.vm first.heap t.vm t.heap ∧ (G.nar = true → first.WarmedH t.vm)) (M a1 hEL hO []) hf hl
    (fun m meth c A a Y hp => have hU : G.Z.Warmed39 A.U.vm := wtrans (s := s.setVm vm0) hZ Y.warmed
      ⟨by show (Jvm.Cond.and _ .tt).before a A.U = true; rw [Cond.before_and, mv hU wc]; rfl, mv hU wc, mv hU wz, hp.2.2.1, hp.2.2.2⟩)
    (fun m meth c A a g mk Y hp => ⟨hp.1, wtrans (s := s.setVm vm0) hZ Y.warmed, hp.2.1, (CHv.at (T := A.U) Y hZ hEL H).1, (show Ws G A.U.vm h S' from hS.on (CHv.at (T := A.U) Y hZ hEL H))⟩) (fun _ _ _ _ _ _ _ _ _ => trivial)
    (fun _ _ _ _ ⟨v, L, h1, h2, h3, h4, h5⟩ => ⟨L, _, _, h4, rfl, rfl, ⟨v, h1, h2⟩, h3, h5⟩)
    (fun m meth c A a g mk v t L k n Y hp _ _ ⟨e1, e2, ⟨v', e3, e4⟩, e5, e6⟩ => by
      cases e3; subst e1 e2
      refine ⟨L, e4, rfl, rfl, rfl, (CHv.at Y hZ hEL H).trans ?_, fun hn => State.WarmedH.trans (t := A.U) Y.warmed (e6 hn)⟩
      rw [← hp.2.1]; exact e5)
/-- what each call's rule makes of a callee's coming back -/
theorem WP.came {as' : Array Value} (M : Met G J as' h S' Q') (wc : (Jvm.Cond.code J.y J.b J.n J.r).before a0 G.Z = true) (wz : (Jvm.Cond.initialized J.y.cls).before a0 G.Z = true) (hS' : ∀ x ∈ S', x ∈ S) {W len : Nat} (hf : J.R.frames + 1 ≤ I.R.frames) (hl : W + (J.n + 11) + J.R.locals ≤ I.R.locals)
    (hst : ∀ vm0 T L, Ok G I K → Stand K.p G.l K.e I.R (K.s.setVm vm0) K.m K.args K.below K.meth K.c T L cs sl → G.Z.Warmed39 vm0 → vm0.findClass I.y.cls = some K.m.cls → T.heap = h → ∀ {Post : Pt → Array Value → Option Value → Pt → Prop},
      BackS G.l I.R K.p K.e K.below (K.s.setVm vm0) K.args J.y len W (fun A a => a = as' ∧ A.U.heap = h ∧ A.cells + J.R.cells ≤ I.R.cells ∧ A.slots + J.R.slots ≤ I.R.slots) Post →
      ∃ (v : Option Value) (vm₁ : Vm) (B : Pt), Stand K.p G.l K.e I.R ((K.s.setVm vm0).setVm B.U.vm) K.m K.args K.below K.meth K.c B.U B.locs B.cells B.slots ∧ (K.s.setVm vm0).Since B.U.vm B.U.heap.size ∧ T.heap.size ≤ B.U.heap.size ∧ Post ⟨T.setVm vm₁, L, cs, sl⟩ as' v B ∧
        Steps K.p.tables K.e K.below (T.setTop (mkF K.m pc ls st)) (B.U.setTop (mkF K.m pc' ls (v.toList ++ rest))))
    (k : ∀ v h' S2, Q' v h' S2 → WP G I Q K (S2 ++ S) h' (cs + J.R.cells) (sl + J.R.slots) pc' ls (v.toList ++ rest)) : WP G I Q K S h cs sl pc ls st := by
  intro ok vm0 k0 T L ⟨X, hZ, hS, hk, hf', eT, hE, hF, hW, hC, hN⟩
  obtain ⟨a1, hEL⟩ := ok.2.2.2.2.2.2
  obtain ⟨v, vm₁, B, X', hS2, hgr, ⟨L2, ⟨⟨S2, hQ, hW2⟩, hF2, hE2⟩, l1, l2, l3, hC2, hN2⟩, stp⟩ := hst vm0 T L ok X hZ hf' eT (M.back hZ wc wz hf hl hEL hE hC.1 (hW.sub hS'))
  obtain ⟨U, Ls, c1, n1⟩ := B
  dsimp only [Pt.U, Pt.locs, Pt.cells, Pt.slots] at X' hS2 hgr hQ hW2 hE2 l1 l2 l3 hC2 hN2 stp
  subst l1 l2 l3
  have hW3 : Ws G U.vm U.heap (S2 ++ S) := fun x hx => by
    rcases List.mem_append.mp hx with hx | hx
    · exact hW2 x hx
    · exact hW.on hC2 x hx
  have hS3 : K.s.Since U.vm U.heap.size := hS.trans hS2 (Nat.le_trans hk (by rw [← eT]; exact hgr))
  obtain ⟨t, o, st1, r⟩ := k v U.heap S2 hQ ok U.vm U.heap.size U (L ++ L2) ⟨X', State.Warmed39.trans (t := K.s.setVm vm0) hZ hS2.1, hS3, Nat.le_refl _, by rw [hS2.1.alike.findClass]; exact hf', rfl, hE2, hF.app hF2, hW3, hC.trans hC2, fun hn => State.WarmedH.trans (t := K.s.setVm vm0) (hN hn) (hN2 hn)⟩
  exact ⟨t, o, stp.trans st1, r⟩
end Rules
end Jvm.Own
namespace Jvm.Own
open Jvm Jvm.ClassFile Sem Op Lib Jvm.Free Jvm.Stand Jvm.LawKit Jvm.RoadKit Bundle
/-! ### one rule an instruction -/
def Cd (cd : ClassFile.Cond) (x y : Int32) : Prop := match cd with
  | .eq => x = y | .ne => ¬ x = y | .lt => x < y | .ge => ¬ x < y | .gt => y < x | .le => ¬ y < x
def Nd (cd : ClassFile.Cond) (x y : Int32) : Prop := match cd with
  | .eq => ¬ x = y | .ne => x = y | .lt => ¬ x < y | .ge => x < y | .gt => ¬ y < x | .le => y < x
theorem cd_t {cd : ClassFile.Cond} {x y : Int32} (q : Cd cd x y) : if_icmp.holds cd x y = true := by
  cases cd
  · exact (teq q).1
  · exact (feq q).2
  · exact (tlt q).1
  · exact (flt q).2.1
  · exact (tlt q).2.2.1
  · exact (flt q).2.2.2
theorem cd_f {cd : ClassFile.Cond} {x y : Int32} (q : Nd cd x y) : if_icmp.holds cd x y = false := by
  cases cd
  · exact (feq q).1
  · exact (teq q).2
  · exact (flt q).1
  · exact (tlt q).2.1
  · exact (flt q).2.2.1
  · exact (tlt q).2.2.2
theorem cd_em (cd : ClassFile.Cond) (x y : Int32) : Cd cd x y ∨ Nd cd x y := by
  cases cd
  · exact Classical.em (x = y)
  · exact (Classical.em (x = y)).symm
  · exact Classical.em (x < y)
  · exact (Classical.em (x < y)).symm
  · exact Classical.em (y < x)
  · exact (Classical.em (y < x)).symm
/-- the instruction at pc, and where the next one lies -/
def D1 (b : ByteArray) (pc : Nat) (i : Instr) (n pc' : Nat) : Prop := decode b pc = .ok (i, n) ∧ pc + n = pc'
/-- .. and where a branch leads -/
def DB (b : ByteArray) (pc : Nat) (i : Instr) (n : Nat) (o : Int) (pc1 pc' : Nat) : Prop := decode b pc = .ok (i, n) ∧ pc + n = pc1 ∧ 0 ≤ (pc : Int) + o ∧ ((pc : Int) + o).toNat = pc'
section Plain
variable {G : Wd} {I : Inf} {Q : Po} {K : Rn} {S : List Addr} {h : Heap} {cs sl pc pc1 pc' : Nat} {ls ls' : Array Slot} {st : List Value}
theorem Ru.iload {k : Nat} {x : Int32} (hd : D1 I.b pc (.iload k) 2 pc') (hl : ls[k]? = some (.val (.int x))) (k' : WP G I Q K S h cs sl pc' ls (.int x :: st)) : WP G I Q K S h cs sl pc ls st := by
  obtain ⟨hd, rfl⟩ := hd
  exact WP.plain (fun _ _ hA hx hb s => XS.iload hA hx rfl (hb ▸ hd) hl s) k'
theorem Ru.iloadN {k : Fin 4} {x : Int32} (hd : D1 I.b pc (.iload_n k) 1 pc') (hl : ls[k.val]? = some (.val (.int x))) (k' : WP G I Q K S h cs sl pc' ls (.int x :: st)) : WP G I Q K S h cs sl pc ls st := by
  obtain ⟨hd, rfl⟩ := hd
  exact WP.plain (fun _ _ hA hx hb s => XS.iloadN hA hx rfl (hb ▸ hd) hl s) k'
theorem Ru.lload {k : Nat} {x : Int64} (hd : D1 I.b pc (.lload k) 2 pc') (hl : ls[k]? = some (.val (.long x))) (k' : WP G I Q K S h cs sl pc' ls (.long x :: st)) : WP G I Q K S h cs sl pc ls st := by
  obtain ⟨hd, rfl⟩ := hd
  exact WP.plain (fun _ _ hA hx hb s => XS.lload hA hx rfl (hb ▸ hd) hl s) k'
theorem Ru.lloadN {k : Fin 4} {x : Int64} (hd : D1 I.b pc (.lload_n k) 1 pc') (hl : ls[k.val]? = some (.val (.long x))) (k' : WP G I Q K S h cs sl pc' ls (.long x :: st)) : WP G I Q K S h cs sl pc ls st := by
  obtain ⟨hd, rfl⟩ := hd
  exact WP.plain (fun _ _ hA hx hb s => XS.lloadN hA hx rfl (hb ▸ hd) hl s) k'
theorem Ru.aload {k : Nat} {v : Value} (hd : D1 I.b pc (.aload k) 2 pc') (hl : ls[k]? = some (.val v)) (hv : v.isRef = true) (k' : WP G I Q K S h cs sl pc' ls (v :: st)) : WP G I Q K S h cs sl pc ls st := by
  obtain ⟨hd, rfl⟩ := hd
  exact WP.plain (fun _ _ hA hx hb s => XS.aload hA hx rfl (hb ▸ hd) hl hv s) k'
theorem Ru.aloadN {k : Fin 4} {v : Value} (hd : D1 I.b pc (.aload_n k) 1 pc') (hl : ls[k.val]? = some (.val v)) (hv : v.isRef = true) (k' : WP G I Q K S h cs sl pc' ls (v :: st)) : WP G I Q K S h cs sl pc ls st := by
  obtain ⟨hd, rfl⟩ := hd
  exact WP.plain (fun _ _ hA hx hb s => XS.aloadN hA hx rfl (hb ▸ hd) hl hv s) k'
theorem Ru.istore {k : Nat} {x : Int32} (hd : D1 I.b pc (.istore k) 2 pc') (hl : storeLocals ls k (.int x) = some ls') (k' : WP G I Q K S h cs sl pc' ls' st) : WP G I Q K S h cs sl pc ls (.int x :: st) := by
  obtain ⟨hd, rfl⟩ := hd
  exact WP.plain (fun _ _ hA hx hb s => XS.istore hA hx rfl (hb ▸ hd) rfl hl s) k'
theorem Ru.istoreN {k : Fin 4} {x : Int32} (hd : D1 I.b pc (.istore_n k) 1 pc') (hl : storeLocals ls k.val (.int x) = some ls') (k' : WP G I Q K S h cs sl pc' ls' st) : WP G I Q K S h cs sl pc ls (.int x :: st) := by
  obtain ⟨hd, rfl⟩ := hd
  exact WP.plain (fun _ _ hA hx hb s => XS.istoreN hA hx rfl (hb ▸ hd) rfl hl s) k'
theorem Ru.lstore {k : Nat} {x : Int64} (hd : D1 I.b pc (.lstore k) 2 pc') (hl : storeLocals ls k (.long x) = some ls') (k' : WP G I Q K S h cs sl pc' ls' st) : WP G I Q K S h cs sl pc ls (.long x :: st) := by
  obtain ⟨hd, rfl⟩ := hd
  exact WP.plain (fun _ _ hA hx hb s => XS.lstore hA hx rfl (hb ▸ hd) rfl hl s) k'
theorem Ru.lstoreN {k : Fin 4} {x : Int64} (hd : D1 I.b pc (.lstore_n k) 1 pc') (hl : storeLocals ls k.val (.long x) = some ls') (k' : WP G I Q K S h cs sl pc' ls' st) : WP G I Q K S h cs sl pc ls (.long x :: st) := by
  obtain ⟨hd, rfl⟩ := hd
  exact WP.plain (fun _ _ hA hx hb s => XS.lstoreN hA hx rfl (hb ▸ hd) rfl hl s) k'
theorem Ru.astore {k : Nat} {v : Value} (hd : D1 I.b pc (.astore k) 2 pc') (hv : v.isRef = true) (hl : storeLocals ls k v = some ls') (k' : WP G I Q K S h cs sl pc' ls' st) : WP G I Q K S h cs sl pc ls (v :: st) := by
  obtain ⟨hd, rfl⟩ := hd
  exact WP.plain (fun _ _ hA hx hb s => XS.astore hA hx rfl (hb ▸ hd) rfl hv hl s) k'
theorem Ru.astoreN {k : Fin 4} {v : Value} (hd : D1 I.b pc (.astore_n k) 1 pc') (hv : v.isRef = true) (hl : storeLocals ls k.val v = some ls') (k' : WP G I Q K S h cs sl pc' ls' st) : WP G I Q K S h cs sl pc ls (v :: st) := by
  obtain ⟨hd, rfl⟩ := hd
  exact WP.plain (fun _ _ hA hx hb s => XS.astoreN hA hx rfl (hb ▸ hd) rfl hv hl s) k'
theorem Ru.istoreG {k : Nat} {x : Int32} {o : Slot} (hd : D1 I.b pc (.istore k) 2 pc') (hold : ls[k]? = some o) (ho : One o) (hl : ls.setIfInBounds k (.val (.int x)) = ls') (k' : WP G I Q K S h cs sl pc' ls' st) : WP G I Q K S h cs sl pc ls (.int x :: st) :=
  Ru.istore hd ((XS.store1 hold ho rfl).trans (by rw [hl])) k'
theorem Ru.istoreNG {k : Fin 4} {x : Int32} {o : Slot} (hd : D1 I.b pc (.istore_n k) 1 pc') (hold : ls[k.val]? = some o) (ho : One o) (hl : ls.setIfInBounds k.val (.val (.int x)) = ls') (k' : WP G I Q K S h cs sl pc' ls' st) : WP G I Q K S h cs sl pc ls (.int x :: st) :=
  Ru.istoreN hd ((XS.store1 hold ho rfl).trans (by rw [hl])) k'
theorem Ru.astoreG {k : Nat} {v : Value} {o : Slot} (hd : D1 I.b pc (.astore k) 2 pc') (hv : v.isRef = true) (hold : ls[k]? = some o) (ho : One o) (hl : ls.setIfInBounds k (.val v) = ls') (k' : WP G I Q K S h cs sl pc' ls' st) : WP G I Q K S h cs sl pc ls (v :: st) :=
  Ru.astore hd hv ((XS.store1 hold ho (XT.cat1 hv)).trans (by rw [hl])) k'
theorem Ru.astoreNG {k : Fin 4} {v : Value} {o : Slot} (hd : D1 I.b pc (.astore_n k) 1 pc') (hv : v.isRef = true) (hold : ls[k.val]? = some o) (ho : One o) (hl : ls.setIfInBounds k.val (.val v) = ls') (k' : WP G I Q K S h cs sl pc' ls' st) : WP G I Q K S h cs sl pc ls (v :: st) :=
  Ru.astoreN hd hv ((XS.store1 hold ho (XT.cat1 hv)).trans (by rw [hl])) k'
theorem Ru.iconst {i : Int} {x : Int32} (hd : D1 I.b pc (.iconst i) 1 pc') (hv : Int32.ofInt i = x) (k' : WP G I Q K S h cs sl pc' ls (.int x :: st)) : WP G I Q K S h cs sl pc ls st := by
  obtain ⟨hd, rfl⟩ := hd
  subst hv; exact WP.plain (fun _ _ hA hx hb s => XS.iconst hA hx rfl (hb ▸ hd) s) k'
theorem Ru.bipush {i : Int} {x : Int32} (hd : D1 I.b pc (.bipush i) 2 pc') (hv : (Int8.ofInt i).toInt32 = x) (k' : WP G I Q K S h cs sl pc' ls (.int x :: st)) : WP G I Q K S h cs sl pc ls st := by
  obtain ⟨hd, rfl⟩ := hd
  subst hv; exact WP.plain (fun _ _ hA hx hb s => XS.bipush hA hx rfl (hb ▸ hd) s) k'
theorem Ru.sipush {i : Int} {x : Int32} (hd : D1 I.b pc (.sipush i) 3 pc') (hv : (Int16.ofInt i).toInt32 = x) (k' : WP G I Q K S h cs sl pc' ls (.int x :: st)) : WP G I Q K S h cs sl pc ls st := by
  obtain ⟨hd, rfl⟩ := hd
  subst hv; exact WP.plain (fun _ _ hA hx hb s => XS.sipush hA hx rfl (hb ▸ hd) s) k'
theorem Ru.lconst {k : Fin 2} {x : Int64} (hd : D1 I.b pc (.lconst k) 1 pc') (hv : Int64.ofNat k = x) (k' : WP G I Q K S h cs sl pc' ls (.long x :: st)) : WP G I Q K S h cs sl pc ls st := by
  obtain ⟨hd, rfl⟩ := hd
  subst hv; exact WP.plain (fun _ _ hA hx hb s => XS.lconst hA hx rfl (hb ▸ hd) s) k'
theorem Ru.aconstNull (hd : D1 I.b pc (.aconst_null) 1 pc') (k' : WP G I Q K S h cs sl pc' ls (.null :: st)) : WP G I Q K S h cs sl pc ls st := by
  obtain ⟨hd, rfl⟩ := hd
  exact WP.plain (fun _ _ hA hx hb s => XS.aconstNull hA hx rfl (hb ▸ hd) s) k'
theorem Ru.iadd {x y : Int32} (hd : D1 I.b pc (.iadd) 1 pc') (k' : WP G I Q K S h cs sl pc' ls (.int (x + y) :: st)) : WP G I Q K S h cs sl pc ls (.int y :: .int x :: st) := by
  obtain ⟨hd, rfl⟩ := hd
  exact WP.plain (fun _ _ hA hx hb s => XS.iadd hA hx rfl (hb ▸ hd) rfl s) k'
theorem Ru.isub {x y : Int32} (hd : D1 I.b pc (.isub) 1 pc') (k' : WP G I Q K S h cs sl pc' ls (.int (x - y) :: st)) : WP G I Q K S h cs sl pc ls (.int y :: .int x :: st) := by
  obtain ⟨hd, rfl⟩ := hd
  exact WP.plain (fun _ _ hA hx hb s => XS.isub hA hx rfl (hb ▸ hd) rfl s) k'
theorem Ru.imul {x y : Int32} (hd : D1 I.b pc (.imul) 1 pc') (k' : WP G I Q K S h cs sl pc' ls (.int (x * y) :: st)) : WP G I Q K S h cs sl pc ls (.int y :: .int x :: st) := by
  obtain ⟨hd, rfl⟩ := hd
  exact WP.plain (fun _ _ hA hx hb s => XS.imul hA hx rfl (hb ▸ hd) rfl s) k'
theorem Ru.iand {x y : Int32} (hd : D1 I.b pc (.iand) 1 pc') (k' : WP G I Q K S h cs sl pc' ls (.int (x &&& y) :: st)) : WP G I Q K S h cs sl pc ls (.int y :: .int x :: st) := by
  obtain ⟨hd, rfl⟩ := hd
  exact WP.plain (fun _ _ hA hx hb s => XS.iand hA hx rfl (hb ▸ hd) rfl s) k'
theorem Ru.ior {x y : Int32} (hd : D1 I.b pc (.ior) 1 pc') (k' : WP G I Q K S h cs sl pc' ls (.int (x ||| y) :: st)) : WP G I Q K S h cs sl pc ls (.int y :: .int x :: st) := by
  obtain ⟨hd, rfl⟩ := hd
  exact WP.plain (fun _ _ hA hx hb s => XS.ior hA hx rfl (hb ▸ hd) rfl s) k'
theorem Ru.ixor {x y : Int32} (hd : D1 I.b pc (.ixor) 1 pc') (k' : WP G I Q K S h cs sl pc' ls (.int (x ^^^ y) :: st)) : WP G I Q K S h cs sl pc ls (.int y :: .int x :: st) := by
  obtain ⟨hd, rfl⟩ := hd
  exact WP.plain (fun _ _ hA hx hb s => XS.ixor hA hx rfl (hb ▸ hd) rfl s) k'
theorem Ru.ishl {x y : Int32} (hd : D1 I.b pc (.ishl) 1 pc') (k' : WP G I Q K S h cs sl pc' ls (.int (x <<< (y &&& 31)) :: st)) : WP G I Q K S h cs sl pc ls (.int y :: .int x :: st) := by
  obtain ⟨hd, rfl⟩ := hd
  exact WP.plain (fun _ _ hA hx hb s => XS.ishl hA hx rfl (hb ▸ hd) rfl s) k'
theorem Ru.ishr {x y : Int32} (hd : D1 I.b pc (.ishr) 1 pc') (k' : WP G I Q K S h cs sl pc' ls (.int (x >>> (y &&& 31)) :: st)) : WP G I Q K S h cs sl pc ls (.int y :: .int x :: st) := by
  obtain ⟨hd, rfl⟩ := hd
  exact WP.plain (fun _ _ hA hx hb s => XS.ishr hA hx rfl (hb ▸ hd) rfl s) k'
theorem Ru.iushr {x y : Int32} (hd : D1 I.b pc (.iushr) 1 pc') (k' : WP G I Q K S h cs sl pc' ls (.int ((x.toUInt32 >>> (y &&& 31).toUInt32).toInt32) :: st)) : WP G I Q K S h cs sl pc ls (.int y :: .int x :: st) := by
  obtain ⟨hd, rfl⟩ := hd
  exact WP.plain (fun _ _ hA hx hb s => XS.iushr hA hx rfl (hb ▸ hd) rfl s) k'
theorem Ru.idiv {x y : Int32} (hd : D1 I.b pc (.idiv) 1 pc') (hy : y ≠ 0) (k' : WP G I Q K S h cs sl pc' ls (.int (x / y) :: st)) : WP G I Q K S h cs sl pc ls (.int y :: .int x :: st) := by
  obtain ⟨hd, rfl⟩ := hd
  exact WP.plain (fun _ _ hA hx hb s => XS.idiv hA hx rfl (hb ▸ hd) rfl hy s) k'
theorem Ru.irem {x y : Int32} (hd : D1 I.b pc (.irem) 1 pc') (hy : y ≠ 0) (k' : WP G I Q K S h cs sl pc' ls (.int (x % y) :: st)) : WP G I Q K S h cs sl pc ls (.int y :: .int x :: st) := by
  obtain ⟨hd, rfl⟩ := hd
  exact WP.quiet (fun vm0 T L ok X hZ hf eT hE => ⟨T, X, eT, fun target s => iremM X ok.1 rfl (ok.2.1 ▸ hd) rfl hy s⟩) k'
theorem Ru.ineg {x : Int32} (hd : D1 I.b pc (.ineg) 1 pc') (k' : WP G I Q K S h cs sl pc' ls (.int (-x) :: st)) : WP G I Q K S h cs sl pc ls (.int x :: st) := by
  obtain ⟨hd, rfl⟩ := hd
  exact WP.plain (fun _ _ hA hx hb s => XS.ineg hA hx rfl (hb ▸ hd) rfl s) k'
theorem Ru.ladd {x y : Int64} (hd : D1 I.b pc (.ladd) 1 pc') (k' : WP G I Q K S h cs sl pc' ls (.long (x + y) :: st)) : WP G I Q K S h cs sl pc ls (.long y :: .long x :: st) := by
  obtain ⟨hd, rfl⟩ := hd
  exact WP.plain (fun _ _ hA hx hb s => XS.ladd hA hx rfl (hb ▸ hd) rfl s) k'
theorem Ru.lsub {x y : Int64} (hd : D1 I.b pc (.lsub) 1 pc') (k' : WP G I Q K S h cs sl pc' ls (.long (x - y) :: st)) : WP G I Q K S h cs sl pc ls (.long y :: .long x :: st) := by
  obtain ⟨hd, rfl⟩ := hd
  exact WP.plain (fun _ _ hA hx hb s => XS.lsub hA hx rfl (hb ▸ hd) rfl s) k'
theorem Ru.land {x y : Int64} (hd : D1 I.b pc (.land) 1 pc') (k' : WP G I Q K S h cs sl pc' ls (.long (x &&& y) :: st)) : WP G I Q K S h cs sl pc ls (.long y :: .long x :: st) := by
  obtain ⟨hd, rfl⟩ := hd
  exact WP.plain (fun _ _ hA hx hb s => XS.land hA hx rfl (hb ▸ hd) rfl s) k'
theorem Ru.lushr {x : Int64} {y : Int32} (hd : D1 I.b pc (.lushr) 1 pc') (k' : WP G I Q K S h cs sl pc' ls (.long ((x.toUInt64 >>> (y &&& 0x3f).toInt64.toUInt64).toInt64) :: st)) : WP G I Q K S h cs sl pc ls (.int y :: .long x :: st) := by
  obtain ⟨hd, rfl⟩ := hd
  exact WP.plain (fun _ _ hA hx hb s => XS.lushr hA hx rfl (hb ▸ hd) rfl s) k'
theorem Ru.i2b {x : Int32} (hd : D1 I.b pc (.i2b) 1 pc') (k' : WP G I Q K S h cs sl pc' ls (.int x.toInt8.toInt32 :: st)) : WP G I Q K S h cs sl pc ls (.int x :: st) := by
  obtain ⟨hd, rfl⟩ := hd
  exact WP.plain (fun _ _ hA hx hb s => XS.i2b hA hx rfl (hb ▸ hd) rfl s) k'
theorem Ru.i2c {x : Int32} (hd : D1 I.b pc (.i2c) 1 pc') (k' : WP G I Q K S h cs sl pc' ls (.int x.toUInt32.toUInt16.toUInt32.toInt32 :: st)) : WP G I Q K S h cs sl pc ls (.int x :: st) := by
  obtain ⟨hd, rfl⟩ := hd
  exact WP.plain (fun _ _ hA hx hb s => XS.i2c hA hx rfl (hb ▸ hd) rfl s) k'
theorem Ru.i2l {x : Int32} (hd : D1 I.b pc (.i2l) 1 pc') (k' : WP G I Q K S h cs sl pc' ls (.long x.toInt64 :: st)) : WP G I Q K S h cs sl pc ls (.int x :: st) := by
  obtain ⟨hd, rfl⟩ := hd
  exact WP.plain (fun _ _ hA hx hb s => XS.i2l hA hx rfl (hb ▸ hd) rfl s) k'
theorem Ru.l2i {x : Int64} (hd : D1 I.b pc (.l2i) 1 pc') (k' : WP G I Q K S h cs sl pc' ls (.int x.toInt32 :: st)) : WP G I Q K S h cs sl pc ls (.long x :: st) := by
  obtain ⟨hd, rfl⟩ := hd
  exact WP.plain (fun _ _ hA hx hb s => XS.l2i hA hx rfl (hb ▸ hd) rfl s) k'
theorem Ru.lcmp {x y : Int64} (hd : D1 I.b pc (.lcmp) 1 pc') (k' : WP G I Q K S h cs sl pc' ls (.int (lcmpW x y) :: st)) : WP G I Q K S h cs sl pc ls (.long y :: .long x :: st) := by
  obtain ⟨hd, rfl⟩ := hd
  exact WP.plain (fun _ _ hA hx hb s => XS.lcmp hA hx rfl (hb ▸ hd) rfl s) k'
theorem Ru.iinc {k : Nat} {cst : Int} {x y : Int32} (hd : D1 I.b pc (.iinc k cst) 3 pc') (hl : ls[k]? = some (.val (.int x))) (hv : Int32.ofInt cst = y) (hl' : storeLocals ls k (.int (x + y)) = some ls') (k' : WP G I Q K S h cs sl pc' ls' st) : WP G I Q K S h cs sl pc ls st := by
  obtain ⟨hd, rfl⟩ := hd
  subst hv; exact WP.plain (fun _ _ hA hx hb s => XS.iinc hA hx rfl (hb ▸ hd) hl hl' s) k'
theorem Ru.pop {v : Value} (hd : D1 I.b pc (.pop) 1 pc') (hc : v.category = 1) (k' : WP G I Q K S h cs sl pc' ls st) : WP G I Q K S h cs sl pc ls (v :: st) := by
  obtain ⟨hd, rfl⟩ := hd
  exact WP.plain (fun _ _ hA hx hb s => XS.pop hA hx rfl (hb ▸ hd) rfl hc s) k'
theorem Ru.dup {v : Value} (hd : D1 I.b pc (.dup) 1 pc') (hc : v.category = 1) (k' : WP G I Q K S h cs sl pc' ls (v :: v :: st)) : WP G I Q K S h cs sl pc ls (v :: st) := by
  obtain ⟨hd, rfl⟩ := hd
  exact WP.plain (fun _ _ hA hx hb s => XS.dup hA hx rfl (hb ▸ hd) rfl hc s) k'
theorem Ru.dupX1 {v w : Value} (hd : D1 I.b pc (.dup_x1) 1 pc') (hc : v.category = 1) (hc2 : w.category = 1) (k' : WP G I Q K S h cs sl pc' ls (v :: w :: v :: st)) : WP G I Q K S h cs sl pc ls (v :: w :: st) := by
  obtain ⟨hd, rfl⟩ := hd
  exact WP.plain (fun _ _ hA hx hb s => XS.dupX1 hA hx rfl (hb ▸ hd) rfl hc hc2 s) k'
theorem Ru.dup2 {v w : Value} (hd : D1 I.b pc (.dup2) 1 pc') (hc : v.category = 1) (hc2 : w.category = 1) (k' : WP G I Q K S h cs sl pc' ls (v :: w :: v :: w :: st)) : WP G I Q K S h cs sl pc ls (v :: w :: st) := by
  obtain ⟨hd, rfl⟩ := hd
  exact WP.plain (fun _ _ hA hx hb s => XT.dup2 hA hx rfl (hb ▸ hd) rfl hc hc2 s) k'
theorem Ru.goto {o : Int} (hd : DB I.b pc (.goto o) 3 o pc1 pc') (k' : WP G I Q K S h cs sl pc' ls st) : WP G I Q K S h cs sl pc ls st := by
  obtain ⟨hd, rfl, ho, hp⟩ := hd
  exact WP.plain (fun _ _ hA hx hb s => XS.goto hA hx rfl rfl (hb ▸ hd) ho hp s) k'
theorem Ru.ifc {cd : ClassFile.Cond} {o : Int} {x : Int32} (hd : DB I.b pc (.ifCond cd o) 3 o pc1 pc') (y : Cd cd x 0 → WP G I Q K S h cs sl pc' ls st) (n : Nd cd x 0 → WP G I Q K S h cs sl pc1 ls st) : WP G I Q K S h cs sl pc ls (.int x :: st) := by
  obtain ⟨hd, rfl, ho, hp⟩ := hd
  rcases cd_em cd x 0 with q | q
  · exact WP.plain (fun _ _ hA hx hb s => XS.ifYes hA hx rfl rfl (hb ▸ hd) rfl ((if0 cd x).trans (cd_t q)) ho hp s) (y q)
  · exact WP.plain (fun _ _ hA hx hb s => XS.ifNo hA hx rfl (hb ▸ hd) rfl ((if0 cd x).trans (cd_f q)) s) (n q)
theorem Ru.icmp {cd : ClassFile.Cond} {o : Int} {x z : Int32} (hd : DB I.b pc (.if_icmp cd o) 3 o pc1 pc') (y : Cd cd x z → WP G I Q K S h cs sl pc' ls st) (n : Nd cd x z → WP G I Q K S h cs sl pc1 ls st) : WP G I Q K S h cs sl pc ls (.int z :: .int x :: st) := by
  obtain ⟨hd, rfl, ho, hp⟩ := hd
  rcases cd_em cd x z with q | q
  · exact WP.plain (fun _ _ hA hx hb s => XS.icmpYes hA hx rfl rfl (hb ▸ hd) rfl (cd_t q) ho hp s) (y q)
  · exact WP.plain (fun _ _ hA hx hb s => XS.icmpNo hA hx rfl (hb ▸ hd) rfl (cd_f q) s) (n q)
theorem Ru.ifY {cd : ClassFile.Cond} {o : Int} {x : Int32} (hd : DB I.b pc (.ifCond cd o) 3 o pc1 pc') (q : Cd cd x 0) (k' : WP G I Q K S h cs sl pc' ls st) : WP G I Q K S h cs sl pc ls (.int x :: st) := by
  obtain ⟨hd, rfl, ho, hp⟩ := hd
  exact WP.plain (fun _ _ hA hx hb s => XS.ifYes hA hx rfl rfl (hb ▸ hd) rfl ((if0 cd x).trans (cd_t q)) ho hp s) k'
theorem Ru.ifN {cd : ClassFile.Cond} {o : Int} {x : Int32} (hd : DB I.b pc (.ifCond cd o) 3 o pc1 pc') (q : Nd cd x 0) (k' : WP G I Q K S h cs sl pc1 ls st) : WP G I Q K S h cs sl pc ls (.int x :: st) := by
  obtain ⟨hd, rfl, -, -⟩ := hd
  exact WP.plain (fun _ _ hA hx hb s => XS.ifNo hA hx rfl (hb ▸ hd) rfl ((if0 cd x).trans (cd_f q)) s) k'
theorem Ru.icmpY {cd : ClassFile.Cond} {o : Int} {x z : Int32} (hd : DB I.b pc (.if_icmp cd o) 3 o pc1 pc') (q : Cd cd x z) (k' : WP G I Q K S h cs sl pc' ls st) : WP G I Q K S h cs sl pc ls (.int z :: .int x :: st) := by
  obtain ⟨hd, rfl, ho, hp⟩ := hd
  exact WP.plain (fun _ _ hA hx hb s => XS.icmpYes hA hx rfl rfl (hb ▸ hd) rfl (cd_t q) ho hp s) k'
theorem Ru.icmpN {cd : ClassFile.Cond} {o : Int} {x z : Int32} (hd : DB I.b pc (.if_icmp cd o) 3 o pc1 pc') (q : Nd cd x z) (k' : WP G I Q K S h cs sl pc1 ls st) : WP G I Q K S h cs sl pc ls (.int z :: .int x :: st) := by
  obtain ⟨hd, rfl, -, -⟩ := hd
  exact WP.plain (fun _ _ hA hx hb s => XS.icmpNo hA hx rfl (hb ▸ hd) rfl (cd_f q) s) k'
theorem Ru.ifnullY {o : Int} (hd : DB I.b pc (.ifnull o) 3 o pc1 pc') (k' : WP G I Q K S h cs sl pc' ls st) : WP G I Q K S h cs sl pc ls (.null :: st) := by
  obtain ⟨hd, rfl, ho, hp⟩ := hd
  exact WP.plain (fun _ _ hA hx hb s => XS.ifnullYes hA hx rfl rfl (hb ▸ hd) rfl ho hp s) k'
theorem Ru.ifnullN {o : Int} {a : Addr} (hd : DB I.b pc (.ifnull o) 3 o pc1 pc') (k' : WP G I Q K S h cs sl pc1 ls st) : WP G I Q K S h cs sl pc ls (.ref a :: st) := by
  obtain ⟨hd, rfl, -, -⟩ := hd
  exact WP.plain (fun _ _ hA hx hb s => XS.ifnullNo hA hx rfl (hb ▸ hd) rfl s) k'
theorem Ru.ifnonnullY {o : Int} {a : Addr} (hd : DB I.b pc (.ifnonnull o) 3 o pc1 pc') (k' : WP G I Q K S h cs sl pc' ls st) : WP G I Q K S h cs sl pc ls (.ref a :: st) := by
  obtain ⟨hd, rfl, ho, hp⟩ := hd
  exact WP.plain (fun _ _ hA hx hb s => XS.ifnonnullYes hA hx rfl rfl (hb ▸ hd) rfl ho hp s) k'
theorem Ru.ifnonnullN {o : Int} (hd : DB I.b pc (.ifnonnull o) 3 o pc1 pc') (k' : WP G I Q K S h cs sl pc1 ls st) : WP G I Q K S h cs sl pc ls (.null :: st) := by
  obtain ⟨hd, rfl, -, -⟩ := hd
  exact WP.plain (fun _ _ hA hx hb s => XS.ifnonnullNo hA hx rfl (hb ▸ hd) rfl s) k'
theorem Ru.acmpEqY {o : Int} {v w : Value} (hd : DB I.b pc (.if_acmp .eq o) 3 o pc1 pc') (hv : v.isRef = true) (hw : w.isRef = true) (q : v = w) (k' : WP G I Q K S h cs sl pc' ls st) : WP G I Q K S h cs sl pc ls (w :: v :: st) := by
  obtain ⟨hd, rfl, ho, hp⟩ := hd
  exact WP.plain (fun _ _ hA hx hb s => XT.acmpYes hA hx rfl rfl (hb ▸ hd) rfl hv hw (XT.aa_eq_t q) ho hp s) k'
theorem Ru.acmpEqN {o : Int} {v w : Value} (hd : DB I.b pc (.if_acmp .eq o) 3 o pc1 pc') (hv : v.isRef = true) (hw : w.isRef = true) (q : ¬ v = w) (k' : WP G I Q K S h cs sl pc1 ls st) : WP G I Q K S h cs sl pc ls (w :: v :: st) := by
  obtain ⟨hd, rfl, -, -⟩ := hd
  exact WP.plain (fun _ _ hA hx hb s => XT.acmpNo hA hx rfl (hb ▸ hd) rfl hv hw (XT.aa_eq_f q) s) k'
theorem Ru.acmpNeY {o : Int} {v w : Value} (hd : DB I.b pc (.if_acmp .ne o) 3 o pc1 pc') (hv : v.isRef = true) (hw : w.isRef = true) (q : ¬ v = w) (k' : WP G I Q K S h cs sl pc' ls st) : WP G I Q K S h cs sl pc ls (w :: v :: st) := by
  obtain ⟨hd, rfl, ho, hp⟩ := hd
  exact WP.plain (fun _ _ hA hx hb s => XT.acmpYes hA hx rfl rfl (hb ▸ hd) rfl hv hw (XT.aa_ne_t q) ho hp s) k'
theorem Ru.acmpNeN {o : Int} {v w : Value} (hd : DB I.b pc (.if_acmp .ne o) 3 o pc1 pc') (hv : v.isRef = true) (hw : w.isRef = true) (q : v = w) (k' : WP G I Q K S h cs sl pc1 ls st) : WP G I Q K S h cs sl pc ls (w :: v :: st) := by
  obtain ⟨hd, rfl, -, -⟩ := hd
  exact WP.plain (fun _ _ hA hx hb s => XT.acmpNo hA hx rfl (hb ▸ hd) rfl hv hw (XT.aa_ne_f q) s) k'
/-- whoever knows the end of pc tells it so -/
theorem WP.at (q : pc = pc') (k' : WP G I Q K S h cs sl pc' ls st) : WP G I Q K S h cs sl pc ls st := q ▸ k'
/-- another text of what lies on top -/
theorem WP.top {v w : Value} (q : v = w) (k' : WP G I Q K S h cs sl pc ls (w :: st)) : WP G I Q K S h cs sl pc ls (v :: st) := q ▸ k'
theorem WP.topI {x y : Int32} (q : x = y) (k' : WP G I Q K S h cs sl pc ls (.int y :: st)) : WP G I Q K S h cs sl pc ls (.int x :: st) := q ▸ k'
/-- more room counted than taken -/
theorem WP.more {cs' sl' : Nat} (h1 : cs ≤ cs') (h2 : sl ≤ sl') (k' : WP G I Q K S h cs' sl' pc ls st) : WP G I Q K S h cs sl pc ls st := by
  intro ok vm0 k0 T L ⟨X, r⟩
  exact k' ok vm0 k0 T L ⟨X.mono h1 h2, r⟩
/-- fewer cells that may be written -/
theorem WP.fewer {S' : List Addr} (q : ∀ x ∈ S', x ∈ S) (k' : WP G I Q K S' h cs sl pc ls st) : WP G I Q K S h cs sl pc ls st := by
  intro ok vm0 k0 T L ⟨X, hZ, hS, hk, hf, eT, hE, hF, hW, r⟩
  exact k' ok vm0 k0 T L ⟨X, hZ, hS, hk, hf, eT, hE, hF, hW.sub q, r⟩
/-- the start's heap stands in this one -/
theorem WP.old (k' : Ext G.Z.heap h → WP G I Q K S h cs sl pc ls st) : WP G I Q K S h cs sl pc ls st := by
  intro ok vm0 k0 T L Y
  exact k' Y.2.2.2.2.2.2.1 ok vm0 k0 T L Y
/-- what may be written lies above the start -/
theorem WP.new {a : Addr} (ha : a ∈ S) (k' : G.Z.heap.size ≤ a ∧ a < h.size → WP G I Q K S h cs sl pc ls st) : WP G I Q K S h cs sl pc ls st := by
  intro ok vm0 k0 T L Y
  have q := Y.2.2.2.2.2.2.2.2.1 a ha
  exact k' ⟨q.1, q.2.1⟩ ok vm0 k0 T L Y
end Plain
end Jvm.Own
namespace Jvm.Own
open Jvm Jvm.ClassFile Sem Op Lib Jvm.Free Jvm.Stand Jvm.LawKit Jvm.RoadKit Bundle
/-! ### arrays: the list of what they hold -/
def Ary (Z : State) (h : Heap) (a : Addr) (ty : FieldType) (vs : List Value) : Prop := ∃ c : Cell, Arr Z h a c ty ∧ c.slots.toList = vs ∧ vs.length < 2147483648 ∧ ∀ v ∈ vs, fits ty v = true
theorem Ary.lt {Z : State} {h : Heap} {a : Addr} {ty : FieldType} {vs : List Value} (F : Ary Z h a ty vs) : a < h.size := by obtain ⟨c, A, -⟩ := F; exact A.lt
theorem Ary.ext {Z : State} {h h' : Heap} {a : Addr} {ty : FieldType} {vs : List Value} (F : Ary Z h a ty vs) (E : Ext h h') : Ary Z h' a ty vs := by obtain ⟨c, A, r⟩ := F; exact ⟨c, A.ext E, r⟩
theorem Ary.keep {Z : State} {h h' : Heap} {a : Addr} {ty : FieldType} {vs : List Value} {ws : List Addr} (F : Ary Z h a ty vs) (K : Keep h h' ws) (q : a ∉ ws) : Ary Z h' a ty vs := by obtain ⟨c, A, r⟩ := F; exact ⟨c, ⟨K.2.1 a c A.1 q, A.2⟩, r⟩
theorem Ary.set {Z : State} {h h' : Heap} {a : Addr} {ty : FieldType} {vs : List Value} {i : Nat} {v : Value} (F : Ary Z h a ty vs) (W : Wr h h' a i v) (hv : fits ty v = true) : Ary Z h' a ty (vs.set i v) := by
  obtain ⟨c, A, rfl, hl, hf⟩ := F
  refine ⟨_, A.same W, by simp [Cell.setSlot, Array.toList_setIfInBounds], by simpa using hl, fun w hw => ?_⟩
  rcases List.mem_or_eq_of_mem_set hw with q | q
  · exact hf w q
  · rw [q]; exact hv
theorem Ary.new {Z : State} {h : Heap} {a : Addr} {ty : FieldType} {k : ClassId} {n : Int32} (A : Arr Z h a (newA k ty n) ty) (hn : ¬ n < 0) (hd : fits ty (defaultValue ty) = true) : Ary Z h a ty (List.replicate n.toNatClampNeg (defaultValue ty)) :=
  ⟨_, A, by simp [newA], by have := (back32 hn).2; simpa using this, fun v hv => by rw [(List.mem_replicate.mp hv).2]; exact hd⟩
theorem Ary.arv {Z : State} {h : Heap} {a : Addr} {ty : FieldType} {vs : List Value} {dv : Value} {z : Int32} (F : Ary Z h a ty vs) (hz : z.toNatClampNeg = vs.length) (h0 : ¬ z < 0) : ∃ k, Arv Z h a k ty z vs dv := by
  obtain ⟨c, A, rfl, hl, hf⟩ := F
  refine ⟨c.cls, c, A, rfl, by simp [hz], h0, fun i hi => ?_, fun i hi => ?_⟩
  · simp [List.getD, hi]
  · have : (c.slots.toList.getD i dv) = c.slots[i] := by simp [List.getD, hi]
    rw [this]; exact hf _ (by simp)
theorem Arv.ary {Z : State} {h : Heap} {a : Addr} {ty : FieldType} {vs : List Value} {dv : Value} {z : Int32} {k : ClassId} (F : Arv Z h a k ty z vs dv) (hz : z.toNatClampNeg = vs.length) : Ary Z h a ty vs := by
  obtain ⟨c, A, -, hs, h0, H, Fi⟩ := F
  have e : c.slots.toList = vs := by
    apply List.ext_getElem?
    intro i
    by_cases hi : i < c.slots.size
    · have q := H i hi
      have hi' : i < vs.length := by omega
      rw [Array.getElem?_toList, q]; simp [List.getD, hi']
    · have hi' : vs.length ≤ i := by omega
      rw [Array.getElem?_toList]; simp [Nat.le_of_not_lt hi, hi']
  refine ⟨c, A, e, by have := (back32 h0).2; omega, fun v hv => ?_⟩
  obtain ⟨i, hi, rfl⟩ := List.mem_iff_getElem.mp hv
  have := Fi i (by omega)
  simpa [List.getD, hi] using this
theorem Ary.ne {Z : State} {h : Heap} {a b : Addr} {ty ty' : FieldType} {vs ws : List Value} (A : Ary Z h a ty vs) (B : Ary Z h b ty' ws) (q : ty ≠ ty') : a ≠ b := by
  rintro rfl
  obtain ⟨c, ⟨A1, ⟨-, k1, hk1, comp1, e1⟩, -⟩, -⟩ := A
  obtain ⟨c', ⟨B1, ⟨-, k2, hk2, comp2, e2⟩, -⟩, -⟩ := B
  cases A1.symm.trans B1
  cases hk1.symm.trans hk2
  have := e1.symm.trans e2
  injection this with _ e3
  exact q e3
theorem Ary.ne_exa {Z : State} {h : Heap} {a b : Addr} {ty : FieldType} {vs : List Value} {C : String} {n : Nat} {a0 : Array Value} (F : Exa Z h a C) (wi : (Jvm.Cond.instantiable C n).before a0 Z = true) (A : Ary Z h b ty vs) : a ≠ b := by obtain ⟨c, A, -⟩ := A; exact ne_arr F wi A
theorem xlt {Z : State} {h : Heap} {a : Addr} {C : String} (F : Exa Z h a C) : @LT.lt Nat instLTNat a (Array.size h) := F.lt
theorem alt {Z : State} {h : Heap} {a : Addr} {ty : FieldType} {vs : List Value} (F : Ary Z h a ty vs) : @LT.lt Nat instLTNat a (Array.size h) := F.lt
theorem nne {a b : Nat} (q : a < b ∨ b < a) : @Ne Addr a b := q.elim Nat.ne_of_lt Nat.ne_of_gt
theorem keepE {h h' : Heap} (E : Ext h h') : Keep h h' [] := (Keep.refl h []).ext E
theorem kmono {h h' : Heap} {ws ws' : List Addr} (K : Keep h h' ws) (q : ∀ x ∈ ws, x ∈ ws') : Keep h h' ws' := ⟨K.1, fun x c h1 h2 => K.2.1 x c h1 fun h3 => h2 (q x h3), K.2.2⟩
theorem k0 {h h' : Heap} {ws : List Addr} (K : Keep h h' []) : Keep h h' ws := kmono K fun _ q => nomatch q
theorem extK {h h' : Heap} (K : Keep h h' []) : Ext h h' := ⟨K.1, fun x c q => K.2.1 x c q nin0⟩
theorem nref {t : FieldType} {v : Value} (hv : v.isRef = true) : narrow t v = v := by cases v <;> first | rfl | (cases t <;> rfl) | simp [Value.isRef] at hv
/-! ### contracts' ends -/
def Rt (P : Value → Heap → List Addr → Prop) : Po := fun v h S => ∃ x, v = some x ∧ P x h S
def Rv (P : Heap → List Addr → Prop) : Po := fun v h S => v = none ∧ P h S
def npar (d : String) : Option Nat := (parseMethodDescriptor d).map fun s => s.parameters.length
theorem npar_len {d : String} {n : Nat} (q : npar d = some n) {L : List Value} (hl : L.length = n) : ∀ sig, parseMethodDescriptor d = some sig → L.length = sig.parameters.length := fun sig hs => by
  simp only [npar, hs, Option.map_some, Option.some.injEq] at q
  omega
def wt (L : List Value) : Nat := (L.map fun v => v.category).sum
abbrev noMH (y : MethodName) : Prop := y.cls ≠ "java/lang/invoke/MethodHandle" ∧ y.cls ≠ "java/lang/invoke/VarHandle"
section Heaps
variable {G : Wd} {I J : Inf} {Q : Po} {K : Rn} {S S' : List Addr} {h : Heap} {cs sl pc pc1 pc' : Nat} {ls ls' : Array Slot} {st rest : List Value} {a0 : Array Value}
theorem Ru.getfield {idx : Nat} {R0 O n d : String} {a : Addr} {v : Value} (hd : D1 I.b pc (.getfield idx) 3 pc') (w : (Jvm.Cond.fieldLink I.y.cls idx R0 n d).before a0 G.Z = true) (via : Via G.Z R0 O n d) (F : Fld G.Z h a O n d v)
    (k : WP G I Q K S h cs sl pc' ls (v :: st)) : WP G I Q K S h cs sl pc ls (.ref a :: st) := by
  obtain ⟨hd, rfl⟩ := hd
  exact WP.quiet (fun vm0 T L ok X hZ hf eT hE => getF (s := K.s.setVm vm0) (host := "") X ok.1 hZ hf (Or.inl w) via eT F (g := mkF K.m pc ls (.ref a :: st)) rfl rfl (ok.2.1 ▸ hd)) k
theorem Ru.putfield {idx n' : Nat} {R0 O n d C : String} {ty : FieldType} {a : Addr} {v old : Value} (hd : D1 I.b pc (.putfield idx) 3 pc') (w : (Jvm.Cond.fieldLink I.y.cls idx R0 n d).before a0 G.Z = true) (via : Via G.Z R0 O n d) (ha : a ∈ S) (F : Fld G.Z h a O n d old) (E : Exa G.Z h a C)
    (L : (Jvm.Cond.lays C O n d).before a0 G.Z = true ∨ ((Jvm.Cond.laysFinal C O n d).before a0 G.Z = true ∧ I.y.cls = O ∧ I.y.name = "<init>")) (wi : (Jvm.Cond.instantiable C n').before a0 G.Z = true) (hty : parseFieldDescriptor d = some ty) (hn : narrow ty v = v) (hf : fits ty v = true)
    (k : ∀ h', Wr h h' a (Jvm.RoadKit.slotOf G.Z O n d) v → WP G I Q K S h' cs sl pc' ls st) : WP G I Q K S h cs sl pc ls (v :: .ref a :: st) := by
  obtain ⟨hd, rfl⟩ := hd
  exact WP.write ha (fun vm0 T Ls ok X hZ hf' eT => putF (s := K.s.setVm vm0) (host := "") X ok.1 hZ hf' (Or.inl w) via eT F E (L.imp id fun q => ⟨q.1, q.2.1, ok.2.2.2.2.2.1.trans q.2.2⟩) wi hty hn hf (g := mkF K.m pc ls (v :: .ref a :: st)) rfl rfl (ok.2.1 ▸ hd)) k
theorem Ru.getstatic {idx : Nat} {C n d : String} {v : Value} (hd : D1 I.b pc (.getstatic idx) 3 pc') (w : (Jvm.Cond.fieldLink I.y.cls idx C n d).before a0 G.Z = true) (F : Sta G.Z G.Z.heap C n d v)
    (k : WP G I Q K S h cs sl pc' ls (v :: st)) : WP G I Q K S h cs sl pc ls st := by
  obtain ⟨hd, rfl⟩ := hd
  exact WP.quiet (fun vm0 T L ok X hZ hf eT hE => getS (s := K.s.setVm vm0) (host := "") X ok.1 hZ hf w Via.refl eT (F.ext hE) (g := mkF K.m pc ls st) rfl (ok.2.1 ▸ hd)) k
theorem Ru.checkcast {idx : Nat} {C : String} {a : Addr} (hd : D1 I.b pc (.checkcast idx) 3 pc') (w : (Jvm.Cond.classLink I.y.cls idx C).before a0 G.Z = true) (F : Ins G.Z h a C true)
    (k : WP G I Q K S h cs sl pc' ls (.ref a :: st)) : WP G I Q K S h cs sl pc ls (.ref a :: st) := by
  obtain ⟨hd, rfl⟩ := hd
  exact WP.quiet (fun vm0 T L ok X hZ hf eT hE => castY (s := K.s.setVm vm0) X ok.1 hZ hf w eT F (g := mkF K.m pc ls (.ref a :: st)) rfl rfl (ok.2.1 ▸ hd)) k
theorem Ru.instanceofY {idx : Nat} {C : String} {a : Addr} (hd : D1 I.b pc (.instanceof idx) 3 pc') (w : (Jvm.Cond.classLink I.y.cls idx C).before a0 G.Z = true) (F : Ins G.Z h a C true)
    (k : WP G I Q K S h cs sl pc' ls (.int 1 :: st)) : WP G I Q K S h cs sl pc ls (.ref a :: st) := by
  obtain ⟨hd, rfl⟩ := hd
  exact WP.quiet (fun vm0 T L ok X hZ hf eT hE => instY (s := K.s.setVm vm0) X ok.1 hZ hf w eT F (g := mkF K.m pc ls (.ref a :: st)) rfl rfl (ok.2.1 ▸ hd)) k
theorem Ru.new {idx n : Nat} {C : String} (hd : D1 I.b pc (.new idx) 3 pc') (w : (Jvm.Cond.classLink I.y.cls idx C).before a0 G.Z = true) (wi : (Jvm.Cond.instantiable C n).before a0 G.Z = true) (wz : (Jvm.Cond.initialized C).before a0 G.Z = true) (hc : cs + 1 ≤ I.R.cells) (hl : sl + n ≤ I.R.slots)
    (k : ∀ h' a, h.size = a → Ext h h' → Exa G.Z h' a C → (∀ {O nm d : String} {ty : FieldType}, Laid G.Z a0 C O nm d → parseFieldDescriptor d = some ty → Fld G.Z h' a O nm d (defaultValue ty)) → WP G I Q K (a :: S) h' (cs + 1) (sl + n) pc' ls (.ref a :: st)) : WP G I Q K S h cs sl pc ls st := by
  obtain ⟨hd, rfl⟩ := hd
  exact WP.alloc (fun vm0 T L ok X hZ hf eT => by
    obtain ⟨T', h', X', e', E, Ex, D, -, stp⟩ := newO (s := K.s.setVm vm0) X ok.1 hZ hf w wi wz eT (g := mkF K.m pc ls st) rfl (ok.2.1 ▸ hd) hc hl
    exact ⟨T', h', X', e', E, Ex.lt, ⟨Ex, fun {O nm d ty} q1 q2 => D (O := O) (nm := nm) (d := d) (ty := ty) q1 q2⟩, stp⟩) (P := fun h' => Exa G.Z h' h.size C ∧ ∀ {O nm d : String} {ty : FieldType}, Laid G.Z a0 C O nm d → parseFieldDescriptor d = some ty → Fld G.Z h' h.size O nm d (defaultValue ty)) fun h' E q => k h' _ rfl E q.1 q.2
theorem Ru.newarray {aty : ArrayType} {n : Int32} {cap : Nat} {ty : FieldType} (hd : D1 I.b pc (.newarray aty) 2 pc') (hty : newarray.typeOf aty = ty) (w : (Jvm.Cond.arrayClass ty).before a0 G.Z = true) (hdf : fits ty (defaultValue ty) = true) (hn : ¬ n < 0) (hcap : n.toNatClampNeg ≤ cap) (hb : cap * 8 ≤ 536870912) (hc : cs + 1 ≤ I.R.cells) (hl : sl + cap ≤ I.R.slots)
    (k : ∀ h' a, h.size = a → Ext h h' → Ary G.Z h' a ty (List.replicate n.toNatClampNeg (defaultValue ty)) → WP G I Q K (a :: S) h' (cs + 1) (sl + cap) pc' ls (.ref a :: st)) : WP G I Q K S h cs sl pc ls (.int n :: st) := by
  obtain ⟨hd, rfl⟩ := hd
  subst hty
  exact WP.alloc (fun vm0 T L ok X hZ hf eT => by
    obtain ⟨T', h', cA, X', e', E, A, stp⟩ := newP (s := K.s.setVm vm0) X ok.1 hZ w eT (g := mkF K.m pc ls (.int n :: st)) rfl (ok.2.1 ▸ hd) rfl hn hcap hb hc hl
    exact ⟨T', h', X', e', E, A.lt, Ary.new A hn hdf, stp⟩) fun h' E q => k h' _ rfl E q
theorem ary_in {Z : State} {h : Heap} {a : Addr} {ty : FieldType} {vs : List Value} {j : Int32} {v : Value} (A : Ary Z h a ty vs) (hj : ¬ j < 0) (hv : vs[j.toNatClampNeg]? = some v) : ∃ c : Cell, Arr Z h a c ty ∧ ¬ (j < 0 ∨ c.slots.size ≤ j.toNatClampNeg) ∧ c.slots[j.toNatClampNeg]? = some v := by
  obtain ⟨c, A, rfl, hl, hf⟩ := A
  rw [Array.getElem?_toList] at hv
  refine ⟨c, A, fun q => ?_, hv⟩
  rcases q with q | q
  · exact hj q
  · rw [Array.getElem?_eq_none q] at hv; cases hv
theorem Ru.arraylength {a : Addr} {ty : FieldType} {vs : List Value} {n : Int32} (hd : D1 I.b pc (.arraylength) 1 pc') (A : Ary G.Z h a ty vs) (hn : vs.length.toInt32 = n)
    (k : WP G I Q K S h cs sl pc' ls (.int n :: st)) : WP G I Q K S h cs sl pc ls (.ref a :: st) := by
  obtain ⟨hd, rfl⟩ := hd
  obtain ⟨c, A, e, -⟩ := A
  have e2 : c.slots.size.toInt32 = n := by rw [← hn, ← e]; simp
  subst e2
  exact WP.quiet (fun vm0 T L ok X hZ hf eT hE => ⟨T, X, eT, fun target s => X.arraylength ok.1 (by rw [eT]; exact A.1) (State.isArrayOf_alike (T := K.s.setVm vm0) hZ.alike A.2.1) (g := mkF K.m pc ls (.ref a :: st)) rfl rfl (ok.2.1 ▸ hd) target s⟩) k
theorem Ru.caload {a : Addr} {vs : List Value} {j : Int32} {v : Value} (hd : D1 I.b pc (.caload) 1 pc') (A : Ary G.Z h a .char vs) (hj : ¬ j < 0) (hv : vs[j.toNatClampNeg]? = some v)
    (k : WP G I Q K S h cs sl pc' ls (v :: st)) : WP G I Q K S h cs sl pc ls (.int j :: .ref a :: st) := by
  obtain ⟨hd, rfl⟩ := hd
  obtain ⟨c, A, q1, q2⟩ := ary_in A hj hv
  exact WP.quiet (fun vm0 T L ok X hZ hf eT hE => ⟨T, X, eT, fun target s => X.caload ok.1 (by rw [eT]; exact A.1) (State.isArrayOf_alike (T := K.s.setVm vm0) hZ.alike A.2.1) A.2.2 q1 q2 (g := mkF K.m pc ls (.int j :: .ref a :: st)) rfl rfl (ok.2.1 ▸ hd) target s⟩) k
theorem Ru.iaload {a : Addr} {vs : List Value} {j : Int32} {v : Value} (hd : D1 I.b pc (.iaload) 1 pc') (A : Ary G.Z h a .int vs) (hj : ¬ j < 0) (hv : vs[j.toNatClampNeg]? = some v)
    (k : WP G I Q K S h cs sl pc' ls (v :: st)) : WP G I Q K S h cs sl pc ls (.int j :: .ref a :: st) := by
  obtain ⟨hd, rfl⟩ := hd
  obtain ⟨c, A, q1, q2⟩ := ary_in A hj hv
  exact WP.quiet (fun vm0 T L ok X hZ hf eT hE => ⟨T, X, eT, fun target s => X.iaload ok.1 (by rw [eT]; exact A.1) (State.isArrayOf_alike (T := K.s.setVm vm0) hZ.alike A.2.1) A.2.2 q1 q2 (g := mkF K.m pc ls (.int j :: .ref a :: st)) rfl rfl (ok.2.1 ▸ hd) target s⟩) k
theorem Ru.baload {a : Addr} {vs : List Value} {j : Int32} {v : Value} (hd : D1 I.b pc (.baload) 1 pc') (A : Ary G.Z h a .byte vs) (hj : ¬ j < 0) (hv : vs[j.toNatClampNeg]? = some v)
    (k : WP G I Q K S h cs sl pc' ls (v :: st)) : WP G I Q K S h cs sl pc ls (.int j :: .ref a :: st) := by
  obtain ⟨hd, rfl⟩ := hd
  obtain ⟨c, A, q1, q2⟩ := ary_in A hj hv
  exact WP.quiet (fun vm0 T L ok X hZ hf eT hE => ⟨T, X, eT, fun target s => X.baloadBytes ok.1 (by rw [eT]; exact A.1) (State.isArrayOf_alike (T := K.s.setVm vm0) hZ.alike A.2.1) A.2.2 q1 q2 (g := mkF K.m pc ls (.int j :: .ref a :: st)) rfl rfl (ok.2.1 ▸ hd) target s⟩) k
theorem Ru.aaload {a : Addr} {ty : FieldType} {vs : List Value} {j : Int32} {v : Value} (hd : D1 I.b pc (.aaload) 1 pc') (A : Ary G.Z h a ty vs) (hty : ty.isReference = true) (hj : ¬ j < 0) (hv : vs[j.toNatClampNeg]? = some v)
    (k : WP G I Q K S h cs sl pc' ls (v :: st)) : WP G I Q K S h cs sl pc ls (.int j :: .ref a :: st) := by
  obtain ⟨hd, rfl⟩ := hd
  obtain ⟨c, A, q1, q2⟩ := ary_in A hj hv
  exact WP.quiet (fun vm0 T L ok X hZ hf eT hE => ⟨T, X, eT, fun target s => X.aaload ok.1 (by rw [eT]; exact A.1) (State.isArrayOf_alike (T := K.s.setVm vm0) hZ.alike A.2.1) hty A.2.2 q1 q2 (g := mkF K.m pc ls (.int j :: .ref a :: st)) rfl rfl (ok.2.1 ▸ hd) target s⟩) k
theorem ary_at {Z : State} {h : Heap} {a : Addr} {ty : FieldType} {vs : List Value} {j : Int32} (A : Ary Z h a ty vs) (hj : ¬ j < 0) (hl : j.toNatClampNeg < vs.length) : ∃ c : Cell, Arr Z h a c ty ∧ ¬ (j < 0 ∨ c.slots.size ≤ j.toNatClampNeg) := by
  obtain ⟨c, A1, q1, -⟩ := ary_in A hj (List.getElem?_eq_getElem hl)
  exact ⟨c, A1, q1⟩
theorem Ru.castore {a : Addr} {vs : List Value} {j x x' : Int32} (hd : D1 I.b pc (.castore) 1 pc') (ha : a ∈ S) (A : Ary G.Z h a .char vs) (hj : ¬ j < 0) (hl : j.toNatClampNeg < vs.length) (hx : nar .char x = x')
    (k : ∀ h', Keep h h' [a] → Ary G.Z h' a .char (vs.set j.toNatClampNeg (.int x')) → WP G I Q K S h' cs sl pc' ls st) : WP G I Q K S h cs sl pc ls (.int x :: .int j :: .ref a :: st) := by
  obtain ⟨hd, rfl⟩ := hd
  subst hx
  obtain ⟨c, A1, q1⟩ := ary_at A hj hl
  exact WP.write ha (fun vm0 T L ok X hZ hf eT => stC (s := K.s.setVm vm0) X ok.1 hZ eT A1 q1 (g := mkF K.m pc ls (.int x :: .int j :: .ref a :: st)) rfl rfl (ok.2.1 ▸ hd)) fun h' W => k h' (Keep.of_wr W) (A.set W (fits_nar_char x))
theorem Ru.bastore {a : Addr} {vs : List Value} {j x : Int32} (hd : D1 I.b pc (.bastore) 1 pc') (ha : a ∈ S) (A : Ary G.Z h a .byte vs) (hj : ¬ j < 0) (hl : j.toNatClampNeg < vs.length)
    (k : ∀ h', Keep h h' [a] → Ary G.Z h' a .byte (vs.set j.toNatClampNeg (.int x.toInt8.toInt32)) → WP G I Q K S h' cs sl pc' ls st) : WP G I Q K S h cs sl pc ls (.int x :: .int j :: .ref a :: st) := by
  obtain ⟨hd, rfl⟩ := hd
  obtain ⟨c, A1, q1⟩ := ary_at A hj hl
  exact WP.write ha (fun vm0 T L ok X hZ hf eT => stB (s := K.s.setVm vm0) X ok.1 hZ eT A1 q1 (g := mkF K.m pc ls (.int x :: .int j :: .ref a :: st)) rfl rfl (ok.2.1 ▸ hd)) fun h' W => k h' (Keep.of_wr W) (A.set W (fits_nar_byte x))
theorem Ru.iastore {a : Addr} {vs : List Value} {j x : Int32} (hd : D1 I.b pc (.iastore) 1 pc') (ha : a ∈ S) (A : Ary G.Z h a .int vs) (hj : ¬ j < 0) (hl : j.toNatClampNeg < vs.length)
    (k : ∀ h', Keep h h' [a] → Ary G.Z h' a .int (vs.set j.toNatClampNeg (.int x)) → WP G I Q K S h' cs sl pc' ls st) : WP G I Q K S h cs sl pc ls (.int x :: .int j :: .ref a :: st) := by
  obtain ⟨hd, rfl⟩ := hd
  obtain ⟨c, A1, q1⟩ := ary_at A hj hl
  exact WP.write ha (fun vm0 T L ok X hZ hf eT => stI (s := K.s.setVm vm0) X ok.1 hZ eT A1 q1 (g := mkF K.m pc ls (.int x :: .int j :: .ref a :: st)) rfl rfl (ok.2.1 ▸ hd)) fun h' W => k h' (Keep.of_wr W) (A.set W rfl)
theorem Ru.ldcInt {idx : Nat} {x : Int32} (hd : D1 I.b pc (.ldc idx) 2 pc') (w : (Jvm.Cond.constant I.y.cls idx x).before a0 G.Z = true)
    (k : WP G I Q K S h cs sl pc' ls (.int x :: st)) : WP G I Q K S h cs sl pc ls st := by
  obtain ⟨hd, rfl⟩ := hd
  exact WP.quiet (fun vm0 T L ok X hZ hf eT hE => ⟨T, X, eT, fun target s => X.ldcInt ok.1 hf (mvT (s := K.s.setVm vm0) hZ w) (g := mkF K.m pc ls st) rfl (ok.2.1 ▸ hd) target s⟩) k
theorem Ru.ldc2Long {idx : Nat} {x : Int64} (hd : D1 I.b pc (.ldc2_w idx) 3 pc') (w : (Jvm.Cond.constantLong I.y.cls idx x).before a0 G.Z = true)
    (k : WP G I Q K S h cs sl pc' ls (.long x :: st)) : WP G I Q K S h cs sl pc ls st := by
  obtain ⟨hd, rfl⟩ := hd
  exact WP.quiet (fun vm0 T L ok X hZ hf eT hE => ⟨T, X, eT, fun target s => X.ldc2Long ok.1 hf (mvT (s := K.s.setVm vm0) hZ w) (g := mkF K.m pc ls st) rfl (ok.2.1 ▸ hd) target s⟩) k
/-- a String constant of the list, its text read -/
theorem Ru.ldcStr {idx n : Nat} {text : String} {vs : List Value} (hnar : G.nar = false) (hd : D1 I.b pc (.ldc idx) 2 pc') (hm : (I.y.cls, idx) ∈ G.E) (w : (Jvm.Cond.stringLink I.y.cls idx text).before a0 G.Z = true) (wS : ∀ a ∈ Bundle.stringAtoms, a.before a0 G.Z = true)
    (ht : (∀ c ∈ text.toList, c.toNat < 256) ∧ text.toList.map (fun c => Value.int (Jvm.Lit.byteI c.toNat.toUInt16)) = vs) (hlen : vs.length < 134217728) (hn : 4 * text.toList.length ≤ n) (hbig : n ≤ 536870912) (hc : cs + 2 ≤ I.R.cells) (hl : sl + (n + 4) ≤ I.R.slots)
    (k : ∀ h' a b, Ext h h' → Exa G.Z h' a "java/lang/String" → Fld G.Z h' a "java/lang/String" "coder" "B" (.int 0) → Fld G.Z h' a "java/lang/String" "value" "[B" (.ref b) → Ary G.Z h' b .byte vs → (∀ x ∈ S, x ≠ a ∧ x ≠ b) → WP G I Q K S h' (cs + 2) (sl + (n + 4)) pc' ls (.ref a :: st)) : WP G I Q K S h cs sl pc ls st := by
  obtain ⟨hd, rfl⟩ := hd
  intro ok vm0 k0 T L ⟨X, hZ, hS, hk, hf, eT, hE, hF, hW, hC, hN⟩
  obtain ⟨a1, hEL⟩ := ok.2.2.2.2.2.2
  have z1 : ¬ (vs.length.toInt32) < 0 ∧ vs.length.toInt32.toNatClampNeg = vs.length := by
    have e : (vs.length.toInt32).toInt = vs.length := by
      rw [show vs.length.toInt32 = Int32.ofNat vs.length from rfl, Int32.toInt_ofNat_of_lt (by omega)]
    refine ⟨by rw [Int32.lt_iff_toInt_lt, e]; simp, ?_⟩
    rw [Int32.toNatClampNeg, e]; simp
  obtain ⟨a, T', h', k1, b, kk, X', e', E, hS', hk', hZ', hf', x1, x2, x3, x4, x5, x6, hC', -, hsf, stp⟩ := ldcCH (a0 := a0) X ok.1 hZ hf w wS eT hS hk (fun p hp => by obtain ⟨t, q1, q2⟩ := hEL p hp; exact ⟨t, by simpa [Jvm.Cond.before, Jvm.Cond.holds, Jvm.Cond.value] using q1, q2⟩) hm hC.1 ht z1.1 z1.2 (g := mkF K.m pc ls st) rfl (ok.2.1 ▸ hd) hn hbig hc hl
  obtain ⟨t, o, st1, r⟩ := k h' a b E x1 x2 x3 (Arv.ary x4 z1.2) (fun x hx => hsf x (hC'.safe (hW x hx).2.1 (hW x hx).2.2)) ok T'.vm k1 T' L ⟨X', hZ', hS', hk', hf', e', ⟨Nat.le_trans hE.1 E.1, fun x c q => E.2 x c (hE.2 x c q)⟩, hF, hW.on hC', hC.trans hC', fun q => by rw [hnar] at q; cases q⟩
  exact ⟨t, o, stp _ st1, r⟩
/-- a String constant, unread -/
theorem Ru.ldcO {idx n : Nat} {text : String} (hnar : G.nar = false) (hd : D1 I.b pc (.ldc idx) 2 pc') (w : (Jvm.Cond.stringLink I.y.cls idx text).before a0 G.Z = true) (wS : ∀ a ∈ Bundle.stringAtoms, a.before a0 G.Z = true)
    (hn : 4 * text.toList.length ≤ n) (hbig : n ≤ 536870912) (hc : cs + 2 ≤ I.R.cells) (hl : sl + (n + 4) ≤ I.R.slots)
    (k : ∀ h' a, Ext h h' → WP G I Q K S h' (cs + 2) (sl + (n + 4)) pc' ls (.ref a :: st)) : WP G I Q K S h cs sl pc ls st := by
  obtain ⟨hd, rfl⟩ := hd
  intro ok vm0 k0 T L ⟨X, hZ, hS, hk, hf, eT, hE, hF, hW, hC, hN⟩
  obtain ⟨a1, hEL⟩ := ok.2.2.2.2.2.2
  obtain ⟨a2, hEL2⟩ : ∃ a2, EW G.Z a2 G.E := ⟨a1, hEL⟩
  obtain ⟨a, T', h', k1, X', e', E, hS', hk', hZ', hf', hC', -, stp⟩ := ldcOH (a0 := a0) X ok.1 hZ hf w wS eT hS hk (fun p hp => by obtain ⟨t, q1, q2⟩ := hEL p hp; exact ⟨t, by simpa [Jvm.Cond.before, Jvm.Cond.holds, Jvm.Cond.value] using q1, q2⟩) hC.1 (g := mkF K.m pc ls st) rfl (ok.2.1 ▸ hd) hn hbig hc hl
  obtain ⟨t, o, st1, r⟩ := k h' a E ok T'.vm k1 T' L ⟨X', hZ', hS', hk', hf', e', ⟨Nat.le_trans hE.1 E.1, fun x c q => E.2 x c (hE.2 x c q)⟩, hF, hW.on hC', hC.trans hC', fun q => by rw [hnar] at q; cases q⟩
  exact ⟨t, o, stp _ st1, r⟩
/-- Object's constructor -/
theorem Ru.initO {idx : Nat} {a : Addr} (hd : D1 I.b pc (.invokespecial idx) 3 pc') (w1 : (Jvm.Cond.methodLink I.y.cls idx Lib.objectInit).before a0 G.Z = true) (w2 : (Jvm.Cond.instanceMethod Lib.objectInit).before a0 G.Z = true) (w3 : (Jvm.Cond.code Lib.objectInit ⟨#[0xb1]⟩ 1 none).before a0 G.Z = true)
    (hs : ls.size = I.n) (hf : 1 ≤ I.R.frames) (hl : wt st + 12 ≤ I.R.locals) (k : WP G I Q K S h cs sl pc' ls st) : WP G I Q K S h cs sl pc ls (.ref a :: st) := by
  obtain ⟨hd, rfl⟩ := hd
  exact WP.quiet (fun vm0 T L ok X hZ hf' eT hE => RoadKit.initO (s := K.s.setVm vm0) X ok.1 hZ hf' w1 w2 w3 eT (g := mkF K.m pc ls (.ref a :: st)) rfl (hs.trans ok.2.2.1.symm) rfl (ok.2.1 ▸ hd) hf (W := wt st) (by show 2 * 0 + _ ≤ _; exact Nat.le_of_eq (Nat.zero_add _)) hl) k
/-! returns -/
theorem Ru.out {v : Option Value} (hv : I.r = none → v = none) (hs : ∀ x ∈ S', x ∈ S) (hc : cs ≤ I.R.cells) (hl : sl ≤ I.R.slots) (hq : Q v h S')
    (hst : ∀ vm0 T L, Ok G I K → Stand K.p G.l K.e I.R (K.s.setVm vm0) K.m K.args K.below K.meth K.c T L cs sl → ∀ fs, (∀ (f : JFrame) (acts : List Action), f.method = K.m → f.locked = none → f.entered = [] → (doReturn K.e (T.setTop f) acts v).1 = T.setFrames fs) → Steps K.p.tables K.e K.below (T.setTop (mkF K.m pc ls st)) (T.setFrames fs)) : WP G I Q K S h cs sl pc ls st := by
  intro ok vm0 k0 T L ⟨X, hZ, hS, hk, hf, eT, hE, hF, hW, hC, hN⟩
  obtain ⟨fs, hr, h1, h2, h3⟩ := X.leaveW hS (by rw [eT]; exact hk) (v := v) (fun q => hv (ok.2.2.2.1.symm.trans q)) ok.2.2.2.2.1
  have hT : (T.setFrames fs).heap = h := eT
  have hvm : (T.setFrames fs).vm = T.vm := rfl
  obtain ⟨a1, hEL⟩ := ok.2.2.2.2.2.2
  have C2 : CHr G.Z G.E vm0 h T.vm h := CHv.at X hZ hEL hC.1
  refine ⟨_, _, hst vm0 T L ok X fs hr, h1, h2, v, L, rfl, ⟨⟨S', by rw [hT]; exact hq, by rw [hT, hvm]; exact (hW.on C2).sub hs⟩, hF, by rw [hT]; exact hE⟩, by rw [hT, hvm]; exact hC.trans C2, ?_, fun hn => State.WarmedH.trans (t := K.s.setVm vm0) (hN hn) X.warmed⟩
  exact ⟨h3.1, h3.2.1, h3.2.2.1, h3.2.2.2.mono hc hl⟩
theorem Ru.ret (hd : D1 I.b pc (.return_) 1 pc') (hr : I.r = none) (S' : List Addr) (hs : ∀ x ∈ S', x ∈ S) (hc : cs ≤ I.R.cells) (hl : sl ≤ I.R.slots) (hq : Q none h S') : WP G I Q K S h cs sl pc ls [] :=
  Ru.out (fun _ => rfl) hs hc hl hq fun vm0 T L ok X fs hf => X.returnOut ok.1 (ok.2.2.2.1.trans hr) (ok.2.1 ▸ hd.1) hf
theorem Ru.ireturn {x : Int32} (hd : D1 I.b pc (.ireturn) 1 pc') (hr : I.r = some .int) (S' : List Addr) (hs : ∀ x ∈ S', x ∈ S) (hc : cs ≤ I.R.cells) (hl : sl ≤ I.R.slots) (hq : Q (some (.int x)) h S') : WP G I Q K S h cs sl pc ls (.int x :: st) :=
  Ru.out (fun q => by rw [hr] at q; cases q) hs hc hl hq fun vm0 T L ok X fs hf => retOut X ok.1 (t := .int) (i := .ireturn) (ok.2.2.2.1.trans hr) rfl (Or.inl ⟨rfl, Or.inl rfl, x, rfl⟩) (ok.2.1 ▸ hd.1) hf
theorem Ru.ireturnN {x x' : Int32} {t : FieldType} (hd : D1 I.b pc (.ireturn) 1 pc') (hr : I.r = some t) (ht : t = .boolean ∨ t = .byte ∨ t = .char ∨ t = .short) (hx : nar t x = x') (S' : List Addr) (hs : ∀ x ∈ S', x ∈ S) (hc : cs ≤ I.R.cells) (hl : sl ≤ I.R.slots) (hq : Q (some (.int x')) h S') : WP G I Q K S h cs sl pc ls (.int x :: st) := by
  subst hx
  exact Ru.out (fun q => by rw [hr] at q; cases q) hs hc hl hq fun vm0 T L ok X fs hf => retN X ok.1 (t := t) (ok.2.2.2.1.trans hr) ht (ok.2.1 ▸ hd.1) hf
theorem Ru.lreturn {x : Int64} (hd : D1 I.b pc (.lreturn) 1 pc') (hr : I.r = some .long) (S' : List Addr) (hs : ∀ x ∈ S', x ∈ S) (hc : cs ≤ I.R.cells) (hl : sl ≤ I.R.slots) (hq : Q (some (.long x)) h S') : WP G I Q K S h cs sl pc ls (.long x :: st) :=
  Ru.out (fun q => by rw [hr] at q; cases q) hs hc hl hq fun vm0 T L ok X fs hf => retOut X ok.1 (t := .long) (i := .lreturn) (ok.2.2.2.1.trans hr) rfl (Or.inr (Or.inl ⟨rfl, rfl, x, rfl⟩)) (ok.2.1 ▸ hd.1) hf
theorem Ru.areturn {v : Value} {t : FieldType} (hd : D1 I.b pc (.areturn) 1 pc') (hr : I.r = some t) (ht : t.isReference = true) (hv : v.isRef = true) (hn : narrow t v = v) (S' : List Addr) (hs : ∀ x ∈ S', x ∈ S) (hc : cs ≤ I.R.cells) (hl : sl ≤ I.R.slots) (hq : Q (some v) h S') : WP G I Q K S h cs sl pc ls (v :: st) :=
  Ru.out (fun q => by rw [hr] at q; cases q) hs hc hl hq fun vm0 T L ok X fs hf => retOut X ok.1 (t := t) (i := .areturn) (ok.2.2.2.1.trans hr) hn (Or.inr (Or.inr (Or.inr (Or.inr ⟨rfl, ht, hv⟩)))) (ok.2.1 ▸ hd.1) hf
/-! calls -/
theorem Ru.callS0 {as' : Array Value} {idx : Nat} {argsL : List Value} {Q' : Po} (M : Met G J as' h S' Q') (hd : D1 I.b pc (.invokestatic idx) 3 pc') (w1 : (Jvm.Cond.methodLink I.y.cls idx J.y).before a0 G.Z = true) (w2 : (Jvm.Cond.static J.y).before a0 G.Z = true) (w3 : (Jvm.Cond.initialized J.y.cls).before a0 G.Z = true) (w4 : (Jvm.Cond.code J.y J.b J.n J.r).before a0 G.Z = true)
    (hy : noMH J.y) (hnp : npar J.y.desc = some argsL.length) (hs : ls.size = I.n) (ha : as' = argsL.toArray) (hst : st = argsL.reverse ++ rest) (hS' : ∀ x ∈ S', x ∈ S) (hf : J.R.frames + 1 ≤ I.R.frames) (hl : wt rest + (J.n + 11) + J.R.locals ≤ I.R.locals) (hc : cs + J.R.cells ≤ I.R.cells) (hsl : sl + J.R.slots ≤ I.R.slots)
    (k : ∀ v h' S2, Q' v h' S2 → WP G I Q K (S2 ++ S) h' (cs + J.R.cells) (sl + J.R.slots) pc' ls (v.toList ++ rest)) : WP G I Q K S h cs sl pc ls st := by
  obtain ⟨hd, rfl⟩ := hd
  subst ha hst
  refine WP.came M w4 w3 hS' (W := wt rest) (len := 3) hf hl (rest := rest) (pc' := pc + 3) ?_ k
  intro vm0 T L ok X hZ hf' eT Post hB
  obtain ⟨v, vm₁, B, -, X', h1, h2, h3, h4⟩ := callSS (s := K.s.setVm vm0) X ok.1 hf' (mvT (s := K.s.setVm vm0) hZ w1) (mvT (s := K.s.setVm vm0) hZ w2) (mvT (s := K.s.setVm vm0) hZ w3) (mvT (s := K.s.setVm vm0) hZ w4) hy hB (g := mkF K.m pc ls (argsL.reverse ++ rest)) rfl (hs.trans ok.2.2.1.symm) (argsL := argsL) (rest := rest) (npar_len hnp rfl) rfl (by show 2 * 0 + _ ≤ _; exact Nat.le_of_eq (Nat.zero_add _)) (ok.2.1 ▸ hd) (fun _ _ => ⟨rfl, eT, hc, hsl⟩)
  exact ⟨v, vm₁, B, X', h1, h2, h3, h4⟩
theorem Ru.callI0 {as' : Array Value} {idx : Nat} {argsL : List Value} {a : Addr} {Q' : Po} (M : Met G J as' h S' Q') (hd : D1 I.b pc (.invokespecial idx) 3 pc') (hr : J.r = none) (hn : J.y.name = "<init>") (w1 : (Jvm.Cond.methodLink I.y.cls idx J.y).before a0 G.Z = true) (w2 : (Jvm.Cond.instanceMethod J.y).before a0 G.Z = true) (w3 : (Jvm.Cond.initialized J.y.cls).before a0 G.Z = true) (w4 : (Jvm.Cond.code J.y J.b J.n J.r).before a0 G.Z = true)
    (hy : noMH J.y) (hnp : npar J.y.desc = some argsL.length) (hs : ls.size = I.n) (ha : as' = (.ref a :: argsL).toArray) (hst : st = argsL.reverse ++ .ref a :: rest) (hS' : ∀ x ∈ S', x ∈ S) (hf : J.R.frames + 1 ≤ I.R.frames) (hl : wt rest + (J.n + 11) + J.R.locals ≤ I.R.locals) (hc : cs + J.R.cells ≤ I.R.cells) (hsl : sl + J.R.slots ≤ I.R.slots)
    (k : ∀ v h' S2, Q' v h' S2 → WP G I Q K (S2 ++ S) h' (cs + J.R.cells) (sl + J.R.slots) pc' ls (v.toList ++ rest)) : WP G I Q K S h cs sl pc ls st := by
  obtain ⟨hd, rfl⟩ := hd
  subst ha hst
  refine WP.came M w4 w3 hS' (W := wt rest) (len := 3) hf hl (rest := rest) (pc' := pc + 3) ?_ k
  intro vm0 T L ok X hZ hf' eT Post hB
  rw [hr] at w4
  obtain ⟨v, vm₁, B, -, X', h1, h2, h3, h4⟩ := X.specialBackS ok.1 hn hf' (mvT (s := K.s.setVm vm0) hZ w1) (mvT (s := K.s.setVm vm0) hZ w2) (mvT (s := K.s.setVm vm0) hZ w4) hy hB (g := mkF K.m pc ls (argsL.reverse ++ .ref a :: rest)) rfl (hs.trans ok.2.2.1.symm) (Steps.refl _) (a := a) (argsL := argsL) (rest := rest) (npar_len hnp rfl) rfl (by show 2 * 0 + _ ≤ _; exact Nat.le_of_eq (Nat.zero_add _)) (ok.2.1 ▸ hd) (fun _ _ => ⟨rfl, eT, hc, hsl⟩)
  exact ⟨v, vm₁, B, X', h1, h2, h3, h4⟩
theorem Ru.callV0 {as' : Array Value} {idx : Nat} {argsL : List Value} {a : Addr} {C : String} {y : MethodName} {Q' : Po} (M : Met G J as' h S' Q') (hd : D1 I.b pc (.invokevirtual idx) 3 pc') (E : Exa G.Z h a C) (w1 : (Jvm.Cond.methodLink I.y.cls idx y).before a0 G.Z = true) (w2 : (Jvm.Cond.declares y).before a0 G.Z = true) (hnf : ∀ s : State, G.Z.Warmed39 s.vm → NotFace s y) (w3 : (Jvm.Cond.selects C y J.y).before a0 G.Z = true) (w4 : (Jvm.Cond.instanceMethod J.y).before a0 G.Z = true) (w5 : (Jvm.Cond.initialized J.y.cls).before a0 G.Z = true) (w6 : (Jvm.Cond.code J.y J.b J.n J.r).before a0 G.Z = true)
    (hy : noMH y) (hnp : npar y.desc = some argsL.length) (hs : ls.size = I.n) (ha : as' = (.ref a :: argsL).toArray) (hst : st = argsL.reverse ++ .ref a :: rest) (hS' : ∀ x ∈ S', x ∈ S) (hf : J.R.frames + 1 ≤ I.R.frames) (hl : wt rest + (J.n + 11) + J.R.locals ≤ I.R.locals) (hc : cs + J.R.cells ≤ I.R.cells) (hsl : sl + J.R.slots ≤ I.R.slots)
    (k : ∀ v h' S2, Q' v h' S2 → WP G I Q K (S2 ++ S) h' (cs + J.R.cells) (sl + J.R.slots) pc' ls (v.toList ++ rest)) : WP G I Q K S h cs sl pc ls st := by
  obtain ⟨hd, rfl⟩ := hd
  subst ha hst
  refine WP.came M w6 w5 hS' (W := wt rest) (len := 3) hf hl (rest := rest) (pc' := pc + 3) ?_ k
  intro vm0 T L ok X hZ hf' eT Post hB
  obtain ⟨cq, kq, qa, qb, qc⟩ := isOf (s := K.s.setVm vm0) (T := T) hZ eT E
  obtain ⟨v, vm₁, B, -, X', h1, h2, h3, h4⟩ := X.virtualBackS ok.1 hf' (mvT (s := K.s.setVm vm0) hZ w1) (mvT (s := K.s.setVm vm0) hZ w2) (hnf (K.s.setVm vm0) hZ) (mvT (s := K.s.setVm vm0) hZ w3) (mvT (s := K.s.setVm vm0) hZ w4) hy hB qa qc (g := mkF K.m pc ls (argsL.reverse ++ .ref a :: rest)) rfl (hs.trans ok.2.2.1.symm) (Steps.refl _) (argsL := argsL) (rest := rest) (npar_len hnp rfl) rfl (by show 2 * 0 + _ ≤ _; exact Nat.le_of_eq (Nat.zero_add _)) (ok.2.1 ▸ hd) (fun _ _ => ⟨rfl, eT, hc, hsl⟩)
  exact ⟨v, vm₁, B, X', h1, h2, h3, h4⟩
theorem WP.rt {P : Value → Heap → List Addr → Prop} {cs' sl' : Nat} (k : ∀ x h' S2, P x h' S2 → WP G I Q K (S2 ++ S) h' cs' sl' pc' ls (x :: rest)) : ∀ v h' S2, Rt P v h' S2 → WP G I Q K (S2 ++ S) h' cs' sl' pc' ls (v.toList ++ rest) := by
  rintro v h' S2 ⟨x, rfl, q⟩
  exact k x h' S2 q
theorem WP.rv {P : Heap → List Addr → Prop} {cs' sl' : Nat} (k : ∀ h' S2, P h' S2 → WP G I Q K (S2 ++ S) h' cs' sl' pc' ls rest) : ∀ v h' S2, Rv P v h' S2 → WP G I Q K (S2 ++ S) h' cs' sl' pc' ls (v.toList ++ rest) := by
  rintro v h' S2 ⟨rfl, q⟩
  exact k h' S2 q
theorem nf_sel {C : String} {y : MethodName} {Z : State} (w : (Jvm.Cond.selects C y y).before a0 Z = true) : ∀ s : State, Z.Warmed39 s.vm → NotFace s y := fun s hZ => notFace_of_selects (args := #[]) (mvT (s := s) hZ w)
end Heaps
end Jvm.Own
namespace Jvm.Own
open Jvm Jvm.ClassFile Sem Op Lib Jvm.Free Jvm.Stand Jvm.LawKit Jvm.RoadKit Bundle
/-! ### small naturals as ints; chars; Strings -/
def n32 (n : Nat) : Int32 := Int32.ofNat n
theorem n32_int {n : Nat} (h : n < 2147483648) : (n32 n).toInt = n := Int32.toInt_ofNat_of_lt (by omega)
theorem n32_cl {n : Nat} (h : n < 2147483648) : (n32 n).toNatClampNeg = n := by rw [Int32.toNatClampNeg, n32_int h]; simp
theorem n32_nn {n : Nat} (h : n < 2147483648) : ¬ n32 n < 0 := by rw [Int32.lt_iff_toInt_lt, n32_int h]; simp
theorem n32_lt {n m : Nat} (h : n < 2147483648) (h' : m < 2147483648) : n32 n < n32 m ↔ n < m := by rw [Int32.lt_iff_toInt_lt, n32_int h, n32_int h']; omega
theorem n32_eq {n m : Nat} (h : n < 2147483648) (h' : m < 2147483648) : n32 n = n32 m ↔ n = m := ⟨fun q => by have := congrArg Int32.toInt q; rw [n32_int h, n32_int h'] at this; omega, fun q => by rw [q]⟩
theorem n32_add (n m : Nat) : n32 n + n32 m = n32 (n + m) := (Int32.ofNat_add n m).symm
theorem n32_succ (n : Nat) : n32 n + (1 : Int32) = n32 (n + 1) := n32_add n 1
theorem n32_sub {n m : Nat} (h : n < 2147483648) (q : m ≤ n) : n32 n - n32 m = n32 (n - m) := by
  apply Int32.toInt_inj.mp
  rw [Int32.toInt_sub, n32_int h, n32_int (by omega), n32_int (by omega)]
  rw [Int.bmod_eq_of_le (by omega) (by omega)]; omega
theorem n32_len (vs : List Value) : vs.length.toInt32 = n32 vs.length := rfl
/-- a char; a char of Latin-1 -/
def IsC (c : Int32) : Prop := ¬ c < 0 ∧ ¬ (65535 : Int32) < c
def IsL (c : Int32) : Prop := ¬ c < 0 ∧ ¬ (255 : Int32) < c
theorem IsL.c {c : Int32} (q : IsL c) : IsC c := by
  obtain ⟨h1, h2⟩ := q
  refine ⟨h1, fun h => h2 ?_⟩
  rw [Int32.lt_iff_toInt_lt] at *
  exact Int.lt_trans (by decide) h
theorem IsC.int {c : Int32} (q : IsC c) : 0 ≤ c.toInt ∧ c.toInt < 65536 := by
  obtain ⟨h1, h2⟩ := q
  rw [Int32.lt_iff_toInt_lt] at h1 h2
  have e1 : (0 : Int32).toInt = 0 := rfl
  have e2 : (65535 : Int32).toInt = 65535 := rfl
  omega
theorem IsL.int {c : Int32} (q : IsL c) : 0 ≤ c.toInt ∧ c.toInt < 256 := by
  obtain ⟨h1, h2⟩ := q
  rw [Int32.lt_iff_toInt_lt] at h1 h2
  have e1 : (0 : Int32).toInt = 0 := rfl
  have e2 : (255 : Int32).toInt = 255 := rfl
  omega
theorem IsC.of {c : Int32} (h1 : 0 ≤ c.toInt) (h2 : c.toInt < 65536) : IsC c := by
  constructor <;> rw [Int32.lt_iff_toInt_lt]
  · have : (0 : Int32).toInt = 0 := rfl
    omega
  · have : (65535 : Int32).toInt = 65535 := rfl
    omega
theorem IsL.of {c : Int32} (h1 : 0 ≤ c.toInt) (h2 : c.toInt < 256) : IsL c := by
  constructor <;> rw [Int32.lt_iff_toInt_lt]
  · have : (0 : Int32).toInt = 0 := rfl
    omega
  · have : (255 : Int32).toInt = 255 := rfl
    omega
theorem i2c_id {c : Int32} (q : IsC c) : c.toUInt32.toUInt16.toUInt32.toInt32 = c := by
  have h := q.int
  have h2 := c_i2c c
  apply Int32.toInt_inj.mp
  omega
theorem nar_c {c : Int32} (q : IsC c) : nar .char c = c := i2c_id q
theorem i2c_isC (x : Int32) : IsC x.toUInt32.toUInt16.toUInt32.toInt32 := by
  have h := c_i2c x
  exact IsC.of (by omega) (by omega)
theorem and255_isL (x : Int32) : IsL (x &&& 255) := by
  have h := c_mask x 255 8 (by decide) (by decide)
  refine IsL.of ?_ ?_ <;> rw [h]
  · exact Int.emod_nonneg _ (by decide)
  · exact Int.emod_lt_of_pos _ (by decide)
theorem i8i8 (x : Int32) : x.toInt8.toInt32.toInt8.toInt32 = x.toInt8.toInt32 := by simp
/-- a char's byte in Latin-1 -/
def lat (c : Int32) : Value := .int c.toInt8.toInt32
theorem set_step {α β : Type} (f : α → β) {cs : List α} {vs : List β} {i : Nat} {c : α} (hc : cs[i]? = some c) (hv : i < vs.length) : ((cs.take i).map f ++ vs.drop i).set i (f c) = (cs.take (i + 1)).map f ++ vs.drop (i + 1) := by
  have hi : i < cs.length := (List.getElem?_eq_some_iff.mp hc).1
  have e : cs[i] = c := (List.getElem?_eq_some_iff.mp hc).2
  have e1 : (List.map f (cs.take i)).length = i := by simp; omega
  rw [List.set_append, e1, if_neg (Nat.lt_irrefl i), Nat.sub_self, List.take_succ_eq_append_getElem hi, e, List.map_append, List.append_assoc]
  congr 1
  rw [List.drop_eq_getElem_cons hv]
  rfl
theorem cfal_nar {n m : Nat} (hq : n ≤ m) (hl : m < 2147483648) : nar .byte (((n32 n - n32 m).toUInt32 >>> ((31 : Int32) &&& 31).toUInt32).toInt32).toInt8.toInt32 = if m = n then (0 : Int32) else (1 : Int32) := by
  by_cases e : m = n
  · subst e
    rw [if_pos rfl, Int32.sub_self]; decide
  · rw [if_neg e]
    have h1 : (n32 n - n32 m).toInt = (n : Int) - m := by
      rw [Int32.toInt_sub, n32_int (by omega), n32_int hl, Int.bmod_eq_of_le (by omega) (by omega)]
    have h2 := c_iushr (n32 n - n32 m) 31 31 (by decide) (by decide)
    rw [h1] at h2
    have h3 : ((n : Int) - m) % 4294967296 / ((2 ^ 31 : Nat) : Int) = 1 := by omega
    rw [h3] at h2
    have h4 : ((n32 n - n32 m).toUInt32 >>> ((31 : Int32) &&& 31).toUInt32).toInt32 = 1 := Int32.toInt_inj.mp (h2.trans rfl)
    rw [h4]; decide
/-- a String whose chars are all of Latin-1: its object a, its byte[] t -/
def StrL (Z : State) (h : Heap) (a t : Addr) (cs : List Int32) : Prop := Exa Z h a "java/lang/String" ∧ Fld Z h a "java/lang/String" "value" "[B" (.ref t) ∧ Fld Z h a "java/lang/String" "coder" "B" (.int 0) ∧ Ary Z h t .byte (cs.map lat) ∧ ∀ c ∈ cs, IsL c
theorem StrL.keep {Z : State} {h h' : Heap} {a t : Addr} {cs : List Int32} {ws : List Addr} (F : StrL Z h a t cs) (K : Keep h h' ws) (qa : a ∉ ws) (qt : t ∉ ws) : StrL Z h' a t cs :=
  ⟨F.1.keep K, F.2.1.keep K qa, F.2.2.1.keep K qa, F.2.2.2.1.keep K qt, F.2.2.2.2⟩
theorem StrL.ext {Z : State} {h h' : Heap} {a t : Addr} {cs : List Int32} (F : StrL Z h a t cs) (E : Ext h h') : StrL Z h' a t cs := F.keep (keepE E) nin0 nin0
theorem StrL.lt {Z : State} {h : Heap} {a t : Addr} {cs : List Int32} (F : StrL Z h a t cs) : a < h.size ∧ t < h.size := ⟨F.1.lt, F.2.2.2.1.lt⟩
end Jvm.Own
namespace Jvm.Own
open Jvm Jvm.ClassFile Sem Op Lib Jvm.Free Jvm.Stand Jvm.LawKit Jvm.RoadKit Bundle
/-- Long's table of boxes -/
def LCache (G : Wd) : Prop := ∃ ca vs, Sta G.Z G.Z.heap "java/lang/Long$LongCache" "cache" "[Ljava/lang/Long;" (.ref ca) ∧ Ary G.Z G.Z.heap ca (.object "java/lang/Long") vs ∧ ∀ j : Int32, ¬ j < 0 → j < 256 → ∃ r, vs[j.toNatClampNeg]? = some (.ref r) ∧ Exa G.Z G.Z.heap r "java/lang/Long" ∧ Fld G.Z G.Z.heap r "java/lang/Long" "value" "J" (.long (j - 128).toInt64)
theorem lc_idx {v : Int64} (h1 : ¬ v < -128) (h2 : ¬ 127 < v) : ¬ (v.toInt32 + (128 : Int32) < 0) ∧ v.toInt32 + (128 : Int32) < 256 ∧ (v.toInt32 + (128 : Int32) - 128).toInt64 = v := by
  rw [Int64.lt_iff_toInt_lt] at h1 h2
  have e1 : (-128 : Int64).toInt = -128 := by decide
  have e2 : (127 : Int64).toInt = 127 := by decide
  have e3 : (128 : Int32).toInt = 128 := by decide
  have e4 : (256 : Int32).toInt = 256 := by decide
  have e5 : (0 : Int32).toInt = 0 := by decide
  rw [e1] at h1; rw [e2] at h2
  have q1 : v.toInt32.toInt = v.toInt := by rw [Int64.toInt_toInt32]; exact Int.bmod_eq_of_le (by omega) (by omega)
  have q2 : (v.toInt32 + (128 : Int32)).toInt = v.toInt + 128 := by rw [Int32.toInt_add, q1, e3]; exact Int.bmod_eq_of_le (by omega) (by omega)
  have q3 : (v.toInt32 + (128 : Int32) - 128).toInt = v.toInt := by rw [Int32.toInt_sub, q2, e3]; rw [Int.bmod_eq_of_le (by omega) (by omega)]; omega
  refine ⟨by rw [Int32.lt_iff_toInt_lt, q2, e5]; omega, by rw [Int32.lt_iff_toInt_lt, q2, e4]; omega, ?_⟩
  apply Int64.toInt_inj.mp
  rw [Int32.toInt_toInt64, q3]
theorem fits_ref_of {C : String} {v : Value} (hv : v.isRef = true) : fits (.object C) v = true := by cases v <;> first | rfl | simp [Value.isRef] at hv
end Jvm.Own
namespace Jvm.Own
open Jvm Jvm.ClassFile Sem Op Lib Jvm.Free Jvm.Stand Jvm.LawKit Jvm.RoadKit Bundle
theorem len_start {Z : State} {args : Array Value} {t : Term} {a : Addr} {c : Cell} {ty : FieldType} {n : Int32} (ev : t.eval args Z none [] Z = some (.ref a)) (A : Arr Z Z.heap a c ty) (h : (Term.length t).eval args Z none [] Z = some (.int n)) : c.slots.size < 2 ^ 31 ∧ c.slots.size.toInt32 = n := by
  have q := A.fin (U := Z) (Vm.Alike.refl _)
  simpa [Term.eval, ev, q] using h
theorem ary_start {Z : State} {a : Addr} {c : Cell} {ty : FieldType} (hf : Fit Z) (A : Arr Z Z.heap a c ty) (hl : c.slots.size < 2 ^ 31) : Ary Z Z.heap a ty c.slots.toList := by
  refine ⟨c, A, rfl, by simpa using hl, fun v hv => ?_⟩
  obtain ⟨i, hi, rfl⟩ := List.mem_iff_getElem.mp hv
  have hi' : i < c.slots.size := by simpa using hi
  have e : (n32 i).toNatClampNeg = i := n32_cl (by omega)
  refine elem_fits (j := n32 i) hf A (fun q => ?_) (by rw [e]; simp [hi'])
  rcases q with q | q
  · exact n32_nn (by omega) q
  · rw [e] at q; omega
theorem LCache.start {G : Wd} {args : Array Value} (hf : Fit G.Z) (h10 : (Jvm.Cond.initializedFor "java/lang/Long$LongCache" "cache" "[Ljava/lang/Long;").before args G.Z = true)
    (h11 : (Jvm.Cond.arrayOf (Term.static "java/lang/Long$LongCache" "cache" "[Ljava/lang/Long;") (.object "java/lang/Long")).before args G.Z = true)
    (h13 : (Jvm.Cond.eq (Term.length (Term.static "java/lang/Long$LongCache" "cache" "[Ljava/lang/Long;")) (Term.int 256)).before args G.Z = true)
    (h14 : (Jvm.Cond.all (Term.static "java/lang/Long$LongCache" "cache" "[Ljava/lang/Long;") (.and (.exactly (.elem (Term.static "java/lang/Long$LongCache" "cache" "[Ljava/lang/Long;") (.index 0)) "java/lang/Long") (.eq (.field (.elem (Term.static "java/lang/Long$LongCache" "cache" "[Ljava/lang/Long;") (.index 0)) "java/lang/Long" "value" "J") (.op1 .i2l (.sub (.index 0) (.int 128)))))).before args G.Z = true) : LCache G := by
  obtain ⟨ca, ev⟩ := arr_v (Cond.before_iff.mp h11)
  obtain ⟨c, A⟩ := Arr.start ev (Cond.before_iff.mp h11)
  have hl := eqv_i (Term.int_eval 256) (Cond.before_iff.mp h13)
  obtain ⟨q1, q2⟩ := len_start ev A hl
  have B := Bxs.start (val := fun j => .long (j - 128).toInt64) (z := 256) (fun idx => by simpa [Term.eval] using ev) A q1 q2 (by decide) (Cond.before_iff.mp h14) (fun X j hj hq => by
    have e1 : (Term.index 0).eval args G.Z none [j.toNatClampNeg] G.Z = some (.int j) := idx_at hj
    have e2 : (Term.sub (.index 0) (.int 128)).eval args G.Z none [j.toNatClampNeg] G.Z = some (.int (j - 128)) := by
      have e3 : (Term.int 128).eval args G.Z none [j.toNatClampNeg] G.Z = some (.int 128) := Term.int_eval 128
      simp [Term.eval] at e1 ⊢
      simp [e1]
    exact eqv_l (i2l_at e2) hq)
  have hs : c.slots.size = 256 := B.2.1.trans (by decide)
  refine ⟨ca, c.slots.toList, Sta.start ev (Or.inl h10), ary_start hf A q1, fun j hj hj2 => ?_⟩
  have hlt : j.toNatClampNeg < 256 := by
    rw [Int32.lt_iff_toInt_lt] at hj hj2
    have e5 : (0 : Int32).toInt = 0 := by decide
    have e4 : (256 : Int32).toInt = 256 := by decide
    rw [e5] at hj; rw [e4] at hj2
    rw [Int32.toNatClampNeg]; omega
  obtain ⟨r, r1, r2, r3⟩ := B.2.2.2 j (fun q => by rcases q with q | q; · exact hj q
                                                   · omega)
  exact ⟨r, by rw [Array.getElem?_toList]; exact r1, r2, r3⟩
/-- an object that a static names -/
theorem sta_exa {Z : State} {args : Array Value} {C n d K : String} (h : (Jvm.Cond.exactly (Term.static C n d) K).value args Z none Z [] = some true) (hi : (Jvm.Cond.initialized C).before args Z = true) (hl : (Jvm.Cond.laysStatic C n d).before args Z = true) :
    ∃ a, (Term.static C n d).eval args Z none [] Z = some (.ref a) ∧ Sta Z Z.heap C n d (.ref a) ∧ Exa Z Z.heap a K := by
  obtain ⟨a, ev⟩ := exa_v h
  exact ⟨a, ev, Sta.start ev (Or.inr ⟨hi, hl⟩), Exa.start ev h⟩
theorem fld_eq {Z : State} {args : Array Value} {t : Term} {a : Addr} {C n d : String} {y : Int32} (ev : t.eval args Z none [] Z = some (.ref a)) (h : (Jvm.Cond.eq (.field t C n d) (.int y)).value args Z none Z [] = some true) : Fld Z Z.heap a C n d (.int y) :=
  Fld.start ((fld_at ev).symm.trans (eqv_i (Term.int_eval y) h))
end Jvm.Own
namespace Jvm.Own
open Jvm Jvm.ClassFile Sem Op Lib Jvm.Free Jvm.Stand Jvm.LawKit Jvm.RoadKit Bundle
/-! ### Strings of any chars: Latin-1 or UTF-16 (little end first) -/
def hi8 (c : Int32) : Value := .int (c >>> ((8 : Int32) &&& 31)).toInt8.toInt32
def u16 (c : Int32) : List Value := [lat c, hi8 c]
theorem shr0 (c : Int32) : c >>> ((0 : Int32) &&& 31) = c := by
  apply Int32.toInt_inj.mp
  rw [c_ishr c 0 0 (by decide)]; simp
theorem shl0 (c : Int32) : c <<< ((0 : Int32) &&& 31) = c := by
  have h := c_ishl c 0 0 (by decide)
  have h1 := rng32 c
  have h2 := rng32 (c <<< ((0 : Int32) &&& 31))
  apply Int32.toInt_inj.mp
  omega
theorem lat_mask {c : Int32} (q : IsL c) : c.toInt8.toInt32 &&& (255 : Int32) = c := by
  have h := c_mask c.toInt8.toInt32 255 8 (by decide) (by decide)
  have h1 := c_i2b c
  have h2 := q.int
  apply Int32.toInt_inj.mp
  omega
theorem lo_mask {c : Int32} (q : IsC c) : (c.toInt8.toInt32 &&& (255 : Int32)).toInt = c.toInt % 256 := by
  have h := c_mask c.toInt8.toInt32 255 8 (by decide) (by decide)
  have h1 := c_i2b c
  omega
theorem hi_mask {c : Int32} (q : IsC c) : ((c >>> ((8 : Int32) &&& 31)).toInt8.toInt32 &&& (255 : Int32)).toInt = c.toInt / 256 := by
  have h0 := c_ishr c 8 8 (by decide)
  have h := c_mask (c >>> ((8 : Int32) &&& 31)).toInt8.toInt32 255 8 (by decide) (by decide)
  have h1 := c_i2b (c >>> ((8 : Int32) &&& 31))
  have h2 := q.int
  omega
theorem get_u16 {c : Int32} (q : IsC c) : (((c.toInt8.toInt32 &&& (255 : Int32)) <<< ((0 : Int32) &&& 31)) ||| (((c >>> ((8 : Int32) &&& 31)).toInt8.toInt32 &&& (255 : Int32)) <<< ((8 : Int32) &&& 31))) = c := by
  rw [shl0]
  have h1 := lo_mask q
  have h2 := hi_mask q
  have h3 := q.int
  generalize c.toInt8.toInt32 &&& (255 : Int32) = lo at h1
  generalize (c >>> ((8 : Int32) &&& 31)).toInt8.toInt32 &&& (255 : Int32) = hi at h2
  have h4 := c_ishl hi 8 8 (by decide)
  have h5 := rng32 (hi <<< ((8 : Int32) &&& 31))
  generalize hi <<< ((8 : Int32) &&& 31) = hs at h4 h5
  have h6 : hs.toInt = hi.toInt * 256 := by omega
  have h7 := c_or' lo hs 8 (by decide) 256 (by decide) (by omega) (by omega) (by omega)
  have h8 := rng32 (lo ||| hs)
  apply Int32.toInt_inj.mp
  omega
theorem u16_len (cs : List Int32) : (cs.flatMap u16).length = 2 * cs.length := by
  induction cs with
  | nil => rfl
  | cons c r ih => simp [u16, ih]; omega
theorem u16_at {cs : List Int32} {i : Nat} {c : Int32} (hc : cs[i]? = some c) : (cs.flatMap u16)[2 * i]? = some (lat c) ∧ (cs.flatMap u16)[2 * i + 1]? = some (hi8 c) := by
  induction cs generalizing i with
  | nil => simp at hc
  | cons d r ih =>
    cases i with
    | zero => simp at hc; subst hc; simp [u16]
    | succ i =>
      simp at hc
      obtain ⟨h1, h2⟩ := ih hc
      have e1 : 2 * (i + 1) = 2 * i + 2 := by omega
      have e2 : 2 * (i + 1) + 1 = (2 * i + 1) + 2 := by omega
      constructor
      · rw [e1]; simpa [u16] using h1
      · rw [e2]; simpa [u16] using h2
theorem set2 {cs : List Int32} {vs : List Value} {i : Nat} {c : Int32} (hc : cs[i]? = some c) (hv : 2 * i + 1 < vs.length) : (((cs.take i).flatMap u16 ++ vs.drop (2 * i)).set (2 * i) (lat c)).set (2 * i + 1) (hi8 c) = (cs.take (i + 1)).flatMap u16 ++ vs.drop (2 * (i + 1)) := by
  have hi : i < cs.length := (List.getElem?_eq_some_iff.mp hc).1
  have e : cs[i] = c := (List.getElem?_eq_some_iff.mp hc).2
  have e1 : ((cs.take i).flatMap u16).length = 2 * i := by rw [u16_len]; simp; omega
  have e2 : vs.drop (2 * i) = vs[2 * i]'(by omega) :: vs[2 * i + 1] :: vs.drop (2 * (i + 1)) := by
    rw [List.drop_eq_getElem_cons (by omega), List.drop_eq_getElem_cons (i := 2 * i + 1) (by omega)]
    rfl
  rw [List.set_append, e1, if_neg (Nat.lt_irrefl _), Nat.sub_self, List.set_append, e1, if_neg (by omega), e2, List.take_succ_eq_append_getElem hi, e, List.flatMap_append, List.append_assoc]
  congr 1
  have e3 : 2 * i + 1 - 2 * i = 1 := by omega
  rw [e3]
  rfl
/-- a String with a char beyond Latin-1 -/
def StrU (Z : State) (h : Heap) (a t : Addr) (cs : List Int32) : Prop := Exa Z h a "java/lang/String" ∧ Fld Z h a "java/lang/String" "value" "[B" (.ref t) ∧ Fld Z h a "java/lang/String" "coder" "B" (.int 1) ∧ Ary Z h t .byte (cs.flatMap u16) ∧ (∀ c ∈ cs, IsC c) ∧ ∃ c ∈ cs, (255 : Int32) < c
theorem StrU.keep {Z : State} {h h' : Heap} {a t : Addr} {cs : List Int32} {ws : List Addr} (F : StrU Z h a t cs) (K : Keep h h' ws) (qa : a ∉ ws) (qt : t ∉ ws) : StrU Z h' a t cs :=
  ⟨F.1.keep K, F.2.1.keep K qa, F.2.2.1.keep K qa, F.2.2.2.1.keep K qt, F.2.2.2.2⟩
/-- any String -/
def Str (Z : State) (h : Heap) (a t : Addr) (cs : List Int32) : Prop := StrL Z h a t cs ∨ StrU Z h a t cs
theorem Str.keep {Z : State} {h h' : Heap} {a t : Addr} {cs : List Int32} {ws : List Addr} (F : Str Z h a t cs) (K : Keep h h' ws) (qa : a ∉ ws) (qt : t ∉ ws) : Str Z h' a t cs := F.imp (fun q => q.keep K qa qt) (fun q => q.keep K qa qt)
theorem Str.ext {Z : State} {h h' : Heap} {a t : Addr} {cs : List Int32} (F : Str Z h a t cs) (E : Ext h h') : Str Z h' a t cs := F.keep (keepE E) nin0 nin0
theorem Str.exa {Z : State} {h : Heap} {a t : Addr} {cs : List Int32} (F : Str Z h a t cs) : Exa Z h a "java/lang/String" := by rcases F with F | F <;> exact F.1
theorem Str.val {Z : State} {h : Heap} {a t : Addr} {cs : List Int32} (F : Str Z h a t cs) : Fld Z h a "java/lang/String" "value" "[B" (.ref t) := by rcases F with F | F <;> exact F.2.1
theorem Str.isC {Z : State} {h : Heap} {a t : Addr} {cs : List Int32} (F : Str Z h a t cs) : ∀ c ∈ cs, IsC c := by
  rcases F with F | F
  · exact fun c q => (F.2.2.2.2 c q).c
  · exact F.2.2.2.2.1
theorem Str.lt {Z : State} {h : Heap} {a t : Addr} {cs : List Int32} (F : Str Z h a t cs) : a < h.size ∧ t < h.size := by
  rcases F with F | F
  · exact F.lt
  · exact ⟨F.1.lt, F.2.2.2.1.lt⟩
end Jvm.Own
namespace Jvm.Own
open Jvm Jvm.ClassFile Sem Op Lib Jvm.Free Jvm.Stand Jvm.LawKit Jvm.RoadKit Bundle
theorem n32_shl1 {n : Nat} (h : n < 1073741824) : n32 n <<< ((1 : Int32) &&& 31) = n32 (2 * n) := by
  have h1 := c_ishl (n32 n) 1 1 (by decide)
  have h2 := rng32 (n32 n <<< ((1 : Int32) &&& 31))
  apply Int32.toInt_inj.mp
  rw [n32_int (by omega)] at h1
  rw [n32_int (by omega)]
  omega
theorem n32_shr1 {n : Nat} (h : n < 1073741824) : n32 (2 * n) >>> ((1 : Int32) &&& 31) = n32 n := by
  have h1 := c_ishr (n32 (2 * n)) 1 1 (by decide)
  apply Int32.toInt_inj.mp
  rw [n32_int (by omega)] at h1
  rw [n32_int (by omega)]
  omega
theorem n32_or0 {n m k : Nat} (hn : n < 2147483648) (hm : m < 2147483648) (hk : k < 2147483648) : ¬ ((n32 n ||| n32 m) ||| n32 k) < 0 := by
  have h1 := c_or0 (n32 n) (n32 m) (by rw [n32_int hn]; omega) (by rw [n32_int hm]; omega)
  have h2 := c_or0 (n32 n ||| n32 m) (n32 k) (by rw [n32_int hn] at h1; omega) (by rw [n32_int hk]; omega)
  rw [Int32.lt_iff_toInt_lt]
  have e : (0 : Int32).toInt = 0 := rfl
  rw [n32_int hk] at h2
  omega
theorem ncf {c : Int32} (q : IsC c) : narrow .char (.int c) = .int c ∧ fits .char (.int c) = true := by
  refine ⟨congrArg Value.int (nar_c q), ?_⟩
  have := fits_nar_char c
  rw [nar_c q] at this
  exact this
theorem getc {c : Int32} (q : IsC c) : nar .char ((((c.toInt8.toInt32 &&& (255 : Int32)) <<< ((0 : Int32) &&& 31)) ||| (((c >>> ((8 : Int32) &&& 31)).toInt8.toInt32 &&& (255 : Int32)) <<< ((8 : Int32) &&& 31))).toUInt32.toUInt16.toUInt32.toInt32) = c := by
  rw [get_u16 q, i2c_id q, nar_c q]
theorem take_get {α : Type} {cs : List α} {n r : Nat} {c : α} (h : cs[r]? = some c) (q : r < n) : (cs.take n)[r]? = some c := by rw [List.getElem?_take, if_pos q]; exact h
end Jvm.Own
namespace Jvm.Own
open Jvm Jvm.ClassFile Sem Op Lib Jvm.Free Jvm.Stand Jvm.LawKit Jvm.RoadKit Bundle
theorem notL_of {cs : List Int32} (h1 : ∀ c ∈ cs, IsL c) (h2 : ∃ c ∈ cs, (255 : Int32) < c) : False := by
  obtain ⟨c, q1, q2⟩ := h2
  exact (h1 c q1).2 q2
/-- two Strings of the same chars: one coder, the same bytes -/
theorem str_pair {Z : State} {h : Heap} {a b t u : Addr} {cs : List Int32} (A : Str Z h a t cs) (B : Str Z h b u cs) : ∃ (co : Int32) (vs : List Value), Fld Z h a "java/lang/String" "coder" "B" (.int co) ∧ Fld Z h b "java/lang/String" "coder" "B" (.int co) ∧ Ary Z h t .byte vs ∧ Ary Z h u .byte vs ∧ ∀ x ∈ vs, ∃ z, x = .int z := by
  rcases A with A | A <;> rcases B with B | B
  · exact ⟨0, _, A.2.2.1, B.2.2.1, A.2.2.2.1, B.2.2.2.1, fun x hx => by obtain ⟨c, -, rfl⟩ := List.mem_map.mp hx; exact ⟨_, rfl⟩⟩
  · exact (notL_of A.2.2.2.2 B.2.2.2.2.2).elim
  · exact (notL_of B.2.2.2.2 A.2.2.2.2.2).elim
  · exact ⟨1, _, A.2.2.1, B.2.2.1, A.2.2.2.1, B.2.2.2.1, fun x hx => by
      obtain ⟨c, -, hc⟩ := List.mem_flatMap.mp hx
      simp only [u16, List.mem_cons, List.not_mem_nil, or_false] at hc
      rcases hc with rfl | rfl <;> exact ⟨_, rfl⟩⟩
end Jvm.Own
namespace Jvm.Own
open Jvm Jvm.ClassFile Sem Op Lib Jvm.Free Jvm.Stand Jvm.LawKit Jvm.RoadKit Bundle Jvm.Free.SB Jvm.Free.SBG
/-! ### ldc_w of a String constant, its text read -/
theorem push2 (h : Heap) (x y : Cell) : (∀ z, z < h.size → ((h.push x).push y)[z]? = h[z]?) ∧ ((h.push x).push y)[h.size]? = some x ∧ ((h.push x).push y)[h.size + 1]? = some y ∧ ((h.push x).push y).size = h.size + 2 := by
  refine ⟨fun z hz => ?_, ?_, ?_, by simp⟩
  · rw [Array.getElem?_push, if_neg (by simp; omega), Array.getElem?_push, if_neg (by omega)]
  · rw [Array.getElem?_push, if_neg (by simp), Array.getElem?_push, if_pos rfl]
  · rw [Array.getElem?_push, if_pos (by simp)]
theorem made_heap (T : State) (cB cS : ClassId) (kS : Class) (fv fc : Field) (u : Array UInt16) : (withString T cB cS kS fv fc u).heap = (T.heap.push (bytesOf cB u)).push (stringAt cS kS fv fc u T.heap.size) := by
  rw [withString_eq]; rfl
section W
variable {p : Program} {l : Launch} {e : Env} {R : Room} {s : State} {m : MethodId} {args : Array Value} {below : List Frame} {meth : Method} {c : Code} {T : State} {locs : List Loc} {cells slots : Nat}
/-- what the step leaves: the entry noted, at most one String made, and of that one its bytes -/
theorem ldcW_out (X : Stand p l e R s m args below meth c T locs cells slots) (hx : p.tables.exec = Jvm.exec) {own text : String} {ix : Nat} (ho : s.vm.findClass own = some m.cls)
    (hl : (Cond.stringLink own ix text).before args s = true) (hS : ∀ a ∈ Bundle.stringAtoms, a.before args s = true)
    {g : JFrame} (hg : g.method = m) (hd : decode c.code g.pc = .ok (.ldc_w ix, 3)) {n : Nat} (hn : 4 * text.toList.length ≤ n) (hb : n ≤ 536870912) (hc : cells + 2 ≤ R.cells) (hs : slots + (n + 4) ≤ R.slots) :
    ∃ (a : Addr) (V : State), Stand p l e R (s.setVm V.vm) m args below meth c V locs (cells + 2) (slots + (n + 4)) ∧ s.Since V.vm V.heap.size ∧ (∃ k, V.vm.classes[m.cls]? = some k ∧ k.resolved[ix]? = some (some (.string a))) ∧ (∀ y, y < T.heap.size → V.heap[y]? = T.heap[y]?) ∧ T.Warmed39 V.vm ∧
      (V.vm.interned = T.vm.interned ∨ ∃ u : Array UInt16, V.vm.interned = T.vm.interned.push (u, a) ∧ T.vm.interned.find? (fun p => p.1 == u) = none ∧ (u.all (· < 256) = true → SlIn 0 T.heap.size V a u)) ∧
      ∀ t, Steps p.tables e below (V.setTop { g with pc := g.pc + 3, stack := .ref a :: g.stack }) t → Steps p.tables e below (T.setTop g) t := by
  subst hg
  obtain ⟨k, cf, i, u, hk, hcf, hp, hu, hnm, htx, hrs⟩ := Cond.stringLink_spec ho hl
  obtain ⟨k1, hk1, ek⟩ := X.warmed.alike.2.2 _ _ hk
  have hcf1 : k1.cf = some cf := by rw [ek]; exact hcf
  have pool : ∀ kk : Class, kk.cf = some cf → kk.cf.bind (namesOf? ·.constantPool ix) = some (.string text) ∧ kk.cf.bind (·.constantPool[ix]?) = some (.string i) ∧ kk.cf.bind (·.constantPool.utf8? i) = some u := fun kk q => by
    rw [q]; exact ⟨hnm, hp, by simp [ConstantPool.utf8?, hu]⟩
  obtain ⟨p1, p2, p3⟩ := pool k hcf
  obtain ⟨r1, r2, r3⟩ := pool k1 hcf1
  have same : k1.resolved[ix]? = k.resolved[ix]? := by
    rcases X.warmed.entry hk hk1 ix with q | ⟨-, r, -, bad⟩
    · exact q
    · cases r <;> simp [State.rightAt, hk, hcf, hnm] at bad
  rcases hrs with o0 | ⟨a, o0⟩
  · have o1 : k1.resolved[ix]? = some none := same.trans o0
    cases hf : T.vm.interned.find? (fun p => p.1 == u) with
    | some pr =>
      obtain ⟨u', a⟩ := pr
      obtain rfl : u' = u := by simpa using Array.find?_some hf
      have W := X.warmed.wide.notedString hk (Or.inl o0) p1 p2 p3 hf
      refine ⟨a, T.setVm (T.vm.noted g.method.cls ix (.string a)), (X.mono (by omega) (by omega)).retabled W, ⟨W, ?_⟩, ⟨_, Vm.classes_note_self ix (.string a) hk1, Class.resolved_note_self (.string a) o1⟩, fun _ _ => rfl, (State.Warmed39.refl T).notedString hk1 (Or.inl o1) r1 r2 r3 hf, Or.inl rfl, fun t ht => ?_⟩
      · exact State.Booked.step (T₂ := T.setVm (T.vm.noted g.method.cls ix (.string a))) (X.warmed.no_new_pair _) X.same.2.1 ⟨Nat.le_refl _, Or.inl rfl⟩
      · jvm_step X.here [hx, hd, ldc_w.wp_string_found (e := e) (s := T) (f := g) X.here.top hk1 hcf1 hp hu o1 hf]
        exact ht
    | none =>
      obtain ⟨Q, L, n4, fv, fc⟩ := StringT.of_atoms (args := args) hS
      obtain ⟨kS, kB, L', ty⟩ := L.warmer X.warmed.alike
      have ft : T.fitsSlot = s.fitsSlot := (show T.fitsSlot = (s.setVm T.vm).fitsSlot from rfl).trans (State.fitsSlot_setVm X.warmed.alike)
      have found : (T.vm.interned.push (u, T.heap.size + 1)).find? (fun p => p.1 == u) = some (u, T.heap.size + 1) := by rw [Array.find?_push, hf]; simp
      have W := (X.warmed.wide.interns u (T.heap.size + 1)).notedString hk (Or.inl o0) p1 p2 p3 found
      have WT := ((State.Warmed39.refl T).interns u (T.heap.size + 1)).notedString hk1 (Or.inl o1) r1 r2 r3 found
      have eh := made_heap T Q.cB Q.cS kS Q.fv Q.fc u
      obtain ⟨c1, c2, c3, c4⟩ := push2 T.heap (bytesOf Q.cB u) (stringAt Q.cS kS Q.fv Q.fc u T.heap.size)
      rw [← eh] at c1 c2 c3 c4
      have b0 : (stringBytes u).size ≤ n := Nat.le_trans (text_bytes_le htx) hn
      have b1 : (bytesOf Q.cB u).slots.size = (stringBytes u).size := by rw [(Cell.writeAll_facts _ _).2.2]; simp [bytes0]
      have b2 : (stringAt Q.cS kS Q.fv Q.fc u T.heap.size).slots.size = 4 := by simp [string0, Cell.setSlot, ty, n4]
      have X2 := (X.pushed (bytesOf Q.cB u)).pushed (stringAt Q.cS kS Q.fv Q.fc u T.heap.size)
      rw [← withString_eq, b1, b2] at X2
      refine ⟨T.heap.size + 1, (withString T Q.cB Q.cS kS Q.fv Q.fc u).setVm (({ T.vm with interned := T.vm.interned.push (u, T.heap.size + 1) } : Vm).noted g.method.cls ix (.string (T.heap.size + 1))), (X2.mono (by omega) (by omega)).retabled W, ⟨W, ?_⟩, ⟨_, Vm.classes_note_self (vm := { T.vm with interned := T.vm.interned.push (u, T.heap.size + 1) }) ix (.string (T.heap.size + 1)) hk1, Class.resolved_note_self (.string (T.heap.size + 1)) o1⟩, c1, WT, Or.inr ⟨u, rfl, hf, fun hl => made_sl (W := (withString T Q.cB Q.cS kS Q.fv Q.fc u).setVm (({ T.vm with interned := T.vm.interned.push (u, T.heap.size + 1) } : Vm).noted g.method.cls ix (.string (T.heap.size + 1)))) hS L n4 ty W.alike c2 c3 hl (by omega) 0⟩, fun t ht => ?_⟩
      · refine State.Booked.step (X.warmed.no_new_pair _) X.same.2.1 ⟨?_, Or.inr ⟨u, T.heap.size + 1, rfl, by omega, ?_⟩⟩
        · show T.heap.size ≤ (withString T Q.cB Q.cS kS Q.fv Q.fc u).heap.size
          omega
        · show T.heap.size + 1 < (withString T Q.cB Q.cS kS Q.fv Q.fc u).heap.size
          omega
      · refine Steps.instr (c := _) (by simpa using X.here) ?_
        simp [jvm, wpRun, exec, X.here.top, hx, hd]
        refine ldc_w.wp_string_new (e := e) (s := T) (f := g) X.here.top hk1 hcf1 hp hu o1 hf L'.found L'.cls L'.initialized L'.ordinary L'.foundB L'.clsB L'.kindB L'.value L'.coder ?_ ?_ (X.cellsAbove hc) ?_ (stringBytes_fit L'.clsB L'.kindB u) L'.valueSlot L'.coderSlot (by rw [ft]; exact fv _) (by rw [ft]; exact fc _) (fun d' acts' => ?_)
        · rw [Launch.admits_arrayLengthLimit X.admits]; omega
        · rw [Launch.admits_maxHeapBytes X.admits]; simp only [componentBytes]; omega
        · have := X.slotsAbove hs
          show T.slotsUsed + (stringBytes u).size + kS.instanceTypes.size ≤ _
          rw [ty, n4]; omega
        · intro acts''
          have t1 : (withString T Q.cB Q.cS kS Q.fv Q.fc u).topJava?.isSome := by simpa [withString] using X.here.top
          have t2 : ((withString T Q.cB Q.cS kS Q.fv Q.fc u).setVm (({ T.vm with interned := T.vm.interned.push (u, T.heap.size + 1) } : Vm).noted g.method.cls ix (.string (T.heap.size + 1)))).topJava?.isSome := by simpa using t1
          simp [jvm, afterInstr, t1, t2]
          rw [State.modifyTopJava_setTop]
          exact ht
  · have o1 := same.trans o0
    refine ⟨a, T, (X.mono (by omega) (by omega)).retabled X.warmed.wide, X.warmed.since _, ⟨k1, hk1, o1⟩, fun _ _ => rfl, State.Warmed39.refl T, Or.inl rfl, fun t ht => ?_⟩
    jvm_step X.here [hx, hd, ldc_w.wp_string (e := e) (s := T) (f := g) X.here.top hk1 hcf1 hp o1]
    exact ht
end W
/-- a compact String, read -/
theorem sl_read {Z : State} {vm : Vm} {h : Heap} {q : SQ} {u : Array UInt16} (hal : Z.vm.Alike vm) (F : SlB (Wst Z vm h) q u) (hlat : u.all (· < 256) = true) (hsz : u.size < 2147483648) :
    Exa Z h q.sa "java/lang/String" ∧ Fld Z h q.sa "java/lang/String" "coder" "B" (.int 0) ∧ Fld Z h q.sa "java/lang/String" "value" "[B" (.ref q.sd) ∧ Ary Z h q.sd .byte (u.toList.map fun x => Value.int (Jvm.Lit.byteI x)) := by
  obtain ⟨cS, ⟨⟨s1, s2, s3, ⟨cv, kv, iv, s4, s4'⟩, ⟨cc, kc, ic, s5, s5'⟩, s6, s7, s8, s9, s10, ⟨s11, kb, s12, comp, s13⟩, s14, s15, s16, s17, s18⟩, f1, f2⟩, ⟨kS, g1, g2, g3⟩, g4, g5⟩ := F
  have f1 : vm.findClass "java/lang/String" = some cS := f1
  have g1 : vm.classes[cS]? = some kS := g1
  have g4 : vm.findClass "[B" = some q.SA.cls := g4
  have s12 : vm.classes[q.SA.cls]? = some kb := s12
  have z1 : Z.vm.findClass "java/lang/String" = some q.sC.cls := by rw [← hal.findClass, f2]; exact f1
  have z2 : Z.vm.findClass "[B" = some q.SA.cls := by rw [← hal.findClass]; exact g4
  obtain ⟨kz, hkz, -⟩ := Vm.findClass_spec z1
  obtain ⟨kz', y1, y2⟩ := hal.2.2 _ _ hkz
  obtain ⟨ky, hky, -⟩ := Vm.findClass_spec z2
  obtain ⟨ky', y3, y4⟩ := hal.2.2 _ _ hky
  obtain rfl : kz' = kS := Option.some.inj (y1.symm.trans (by rw [f2]; exact g1))
  obtain rfl : ky' = kb := Option.some.inj (y3.symm.trans s12)
  obtain ⟨kv', v1⟩ := ff_back (U := Wst Z vm h) hal s4
  obtain ⟨kc', v2⟩ := ff_back (U := Wst Z vm h) hal s5
  have es : q.SA.slots = u.map fun x => Value.int (Jvm.Lit.byteI x) := by rw [g5, SBG.stringBytes_lat hlat]; rfl
  refine ⟨⟨q.sC, kz, s1, z1, hkz, s3, fun _ => by rw [g3, y2]⟩, ⟨q.sC, cc, kc', ic, q.fSC, s1, v2, s7, s2, s3, by rw [← hal.assignable]; exact s5', s9⟩, ⟨q.sC, cv, kv', iv, q.fSV, s1, v1, s6, s2, s3, by rw [← hal.assignable]; exact s4', s8⟩, q.SA, ⟨s10, ⟨s11, ky, hky, comp, by rw [y4] at s13; exact s13⟩, s14⟩, by rw [es]; simp, by simpa using hsz, fun v hv => ?_⟩
  have hv' : v ∈ q.SA.slots.toList := by rw [es]; simpa using hv
  obtain ⟨j, hj, rfl⟩ := List.mem_iff_getElem.mp hv'
  have hj' : j < q.SA.slots.size := by simpa using hj
  have := s18 j hj'
  simpa [Array.getD, hj'] using this
variable {G : Wd} {I J : Inf} {Q : Po} {K : Rn} {S S' : List Addr} {h : Heap} {cs sl pc pc' : Nat} {ls ls' : Array Slot} {st : List Value} {a0 : Array Value}
theorem Ru.ldcStrW {idx n : Nat} {text : String} {vs : List Value} (hnar : G.nar = false) (hd : D1 I.b pc (.ldc_w idx) 3 pc') (hm : (I.y.cls, idx) ∈ G.E) (w : (Jvm.Cond.stringLink I.y.cls idx text).before a0 G.Z = true) (wS : ∀ a ∈ Bundle.stringAtoms, a.before a0 G.Z = true)
    (ht : (∀ c ∈ text.toList, c.toNat < 256) ∧ text.toList.map (fun c => Value.int (Jvm.Lit.byteI c.toNat.toUInt16)) = vs) (hlen : vs.length < 134217728) (hn : 4 * text.toList.length ≤ n) (hbig : n ≤ 536870912) (hc : cs + 2 ≤ I.R.cells) (hl : sl + (n + 4) ≤ I.R.slots)
    (k : ∀ h' a b, Ext h h' → Exa G.Z h' a "java/lang/String" → Fld G.Z h' a "java/lang/String" "coder" "B" (.int 0) → Fld G.Z h' a "java/lang/String" "value" "[B" (.ref b) → Ary G.Z h' b .byte vs → (∀ x ∈ S, x ≠ a ∧ x ≠ b) → WP G I Q K S h' (cs + 2) (sl + (n + 4)) pc' ls (.ref a :: st)) : WP G I Q K S h cs sl pc ls st := by
  obtain ⟨hd, rfl⟩ := hd
  intro ok vm0 k0 T L ⟨X, hZ, hS, hk, hf, eT, hE, hF, hW, hC, hN⟩
  obtain ⟨a1, hEL⟩ := ok.2.2.2.2.2.2
  have hEW : EW G.Z a0 G.E := fun p hp => by obtain ⟨t, q1, q2⟩ := hEL p hp; exact ⟨t, by simpa [Jvm.Cond.before, Jvm.Cond.holds, Jvm.Cond.value] using q1, q2⟩
  have wS' : ∀ d ∈ Bundle.stringAtoms, d.before K.args (K.s.setVm vm0) = true := fun d hd => by
    have q := wS d hd
    simp only [Bundle.stringAtoms, List.mem_cons, List.not_mem_nil, or_false] at hd
    rcases hd with rfl | rfl | rfl | rfl | rfl | rfl | rfl
    iterate 2 exact mv (s := K.s.setVm vm0) hZ q
    exact mvA (s := K.s.setVm vm0) hZ q
    iterate 4 exact mv (s := K.s.setVm vm0) hZ q
  obtain ⟨a, V, X', hS', ⟨kk, hkk, hrr⟩, hb, hTW, hint, stp⟩ := ldcW_out X ok.1 (own := I.y.cls) hf (mvS (s := K.s.setVm vm0) hZ w) wS' (g := mkF K.m pc ls st) rfl (ok.2.1 ▸ hd) hn hbig hc hl
  subst eT
  have E : Ext T.heap V.heap := ext_of hb
  have hWV : G.Z.Warmed39 V.vm := State.Warmed39.trans (t := K.s.setVm vm0) hZ hS'.1
  have A := CHv.at X hZ hEW hC.1
  have hZT : G.Z.Warmed39 T.vm := wtrans (s := K.s.setVm vm0) hZ X.warmed
  have B := CHv.later (vm := T.vm) (vm1 := V.vm) hZT (show (Wst G.Z T.vm T.heap).Warmed39 V.vm from hTW) hEW E (hint.imp id fun ⟨us, e1, e2, e3⟩ => ⟨us, a, e1, e2, fun hl => by
    obtain ⟨q, cS, hq, r1, r2, r3, r4, r5⟩ := e3 hl
    have F : SlB V q us := ⟨cS, r1, r2, r3, r4⟩
    refine ⟨q, hq, F.carry (V := Wst G.Z V.vm V.heap) (Vm.Alike.refl _) F.ha F.hd, ?_⟩
    rcases r5 with ⟨z, -⟩ | z
    · exact absurd z (Nat.not_lt_zero _)
    · exact z⟩) A.1
  have CC : CHr G.Z G.E vm0 T.heap V.vm V.heap := A.trans ⟨B.1, E.1, B.2⟩
  have hfV : V.vm.findClass I.y.cls = some K.m.cls := by rw [hS'.1.alike.findClass]; exact hf
  have w2 : (Cond.stringLink I.y.cls idx text).before a0 (Wst G.Z V.vm V.heap) = true := mvS (s := { G.Z with heap := V.heap }) hWV w
  obtain ⟨k2, cf, i, u, g1, g2, g3, g4, -, g5, -⟩ := Cond.stringLink_spec (s := Wst G.Z V.vm V.heap) hfV w2
  obtain rfl : k2 = kk := Option.some.inj ((show V.vm.classes[K.m.cls]? = some k2 from g1).symm.trans hkk)
  have bk : Booksv V.vm I.y.cls idx u a := ⟨K.m.cls, k2, cf, i, hfV, hkk, g2, g3, g4, Or.inl hrr⟩
  obtain ⟨q, rfl, F⟩ := SlB.of (CC.1 _ hm u a bk)
  have eu : vs = u.toList.map fun x => Value.int (Jvm.Lit.byteI x) := by rw [← ht.2, Jvm.ClassFile.units_of_text g5 ht.1, List.map_map]; rfl
  have el : vs.length = u.size := by rw [eu]; simp
  obtain ⟨x1, x2, x3, x4⟩ := sl_read hWV.alike F (Jvm.ClassFile.lat_of_text g5 ht.1) (by omega)
  rw [← eu] at x4
  have safe : ∀ x, Safe G.Z G.E V.vm V.heap x → x ≠ q.sa ∧ x ≠ q.sd := fun x N => ⟨fun z => N ⟨_, hm, u, _, bk, q, rfl, F, Or.inl z⟩, fun z => N ⟨_, hm, u, _, bk, q, rfl, F, Or.inr z⟩⟩
  obtain ⟨t, o, st1, r⟩ := k V.heap q.sa q.sd E x1 x2 x3 x4 (fun x hx => safe x (CC.safe (hW x hx).2.1 (hW x hx).2.2)) ok V.vm V.heap.size V L ⟨X', hWV, hS.trans hS' (Nat.le_trans hk E.1), Nat.le_refl _, hfV, rfl, ⟨Nat.le_trans hE.1 E.1, fun x c q => E.2 x c (hE.2 x c q)⟩, hF, hW.on CC, hC.trans CC, fun q => by rw [hnar] at q; cases q⟩
  exact ⟨t, o, stp _ st1, r⟩
end Jvm.Own
namespace Jvm.Pilot.@@N@@
open Jvm Jvm.ClassFile Sem Op Lib Jvm.Free Jvm.Stand Jvm.LawKit Jvm.RoadKit Bundle Jvm.Pilot.@@N@@.Jvm.D Jvm.Own
def lits_1 : List (String × Nat) := [("com/example/torbund/torbund/ConfigFile", 279)]
def Ev (G : Own.Wd) (a0 : Array Value) : Prop := (∀ d ∈ tables_1, d.before a0 G.Z = true) ∧ (∃ cz : Int32, Sta G.Z G.Z.heap "java/lang/String" "COMPACT_STRINGS" "Z" (.int cz) ∧ ¬ cz = 0) ∧ G.nar = false ∧ (∀ p ∈ lits_1, p ∈ G.E) ∧ (∃ v : Value, v.isRef = true ∧ Sta G.Z G.Z.heap "jdk/internal/util/Preconditions" "SIOOBE_FORMATTER" "Ljava/util/function/BiFunction;" v) ∧ True
theorem Ev.w {G : Own.Wd} {a0 : Array Value} (e : Ev G a0) (i : Nat) {d : Jvm.Cond} (q : tables_1[i]? = some d) : d.before a0 G.Z = true := e.1 d (List.mem_of_getElem? q)
theorem Ev.cz {G : Own.Wd} {a0 : Array Value} (e : Ev G a0) : ∃ cz : Int32, Sta G.Z G.Z.heap "java/lang/String" "COMPACT_STRINGS" "Z" (.int cz) ∧ ¬ cz = 0 := e.2.1
theorem Ev.nar {G : Own.Wd} {a0 : Array Value} (e : Ev G a0) : G.nar = false := e.2.2.1
theorem Ev.el {G : Own.Wd} {a0 : Array Value} (e : Ev G a0) : ∀ p ∈ lits_1, p ∈ G.E := e.2.2.2.1
theorem str_atoms : ∀ a ∈ Bundle.stringAtoms, a ∈ tables_1 := by decide +kernel
theorem Ev.sa {G : Own.Wd} {a0 : Array Value} (e : Ev G a0) : ∀ a ∈ Bundle.stringAtoms, a.before a0 G.Z = true := fun a h => e.1 a (str_atoms a h)
theorem Ev.fm {G : Own.Wd} {a0 : Array Value} (e : Ev G a0) : (∃ v : Value, v.isRef = true ∧ Sta G.Z G.Z.heap "jdk/internal/util/Preconditions" "SIOOBE_FORMATTER" "Ljava/util/function/BiFunction;" v) := e.2.2.2.2.1
theorem Ev.more {G : Own.Wd} {a0 : Array Value} (e : Ev G a0) : True := e.2.2.2.2.2
abbrev I_comp2 : Own.Inf := (⟨"java/lang/StringUTF16", "compress", "([CI[BII)I"⟩, jdk_52_method_21_code, 7, (Option.some Jvm.ClassFile.FieldType.int), { frames := 0, cells := 0, slots := 0, locals := 0 })
theorem d_comp2_0 : Own.D1 jdk_52_method_21_code 0 (.iconst 0) 1 1 := ⟨by decide +kernel, rfl⟩
theorem d_comp2_1 : Own.D1 jdk_52_method_21_code 1 (.istore 5) 2 3 := ⟨by decide +kernel, rfl⟩
theorem d_comp2_3 : Own.D1 jdk_52_method_21_code 3 (.iload 5) 2 5 := ⟨by decide +kernel, rfl⟩
theorem d_comp2_5 : Own.D1 jdk_52_method_21_code 5 (.iload 4) 2 7 := ⟨by decide +kernel, rfl⟩
theorem d_comp2_7 : Own.DB jdk_52_method_21_code 7 (.if_icmp .ge 37) 3 (37) 10 44 := ⟨by decide +kernel, rfl, by decide, rfl⟩
theorem d_comp2_10 : Own.D1 jdk_52_method_21_code 10 (.aload_n 0) 1 11 := ⟨by decide +kernel, rfl⟩
theorem d_comp2_11 : Own.D1 jdk_52_method_21_code 11 (.iload_n 1) 1 12 := ⟨by decide +kernel, rfl⟩
theorem d_comp2_12 : Own.D1 jdk_52_method_21_code 12 .caload 1 13 := ⟨by decide +kernel, rfl⟩
theorem d_comp2_13 : Own.D1 jdk_52_method_21_code 13 (.istore 6) 2 15 := ⟨by decide +kernel, rfl⟩
theorem d_comp2_15 : Own.D1 jdk_52_method_21_code 15 (.iload 6) 2 17 := ⟨by decide +kernel, rfl⟩
theorem d_comp2_17 : Own.D1 jdk_52_method_21_code 17 (.sipush 255) 3 20 := ⟨by decide +kernel, rfl⟩
theorem d_comp2_20 : Own.DB jdk_52_method_21_code 20 (.if_icmp .le 6) 3 (6) 23 26 := ⟨by decide +kernel, rfl, by decide, rfl⟩
theorem d_comp2_23 : Own.D1 jdk_52_method_21_code 23 (.iload 5) 2 25 := ⟨by decide +kernel, rfl⟩
theorem d_comp2_25 : Own.D1 jdk_52_method_21_code 25 .ireturn 1 26 := ⟨by decide +kernel, rfl⟩
theorem d_comp2_26 : Own.D1 jdk_52_method_21_code 26 (.aload_n 2) 1 27 := ⟨by decide +kernel, rfl⟩
theorem d_comp2_27 : Own.D1 jdk_52_method_21_code 27 (.iload_n 3) 1 28 := ⟨by decide +kernel, rfl⟩
theorem d_comp2_28 : Own.D1 jdk_52_method_21_code 28 (.iload 6) 2 30 := ⟨by decide +kernel, rfl⟩
theorem d_comp2_30 : Own.D1 jdk_52_method_21_code 30 .i2b 1 31 := ⟨by decide +kernel, rfl⟩
theorem d_comp2_31 : Own.D1 jdk_52_method_21_code 31 .bastore 1 32 := ⟨by decide +kernel, rfl⟩
theorem d_comp2_32 : Own.D1 jdk_52_method_21_code 32 (.iinc 1 1) 3 35 := ⟨by decide +kernel, rfl⟩
theorem d_comp2_35 : Own.D1 jdk_52_method_21_code 35 (.iinc 3 1) 3 38 := ⟨by decide +kernel, rfl⟩
theorem d_comp2_38 : Own.D1 jdk_52_method_21_code 38 (.iinc 5 1) 3 41 := ⟨by decide +kernel, rfl⟩
theorem d_comp2_41 : Own.DB jdk_52_method_21_code 41 (.goto (-38)) 3 (-38) 44 3 := ⟨by decide +kernel, rfl, by decide, rfl⟩
theorem d_comp2_44 : Own.D1 jdk_52_method_21_code 44 (.iload 4) 2 46 := ⟨by decide +kernel, rfl⟩
theorem d_comp2_46 : Own.D1 jdk_52_method_21_code 46 .ireturn 1 47 := ⟨by decide +kernel, rfl⟩
theorem pn_0 : plainName "java/lang/StringUTF16" = true := by first | (simp [plainName, overriddenIn]; done) | decide +kernel
theorem np_comp2 : Own.npar "([CI[BII)I" = some 5 := by decide +kernel
set_option maxRecDepth 65536 in
set_option maxHeartbeats 40000000 in
theorem c_comp2 {G : Own.Wd} {a0 : Array Value} (e : Ev G a0) {a b : Addr} {cs : List Int32} {vs : List Value} {n : Nat} {h : Heap} (hA : Ary G.Z h a .char (cs.map Value.int)) (hC : ∀ c ∈ cs, IsC c) (hB : Ary G.Z h b .byte vs) (hn : n ≤ cs.length) (hv : n ≤ vs.length) : Met G I_comp2 #[(.ref a), (.int (n32 0)), (.ref b), (.int (n32 0)), (.int (n32 n))] h [b] (Rt (fun x h' S' => S' = [] ∧ ∃ r, r ≤ n ∧ x = .int (n32 r) ∧ (∀ c ∈ cs.take r, IsL c) ∧ (r < n → ∃ c, cs[r]? = some c ∧ (255 : Int32) < c) ∧ Keep h h' [b] ∧ Ary G.Z h' b .byte ((cs.take r).map lat ++ vs.drop r))) := by
  refine Met.intro (ls := #[.val (.ref a), .val (.int (n32 0)), .val (.ref b), .val (.int (n32 0)), .val (.int (n32 n)), .unset, .unset]) (plainFor_of_name pn_0) (fun m => by first | (simp [entryFrame, mkF, argsToLocals, Value.category, I_comp2]; done) | (simp [entryFrame, mkF, argsToLocals, Value.category]; rfl) | rfl) ?_
  intro K
  have hab : a ≠ b := hA.ne hB (by decide)
  have hcs : cs.length < 2147483648 := by obtain ⟨c, -, e1, e2, -⟩ := hA; simpa using e2
  have loop : ∀ (d i : Nat) (o6 : Slot) (h1 : Heap), One o6 → i + d = n → (∀ c ∈ cs.take i, IsL c) → Keep h h1 [b] → Ary G.Z h1 b .byte ((cs.take i).map lat ++ vs.drop i) → WP G I_comp2 (Rt (fun x h' S' => S' = [] ∧ ∃ r, r ≤ n ∧ x = .int (n32 r) ∧ (∀ c ∈ cs.take r, IsL c) ∧ (r < n → ∃ c, cs[r]? = some c ∧ (255 : Int32) < c) ∧ Keep h h' [b] ∧ Ary G.Z h' b .byte ((cs.take r).map lat ++ vs.drop r))) K [b] h1 0 0 3 #[.val (.ref a), .val (.int (n32 i)), .val (.ref b), .val (.int (n32 i)), .val (.int (n32 n)), .val (.int (n32 i)), o6] [] := by
    intro d
    induction d with
    | zero =>
      intro i o6 h1 ho hi hL hK hB1
      obtain rfl : i = n := by omega
      refine Ru.iload d_comp2_3 rfl ?_
      refine Ru.iload d_comp2_5 rfl ?_
      refine Ru.icmpY d_comp2_7 (show ¬ (n32 i) < (n32 i) from (by simp)) ?_
      refine Ru.iload d_comp2_44 rfl ?_
      exact Ru.ireturn d_comp2_46 rfl [] (fun _ q => nomatch q) (Nat.le_of_ble_eq_true rfl) (Nat.le_of_ble_eq_true rfl) ⟨_, rfl, rfl, i, Nat.le_refl _, rfl, hL, fun q => absurd q (Nat.lt_irrefl _), hK, hB1⟩
    | succ d ih =>
      intro i o6 h1 ho hi hL hK hB1
      have hin : i < n := by omega
      have hic : i < cs.length := by omega
      obtain ⟨c, hc⟩ : ∃ c, cs[i]? = some c := ⟨_, List.getElem?_eq_getElem hic⟩
      have hA1 := hA.keep hK (ninS hab nin0)
      refine Ru.iload d_comp2_3 rfl ?_
      refine Ru.iload d_comp2_5 rfl ?_
      refine Ru.icmpN d_comp2_7 (show (n32 i) < (n32 n) from ((n32_lt (by omega) (by omega)).mpr hin)) ?_
      refine Ru.aloadN d_comp2_10 rfl rfl ?_
      refine Ru.iloadN d_comp2_11 rfl ?_
      refine Ru.caload (v := (.int c)) d_comp2_12 hA1 (n32_nn (by omega)) (by rw [n32_cl (by omega)]; simp [hc]) ?_
      refine Ru.istoreG d_comp2_13 (ls' := #[.val (.ref a), .val (.int (n32 i)), .val (.ref b), .val (.int (n32 i)), .val (.int (n32 n)), .val (.int (n32 i)), .val (.int c)]) rfl ho rfl ?_
      refine Ru.iload d_comp2_15 rfl ?_
      refine Ru.sipush (x := 255) d_comp2_17 rfl ?_
      refine Ru.icmp d_comp2_20 (fun (c1 : ¬ (255 : Int32) < c) => ?_) (fun (c1 : (255 : Int32) < c) => ?_)
      · refine Ru.aloadN d_comp2_26 rfl rfl ?_
        refine Ru.iloadN d_comp2_27 rfl ?_
        refine Ru.iload d_comp2_28 rfl ?_
        refine Ru.i2b d_comp2_30 ?_
        refine Ru.bastore d_comp2_31 (by simp) hB1 (n32_nn (by omega)) (by rw [n32_cl (by omega)]; simp; omega) ?_
        intro h2 K2 hB2
        rw [n32_cl (by omega), i8i8, show (Value.int c.toInt8.toInt32) = lat c from rfl, set_step lat hc (by omega)] at hB2
        refine Ru.iinc (y := (1 : Int32)) d_comp2_32 rfl rfl (ls' := #[.val (.ref a), .val (.int ((n32 i) + (1 : Int32))), .val (.ref b), .val (.int (n32 i)), .val (.int (n32 n)), .val (.int (n32 i)), .val (.int c)]) rfl ?_
        refine Ru.iinc (y := (1 : Int32)) d_comp2_35 rfl rfl (ls' := #[.val (.ref a), .val (.int ((n32 i) + (1 : Int32))), .val (.ref b), .val (.int ((n32 i) + (1 : Int32))), .val (.int (n32 n)), .val (.int (n32 i)), .val (.int c)]) rfl ?_
        refine Ru.iinc (y := (1 : Int32)) d_comp2_38 rfl rfl (ls' := #[.val (.ref a), .val (.int ((n32 i) + (1 : Int32))), .val (.ref b), .val (.int ((n32 i) + (1 : Int32))), .val (.int (n32 n)), .val (.int ((n32 i) + (1 : Int32))), .val (.int c)]) rfl ?_
        refine Ru.goto d_comp2_41 ?_
        rw [n32_succ]
        refine ih (i + 1) _ h2 (One.val rfl) (by omega) ?_ (hK.trans K2 (by simp)) hB2
        rw [List.take_succ_eq_append_getElem hic, (List.getElem?_eq_some_iff.mp hc).2]
        intro z hz; rcases List.mem_append.mp hz with hz | hz
        · exact hL z hz
        · rw [List.mem_singleton.mp hz]; exact ⟨(hC c (List.mem_of_getElem? hc)).1, c1⟩
      · refine Ru.iload d_comp2_23 rfl ?_
        exact Ru.ireturn d_comp2_25 rfl [] (fun _ q => nomatch q) (Nat.le_of_ble_eq_true rfl) (Nat.le_of_ble_eq_true rfl) ⟨_, rfl, rfl, i, by omega, rfl, hL, fun _ => ⟨c, hc, c1⟩, hK, hB1⟩
  refine Ru.iconst (x := 0) d_comp2_0 rfl ?_
  refine WP.topI (show (0 : Int32) = n32 0 from rfl) ?_
  refine Ru.istore d_comp2_1 (ls' := #[.val (.ref a), .val (.int (n32 0)), .val (.ref b), .val (.int (n32 0)), .val (.int (n32 n)), .val (.int (n32 0)), .unset]) rfl ?_
  exact loop n 0 _ h One.u (by omega) (by simp) (Keep.refl _ _) (by simpa using hB)
abbrev I_cfal : Own.Inf := (⟨"java/lang/StringUTF16", "coderFromArrayLen", "([BI)B"⟩, jdk_52_method_15_code, 2, (Option.some Jvm.ClassFile.FieldType.byte), { frames := 0, cells := 0, slots := 0, locals := 0 })
theorem d_cfal_0 : Own.D1 jdk_52_method_15_code 0 (.iload_n 1) 1 1 := ⟨by decide +kernel, rfl⟩
theorem d_cfal_1 : Own.D1 jdk_52_method_15_code 1 (.aload_n 0) 1 2 := ⟨by decide +kernel, rfl⟩
theorem d_cfal_2 : Own.D1 jdk_52_method_15_code 2 .arraylength 1 3 := ⟨by decide +kernel, rfl⟩
theorem d_cfal_3 : Own.D1 jdk_52_method_15_code 3 .isub 1 4 := ⟨by decide +kernel, rfl⟩
theorem d_cfal_4 : Own.D1 jdk_52_method_15_code 4 (.bipush 31) 2 6 := ⟨by decide +kernel, rfl⟩
theorem d_cfal_6 : Own.D1 jdk_52_method_15_code 6 .iushr 1 7 := ⟨by decide +kernel, rfl⟩
theorem d_cfal_7 : Own.D1 jdk_52_method_15_code 7 .i2b 1 8 := ⟨by decide +kernel, rfl⟩
theorem d_cfal_8 : Own.D1 jdk_52_method_15_code 8 .ireturn 1 9 := ⟨by decide +kernel, rfl⟩
theorem np_cfal : Own.npar "([BI)B" = some 2 := by decide +kernel
set_option maxRecDepth 65536 in
set_option maxHeartbeats 40000000 in
theorem c_cfal {G : Own.Wd} {a0 : Array Value} (e : Ev G a0) {t : Addr} {vs : List Value} {n : Nat} {h : Heap} (hA : Ary G.Z h t .byte vs) (hq : n ≤ vs.length) (hl : vs.length < 2147483648) : Met G I_cfal #[(.ref t), (.int (n32 n))] h [] (Rt (fun x h' S' => S' = [] ∧ h' = h ∧ x = .int (if vs.length = n then (0 : Int32) else (1 : Int32)))) := by
  refine Met.intro (ls := #[.val (.ref t), .val (.int (n32 n))]) (plainFor_of_name pn_0) (fun m => by first | (simp [entryFrame, mkF, argsToLocals, Value.category, I_cfal]; done) | (simp [entryFrame, mkF, argsToLocals, Value.category]; rfl) | rfl) ?_
  intro K
  refine Ru.iloadN d_cfal_0 rfl ?_
  refine Ru.aloadN d_cfal_1 rfl rfl ?_
  refine Ru.arraylength (n := (n32 vs.length)) d_cfal_2 hA rfl ?_
  refine Ru.isub d_cfal_3 ?_
  refine Ru.bipush (x := 31) d_cfal_4 rfl ?_
  refine Ru.iushr d_cfal_6 ?_
  refine Ru.i2b d_cfal_7 ?_
  exact Ru.ireturnN (t := .byte) d_cfal_8 rfl (by simp) (cfal_nar hq hl) [] (fun _ q => nomatch q) (Nat.le_of_ble_eq_true rfl) (Nat.le_of_ble_eq_true rfl) ⟨_, rfl, rfl, rfl, rfl⟩
abbrev I_comp1 : Own.Inf := (⟨"java/lang/StringUTF16", "compress", "([CII)[B"⟩, jdk_52_method_16_code, 6, (Option.some (Jvm.ClassFile.FieldType.array Jvm.ClassFile.FieldType.byte)), { frames := 1, cells := 1, slots := 4, locals := 18 })
theorem d_comp1_0 : Own.D1 jdk_52_method_16_code 0 (.iload_n 2) 1 1 := ⟨by decide +kernel, rfl⟩
theorem d_comp1_1 : Own.D1 jdk_52_method_16_code 1 (.newarray .byte) 2 3 := ⟨by decide +kernel, rfl⟩
theorem d_comp1_3 : Own.D1 jdk_52_method_16_code 3 (.astore_n 3) 1 4 := ⟨by decide +kernel, rfl⟩
theorem d_comp1_4 : Own.D1 jdk_52_method_16_code 4 (.aload_n 0) 1 5 := ⟨by decide +kernel, rfl⟩
theorem d_comp1_5 : Own.D1 jdk_52_method_16_code 5 (.iload_n 1) 1 6 := ⟨by decide +kernel, rfl⟩
theorem d_comp1_6 : Own.D1 jdk_52_method_16_code 6 (.aload_n 3) 1 7 := ⟨by decide +kernel, rfl⟩
theorem d_comp1_7 : Own.D1 jdk_52_method_16_code 7 (.iconst 0) 1 8 := ⟨by decide +kernel, rfl⟩
theorem d_comp1_8 : Own.D1 jdk_52_method_16_code 8 (.iload_n 2) 1 9 := ⟨by decide +kernel, rfl⟩
theorem d_comp1_9 : Own.D1 jdk_52_method_16_code 9 (.invokestatic 115) 3 12 := ⟨by decide +kernel, rfl⟩
theorem d_comp1_12 : Own.D1 jdk_52_method_16_code 12 (.istore 4) 2 14 := ⟨by decide +kernel, rfl⟩
theorem d_comp1_14 : Own.D1 jdk_52_method_16_code 14 (.iload 4) 2 16 := ⟨by decide +kernel, rfl⟩
theorem d_comp1_16 : Own.D1 jdk_52_method_16_code 16 (.iload_n 2) 1 17 := ⟨by decide +kernel, rfl⟩
theorem d_comp1_17 : Own.DB jdk_52_method_16_code 17 (.if_icmp .eq 40) 3 (40) 20 57 := ⟨by decide +kernel, rfl, by decide, rfl⟩
theorem d_comp1_20 : Own.D1 jdk_52_method_16_code 20 (.aload_n 0) 1 21 := ⟨by decide +kernel, rfl⟩
theorem d_comp1_21 : Own.D1 jdk_52_method_16_code 21 (.iload_n 1) 1 22 := ⟨by decide +kernel, rfl⟩
theorem d_comp1_22 : Own.D1 jdk_52_method_16_code 22 (.iload_n 2) 1 23 := ⟨by decide +kernel, rfl⟩
theorem d_comp1_23 : Own.D1 jdk_52_method_16_code 23 (.invokestatic 119) 3 26 := ⟨by decide +kernel, rfl⟩
theorem d_comp1_26 : Own.D1 jdk_52_method_16_code 26 (.astore 5) 2 28 := ⟨by decide +kernel, rfl⟩
theorem d_comp1_28 : Own.D1 jdk_52_method_16_code 28 (.aload 5) 2 30 := ⟨by decide +kernel, rfl⟩
theorem d_comp1_30 : Own.D1 jdk_52_method_16_code 30 (.iload 4) 2 32 := ⟨by decide +kernel, rfl⟩
theorem d_comp1_32 : Own.D1 jdk_52_method_16_code 32 (.invokestatic 71) 3 35 := ⟨by decide +kernel, rfl⟩
theorem d_comp1_35 : Own.D1 jdk_52_method_16_code 35 (.sipush 255) 3 38 := ⟨by decide +kernel, rfl⟩
theorem d_comp1_38 : Own.DB jdk_52_method_16_code 38 (.if_icmp .gt 16) 3 (16) 41 54 := ⟨by decide +kernel, rfl, by decide, rfl⟩
theorem d_comp1_41 : Own.D1 jdk_52_method_16_code 41 (.aload 5) 2 43 := ⟨by decide +kernel, rfl⟩
theorem d_comp1_43 : Own.D1 jdk_52_method_16_code 43 (.iconst 0) 1 44 := ⟨by decide +kernel, rfl⟩
theorem d_comp1_44 : Own.D1 jdk_52_method_16_code 44 (.aload_n 3) 1 45 := ⟨by decide +kernel, rfl⟩
theorem d_comp1_45 : Own.D1 jdk_52_method_16_code 45 (.iconst 0) 1 46 := ⟨by decide +kernel, rfl⟩
theorem d_comp1_46 : Own.D1 jdk_52_method_16_code 46 (.iload_n 2) 1 47 := ⟨by decide +kernel, rfl⟩
theorem d_comp1_47 : Own.D1 jdk_52_method_16_code 47 (.invokestatic 123) 3 50 := ⟨by decide +kernel, rfl⟩
theorem d_comp1_50 : Own.D1 jdk_52_method_16_code 50 (.iload_n 2) 1 51 := ⟨by decide +kernel, rfl⟩
theorem d_comp1_51 : Own.DB jdk_52_method_16_code 51 (.if_icmp .eq 6) 3 (6) 54 57 := ⟨by decide +kernel, rfl, by decide, rfl⟩
theorem d_comp1_54 : Own.D1 jdk_52_method_16_code 54 (.aload 5) 2 56 := ⟨by decide +kernel, rfl⟩
theorem d_comp1_56 : Own.D1 jdk_52_method_16_code 56 .areturn 1 57 := ⟨by decide +kernel, rfl⟩
theorem d_comp1_57 : Own.D1 jdk_52_method_16_code 57 (.aload_n 3) 1 58 := ⟨by decide +kernel, rfl⟩
theorem d_comp1_58 : Own.D1 jdk_52_method_16_code 58 .areturn 1 59 := ⟨by decide +kernel, rfl⟩
theorem np_comp1 : Own.npar "([CII)[B" = some 3 := by decide +kernel
set_option maxRecDepth 65536 in
set_option maxHeartbeats 40000000 in
theorem c_comp1 {G : Own.Wd} {a0 : Array Value} (e : Ev G a0) {a : Addr} {cs : List Int32} {n : Nat} {h : Heap} (hA : Ary G.Z h a .char (cs.map Value.int)) (hC : ∀ c ∈ cs, IsC c) (hn : n ≤ cs.length) (hcap : n ≤ 4) (hL : ∀ c ∈ cs.take n, IsL c) : Met G I_comp1 #[(.ref a), (.int (n32 0)), (.int (n32 n))] h [] (Rt (fun x h' S' => ∃ t, x = .ref t ∧ h.size ≤ t ∧ S' = [t] ∧ Keep h h' [] ∧ Ary G.Z h' t .byte ((cs.take n).map lat))) := by
  refine Met.intro (ls := #[.val (.ref a), .val (.int (n32 0)), .val (.int (n32 n)), .unset, .unset, .unset]) (plainFor_of_name pn_0) (fun m => by first | (simp [entryFrame, mkF, argsToLocals, Value.category, I_comp1]; done) | (simp [entryFrame, mkF, argsToLocals, Value.category]; rfl) | rfl) ?_
  intro K
  have hcs : cs.length < 2147483648 := by obtain ⟨c, -, e1, e2, -⟩ := hA; simpa using e2
  refine Ru.iloadN d_comp1_0 rfl ?_
  refine Ru.newarray (cap := 4) d_comp1_1 (ty := .byte) rfl (e.w 19 rfl) rfl (n32_nn (by omega)) (by rw [n32_cl (by omega)]; exact hcap) (Nat.le_of_ble_eq_true rfl) (Nat.le_of_ble_eq_true rfl) (Nat.le_of_ble_eq_true rfl) ?_
  intro h1 t gt E1 T1
  rw [n32_cl (by omega)] at T1
  have hA1 := hA.ext E1
  refine Ru.astoreN d_comp1_3 rfl (ls' := #[.val (.ref a), .val (.int (n32 0)), .val (.int (n32 n)), .val (.ref t), .unset, .unset]) rfl ?_
  refine Ru.aloadN d_comp1_4 rfl rfl ?_
  refine Ru.iloadN d_comp1_5 rfl ?_
  refine Ru.aloadN d_comp1_6 rfl rfl ?_
  refine Ru.iconst (x := 0) d_comp1_7 rfl ?_
  refine WP.topI (show (0 : Int32) = (n32 0) from rfl) ?_
  refine Ru.iloadN d_comp1_8 rfl ?_
  refine Ru.callS0 (J := I_comp2) (c_comp2 e (n := n) hA1 hC T1 hn (by simp)) d_comp1_9 (e.w 20 rfl) (e.w 21 rfl) (e.w 17 rfl) (e.w 22 rfl) (by decide) np_comp2 rfl (argsL := [(.ref a), (.int (n32 0)), (.ref t), (.int (n32 0)), (.int (n32 n))]) (rest := []) rfl rfl (by simp) (Nat.le_of_ble_eq_true rfl) (Nat.le_of_ble_eq_true rfl) (Nat.le_of_ble_eq_true rfl) (Nat.le_of_ble_eq_true rfl) (WP.rt ?_)
  rintro _ h2 S2 ⟨rfl, r, hr, rfl, hL2, hr2, K2, T2⟩
  obtain rfl : n = r := by rcases Nat.lt_or_ge r n with q | q; · obtain ⟨c, q1, q2⟩ := hr2 q; exact absurd q2 (hL c (List.mem_of_getElem? (i := r) (by rw [List.getElem?_take, if_pos q]; exact q1))).2
                           · omega
  refine Ru.istore d_comp1_12 (ls' := #[.val (.ref a), .val (.int (n32 0)), .val (.int (n32 n)), .val (.ref t), .val (.int (n32 n)), .unset]) rfl ?_
  refine Ru.iload d_comp1_14 rfl ?_
  refine Ru.iloadN d_comp1_16 rfl ?_
  refine Ru.icmpY d_comp1_17 (show (n32 n) = (n32 n) from rfl) ?_
  refine Ru.aloadN d_comp1_57 rfl rfl ?_
  have T3 : Ary G.Z h2 t .byte ((cs.take n).map lat) := by simpa using T2
  exact Ru.areturn (t := (.array .byte)) d_comp1_58 rfl rfl rfl rfl [t] (by simp) (Nat.le_of_ble_eq_true rfl) (Nat.le_of_ble_eq_true rfl) ⟨_, rfl, t, rfl, by omega, rfl, ((keepE E1).trans K2 (by simp; omega)), T3⟩
abbrev I_si4 : Own.Inf := (⟨"java/lang/String", "<init>", "([CIILjava/lang/Void;)V"⟩, jdk_42_method_149_code, 6, (Option.none : Option Jvm.ClassFile.FieldType), { frames := 2, cells := 1, slots := 4, locals := 35 })
theorem d_si4_0 : Own.D1 jdk_42_method_149_code 0 (.aload_n 0) 1 1 := ⟨by decide +kernel, rfl⟩
theorem d_si4_1 : Own.D1 jdk_42_method_149_code 1 (.invokespecial 1) 3 4 := ⟨by decide +kernel, rfl⟩
theorem d_si4_4 : Own.D1 jdk_42_method_149_code 4 (.iload_n 3) 1 5 := ⟨by decide +kernel, rfl⟩
theorem d_si4_5 : Own.DB jdk_42_method_149_code 5 (.ifCond .ne 22) 3 (22) 8 27 := ⟨by decide +kernel, rfl, by decide, rfl⟩
theorem d_si4_8 : Own.D1 jdk_42_method_149_code 8 (.aload_n 0) 1 9 := ⟨by decide +kernel, rfl⟩
theorem d_si4_9 : Own.D1 jdk_42_method_149_code 9 (.ldc 7) 2 11 := ⟨by decide +kernel, rfl⟩
theorem d_si4_11 : Own.D1 jdk_42_method_149_code 11 (.getfield 9) 3 14 := ⟨by decide +kernel, rfl⟩
theorem d_si4_14 : Own.D1 jdk_42_method_149_code 14 (.putfield 9) 3 17 := ⟨by decide +kernel, rfl⟩
theorem d_si4_17 : Own.D1 jdk_42_method_149_code 17 (.aload_n 0) 1 18 := ⟨by decide +kernel, rfl⟩
theorem d_si4_18 : Own.D1 jdk_42_method_149_code 18 (.ldc 7) 2 20 := ⟨by decide +kernel, rfl⟩
theorem d_si4_20 : Own.D1 jdk_42_method_149_code 20 (.getfield 15) 3 23 := ⟨by decide +kernel, rfl⟩
theorem d_si4_23 : Own.D1 jdk_42_method_149_code 23 (.putfield 15) 3 26 := ⟨by decide +kernel, rfl⟩
theorem d_si4_26 : Own.D1 jdk_42_method_149_code 26 .return_ 1 27 := ⟨by decide +kernel, rfl⟩
theorem d_si4_27 : Own.D1 jdk_42_method_149_code 27 (.getstatic 38) 3 30 := ⟨by decide +kernel, rfl⟩
theorem d_si4_30 : Own.DB jdk_42_method_149_code 30 (.ifCond .eq 28) 3 (28) 33 58 := ⟨by decide +kernel, rfl, by decide, rfl⟩
theorem d_si4_33 : Own.D1 jdk_42_method_149_code 33 (.aload_n 1) 1 34 := ⟨by decide +kernel, rfl⟩
theorem d_si4_34 : Own.D1 jdk_42_method_149_code 34 (.iload_n 2) 1 35 := ⟨by decide +kernel, rfl⟩
theorem d_si4_35 : Own.D1 jdk_42_method_149_code 35 (.iload_n 3) 1 36 := ⟨by decide +kernel, rfl⟩
theorem d_si4_36 : Own.D1 jdk_42_method_149_code 36 (.invokestatic 177) 3 39 := ⟨by decide +kernel, rfl⟩
theorem d_si4_39 : Own.D1 jdk_42_method_149_code 39 (.astore 5) 2 41 := ⟨by decide +kernel, rfl⟩
theorem d_si4_41 : Own.D1 jdk_42_method_149_code 41 (.aload_n 0) 1 42 := ⟨by decide +kernel, rfl⟩
theorem d_si4_42 : Own.D1 jdk_42_method_149_code 42 (.aload 5) 2 44 := ⟨by decide +kernel, rfl⟩
theorem d_si4_44 : Own.D1 jdk_42_method_149_code 44 (.iload_n 3) 1 45 := ⟨by decide +kernel, rfl⟩
theorem d_si4_45 : Own.D1 jdk_42_method_149_code 45 (.invokestatic 47) 3 48 := ⟨by decide +kernel, rfl⟩
theorem d_si4_48 : Own.D1 jdk_42_method_149_code 48 (.putfield 15) 3 51 := ⟨by decide +kernel, rfl⟩
theorem d_si4_51 : Own.D1 jdk_42_method_149_code 51 (.aload_n 0) 1 52 := ⟨by decide +kernel, rfl⟩
theorem d_si4_52 : Own.D1 jdk_42_method_149_code 52 (.aload 5) 2 54 := ⟨by decide +kernel, rfl⟩
theorem d_si4_54 : Own.D1 jdk_42_method_149_code 54 (.putfield 9) 3 57 := ⟨by decide +kernel, rfl⟩
theorem d_si4_57 : Own.D1 jdk_42_method_149_code 57 .return_ 1 58 := ⟨by decide +kernel, rfl⟩
theorem d_si4_58 : Own.D1 jdk_42_method_149_code 58 (.aload_n 0) 1 59 := ⟨by decide +kernel, rfl⟩
theorem d_si4_59 : Own.D1 jdk_42_method_149_code 59 (.iconst 1) 1 60 := ⟨by decide +kernel, rfl⟩
theorem d_si4_60 : Own.D1 jdk_42_method_149_code 60 (.putfield 15) 3 63 := ⟨by decide +kernel, rfl⟩
theorem d_si4_63 : Own.D1 jdk_42_method_149_code 63 (.aload_n 0) 1 64 := ⟨by decide +kernel, rfl⟩
theorem d_si4_64 : Own.D1 jdk_42_method_149_code 64 (.aload_n 1) 1 65 := ⟨by decide +kernel, rfl⟩
theorem d_si4_65 : Own.D1 jdk_42_method_149_code 65 (.iload_n 2) 1 66 := ⟨by decide +kernel, rfl⟩
theorem d_si4_66 : Own.D1 jdk_42_method_149_code 66 (.iload_n 3) 1 67 := ⟨by decide +kernel, rfl⟩
theorem d_si4_67 : Own.D1 jdk_42_method_149_code 67 (.invokestatic 180) 3 70 := ⟨by decide +kernel, rfl⟩
theorem d_si4_70 : Own.D1 jdk_42_method_149_code 70 (.putfield 9) 3 73 := ⟨by decide +kernel, rfl⟩
theorem d_si4_73 : Own.D1 jdk_42_method_149_code 73 .return_ 1 74 := ⟨by decide +kernel, rfl⟩
theorem pn_1 : plainName "java/lang/String" = true := by first | (simp [plainName, overriddenIn]; done) | decide +kernel
theorem np_si4 : Own.npar "([CIILjava/lang/Void;)V" = some 4 := by decide +kernel
set_option maxRecDepth 65536 in
set_option maxHeartbeats 40000000 in
theorem c_si4 {G : Own.Wd} {a0 : Array Value} (e : Ev G a0) {a b : Addr} {cs : List Int32} {n : Nat} {v0 : Value} {c0 : Int32} {h : Heap} (E0 : Exa G.Z h a "java/lang/String") (Fv : Fld G.Z h a "java/lang/String" "value" "[B" v0) (Fc : Fld G.Z h a "java/lang/String" "coder" "B" (.int c0)) (hA : Ary G.Z h b .char (cs.map Value.int)) (hC : ∀ c ∈ cs, IsC c) (hn : n ≤ cs.length) (h0 : 0 < n) (hcap : n ≤ 4) (hL : ∀ c ∈ cs.take n, IsL c) : Met G I_si4 #[(.ref a), (.ref b), (.int (n32 0)), (.int (n32 n)), .null] h [a] (Rv (fun h' S' => S' = [] ∧ ∃ t, h.size ≤ t ∧ Keep h h' [a] ∧ StrL G.Z h' a t (cs.take n))) := by
  refine Met.intro (ls := #[.val (.ref a), .val (.ref b), .val (.int (n32 0)), .val (.int (n32 n)), .val .null, .unset]) (plainFor_of_name pn_1) (fun m => by first | (simp [entryFrame, mkF, argsToLocals, Value.category, I_si4]; done) | (simp [entryFrame, mkF, argsToLocals, Value.category]; rfl) | rfl) ?_
  intro K
  have hcs : cs.length < 2147483648 := by obtain ⟨c, -, e1, e2, -⟩ := hA; simpa using e2
  obtain ⟨cz, hcz, hz⟩ := e.cz
  have hne : Jvm.RoadKit.slotOf G.Z "java/lang/String" "coder" "B" ≠ Jvm.RoadKit.slotOf G.Z "java/lang/String" "value" "[B" := slot_ne (Or.inr (e.w 27 rfl)) (Or.inr (e.w 29 rfl)) (by decide) (t := .byte) (by decide) (t' := .array .byte) (by decide)
  refine Ru.aloadN d_si4_0 rfl rfl ?_
  refine Ru.initO d_si4_1 (e.w 11 rfl) (e.w 12 rfl) (e.w 13 rfl) rfl (Nat.le_of_ble_eq_true rfl) (Nat.le_of_ble_eq_true rfl) ?_
  refine Ru.iloadN d_si4_4 rfl ?_
  refine Ru.ifY d_si4_5 (show ¬ (n32 n) = (0 : Int32) from (fun q => by have := (n32_eq (n := n) (m := 0) (by omega) (by omega)).mp q; omega)) ?_
  refine Ru.getstatic d_si4_27 (e.w 14 rfl) hcz ?_
  refine Ru.ifN d_si4_30 (show ¬ cz = (0 : Int32) from hz) ?_
  refine Ru.aloadN d_si4_33 rfl rfl ?_
  refine Ru.iloadN d_si4_34 rfl ?_
  refine Ru.iloadN d_si4_35 rfl ?_
  refine Ru.callS0 (J := I_comp1) (c_comp1 e (n := n) hA hC hn hcap hL) d_si4_36 (e.w 15 rfl) (e.w 16 rfl) (e.w 17 rfl) (e.w 18 rfl) (by decide) np_comp1 rfl (argsL := [(.ref b), (.int (n32 0)), (.int (n32 n))]) (rest := []) rfl rfl (fun _ q => nomatch q) (Nat.le_of_ble_eq_true rfl) (Nat.le_of_ble_eq_true rfl) (Nat.le_of_ble_eq_true rfl) (Nat.le_of_ble_eq_true rfl) (WP.rt ?_)
  rintro _ h1 S1 ⟨t, rfl, gt, rfl, K1, T1⟩
  have at_ := E0.lt
  have F1 := Fv.keep K1 nin0; have F2 := Fc.keep K1 nin0; have E1 := E0.keep K1
  refine Ru.astore d_si4_39 rfl (ls' := #[.val (.ref a), .val (.ref b), .val (.int (n32 0)), .val (.int (n32 n)), .val .null, .val (.ref t)]) rfl ?_
  refine Ru.aloadN d_si4_41 rfl rfl ?_
  refine Ru.aload d_si4_42 rfl rfl ?_
  refine Ru.iloadN d_si4_44 rfl ?_
  refine Ru.callS0 (J := I_cfal) (c_cfal e (n := n) T1 (by simp; omega) (by simp; omega)) d_si4_45 (e.w 23 rfl) (e.w 24 rfl) (e.w 17 rfl) (e.w 25 rfl) (by decide) np_cfal rfl (argsL := [(.ref t), (.int (n32 n))]) (rest := [(.ref a)]) rfl rfl (fun _ q => nomatch q) (Nat.le_of_ble_eq_true rfl) (Nat.le_of_ble_eq_true rfl) (Nat.le_of_ble_eq_true rfl) (Nat.le_of_ble_eq_true rfl) (WP.rt ?_)
  rintro _ _ S2 ⟨rfl, rfl, rfl⟩
  refine WP.topI (show (if ((cs.take n).map lat).length = n then (0 : Int32) else (1 : Int32)) = (0 : Int32) from (if_pos (by simp; omega))) ?_
  refine Ru.putfield d_si4_48 (e.w 26 rfl) Via.refl (by simp) F2 E1 (Or.inr ⟨(e.w 27 rfl), rfl, rfl⟩) (e.w 1 rfl) (ty := .byte) (by decide) rfl rfl ?_
  intro h2 W2
  have K2 := Keep.of_wr W2; have hta : t ≠ a := Nat.ne_of_gt (Nat.lt_of_lt_of_le at_ gt)
  have G2 := F2.same W2; have G1 := F1.other W2 (Or.inr hne.symm); have E2 := E1.wr W2; have T2 := T1.keep K2 (ninS hta nin0)
  refine Ru.aloadN d_si4_51 rfl rfl ?_
  refine Ru.aload d_si4_52 rfl rfl ?_
  refine Ru.putfield d_si4_54 (e.w 28 rfl) Via.refl (by simp) G1 E2 (Or.inr ⟨(e.w 29 rfl), rfl, rfl⟩) (e.w 1 rfl) (ty := (.array .byte)) (by decide) rfl rfl ?_
  intro h3 W3
  have K3 := Keep.of_wr W3
  exact Ru.ret d_si4_57 rfl [] (fun _ q => nomatch q) (Nat.le_of_ble_eq_true rfl) (Nat.le_of_ble_eq_true rfl) ⟨rfl, rfl, t, gt, (((k0 K1).trans K2 (by simp)).trans K3 (by simp)), E2.wr W3, G1.same W3, G2.other W3 (Or.inr hne), T2.keep K3 (ninS hta nin0), hL⟩
abbrev I_si : Own.Inf := (⟨"java/lang/String", "<init>", "([C)V"⟩, jdk_42_method_3_code, 2, (Option.none : Option Jvm.ClassFile.FieldType), { frames := 3, cells := 1, slots := 4, locals := 52 })
theorem d_si_0 : Own.D1 jdk_42_method_3_code 0 (.aload_n 0) 1 1 := ⟨by decide +kernel, rfl⟩
theorem d_si_1 : Own.D1 jdk_42_method_3_code 1 (.aload_n 1) 1 2 := ⟨by decide +kernel, rfl⟩
theorem d_si_2 : Own.D1 jdk_42_method_3_code 2 (.iconst 0) 1 3 := ⟨by decide +kernel, rfl⟩
theorem d_si_3 : Own.D1 jdk_42_method_3_code 3 (.aload_n 1) 1 4 := ⟨by decide +kernel, rfl⟩
theorem d_si_4 : Own.D1 jdk_42_method_3_code 4 .arraylength 1 5 := ⟨by decide +kernel, rfl⟩
theorem d_si_5 : Own.D1 jdk_42_method_3_code 5 .aconst_null 1 6 := ⟨by decide +kernel, rfl⟩
theorem d_si_6 : Own.D1 jdk_42_method_3_code 6 (.invokespecial 27) 3 9 := ⟨by decide +kernel, rfl⟩
theorem d_si_9 : Own.D1 jdk_42_method_3_code 9 .return_ 1 10 := ⟨by decide +kernel, rfl⟩
theorem np_si : Own.npar "([C)V" = some 1 := by decide +kernel
set_option maxRecDepth 65536 in
set_option maxHeartbeats 40000000 in
theorem c_si {G : Own.Wd} {a0 : Array Value} (e : Ev G a0) {a b : Addr} {cs : List Int32} {v0 : Value} {c0 : Int32} {h : Heap} (E0 : Exa G.Z h a "java/lang/String") (Fv : Fld G.Z h a "java/lang/String" "value" "[B" v0) (Fc : Fld G.Z h a "java/lang/String" "coder" "B" (.int c0)) (hA : Ary G.Z h b .char (cs.map Value.int)) (h0 : 0 < cs.length) (hcap : cs.length ≤ 4) (hL : ∀ c ∈ cs, IsL c) : Met G I_si #[(.ref a), (.ref b)] h [a] (Rv (fun h' S' => S' = [] ∧ ∃ t, h.size ≤ t ∧ Keep h h' [a] ∧ StrL G.Z h' a t cs)) := by
  refine Met.intro (ls := #[.val (.ref a), .val (.ref b)]) (plainFor_of_name pn_1) (fun m => by first | (simp [entryFrame, mkF, argsToLocals, Value.category, I_si]; done) | (simp [entryFrame, mkF, argsToLocals, Value.category]; rfl) | rfl) ?_
  intro K
  have hC : ∀ c ∈ cs, IsC c := fun c q => (hL c q).c
  refine Ru.aloadN d_si_0 rfl rfl ?_
  refine Ru.aloadN d_si_1 rfl rfl ?_
  refine Ru.iconst (x := 0) d_si_2 rfl ?_
  refine WP.topI (show (0 : Int32) = (n32 0) from rfl) ?_
  refine Ru.aloadN d_si_3 rfl rfl ?_
  refine Ru.arraylength (n := (n32 cs.length)) d_si_4 hA (by simp [n32]) ?_
  refine Ru.aconstNull d_si_5 ?_
  refine Ru.callI0 (J := I_si4) (c_si4 e (n := cs.length) E0 Fv Fc hA hC (Nat.le_refl _) h0 hcap (by simpa using hL)) d_si_6 rfl rfl (e.w 7 rfl) (e.w 8 rfl) (e.w 2 rfl) (e.w 10 rfl) (by decide) np_si4 rfl (a := a) (argsL := [(.ref b), (.int (n32 0)), (.int (n32 cs.length)), .null]) (rest := []) rfl rfl (by simp) (Nat.le_of_ble_eq_true rfl) (Nat.le_of_ble_eq_true rfl) (Nat.le_of_ble_eq_true rfl) (Nat.le_of_ble_eq_true rfl) (WP.rv ?_)
  rintro h1 S1 ⟨rfl, t, gt, K1, T1⟩
  exact Ru.ret d_si_9 rfl [] (fun _ q => nomatch q) (Nat.le_of_ble_eq_true rfl) (Nat.le_of_ble_eq_true rfl) ⟨rfl, rfl, t, gt, K1, by simpa using T1⟩
abbrev I_canenc : Own.Inf := (⟨"java/lang/StringLatin1", "canEncode", "(C)Z"⟩, jdk_43_method_3_code, 1, (Option.some Jvm.ClassFile.FieldType.boolean), { frames := 0, cells := 0, slots := 0, locals := 0 })
theorem d_canenc_0 : Own.D1 jdk_43_method_3_code 0 (.iload_n 0) 1 1 := ⟨by decide +kernel, rfl⟩
theorem d_canenc_1 : Own.D1 jdk_43_method_3_code 1 (.sipush 255) 3 4 := ⟨by decide +kernel, rfl⟩
theorem d_canenc_4 : Own.DB jdk_43_method_3_code 4 (.if_icmp .gt 7) 3 (7) 7 11 := ⟨by decide +kernel, rfl, by decide, rfl⟩
theorem d_canenc_7 : Own.D1 jdk_43_method_3_code 7 (.iconst 1) 1 8 := ⟨by decide +kernel, rfl⟩
theorem d_canenc_8 : Own.DB jdk_43_method_3_code 8 (.goto 4) 3 (4) 11 12 := ⟨by decide +kernel, rfl, by decide, rfl⟩
theorem d_canenc_11 : Own.D1 jdk_43_method_3_code 11 (.iconst 0) 1 12 := ⟨by decide +kernel, rfl⟩
theorem d_canenc_12 : Own.D1 jdk_43_method_3_code 12 .ireturn 1 13 := ⟨by decide +kernel, rfl⟩
theorem pn_2 : plainName "java/lang/StringLatin1" = true := by first | (simp [plainName, overriddenIn]; done) | decide +kernel
theorem np_canenc : Own.npar "(C)Z" = some 1 := by decide +kernel
set_option maxRecDepth 65536 in
set_option maxHeartbeats 40000000 in
theorem c_canenc {G : Own.Wd} {a0 : Array Value} (e : Ev G a0) {c : Int32} {h : Heap} (hL : IsL c) : Met G I_canenc #[(.int c)] h [] (Rt (fun x h' S' => S' = [] ∧ h' = h ∧ x = .int 1)) := by
  refine Met.intro (ls := #[.val (.int c)]) (plainFor_of_name pn_2) (fun m => by first | (simp [entryFrame, mkF, argsToLocals, Value.category, I_canenc]; done) | (simp [entryFrame, mkF, argsToLocals, Value.category]; rfl) | rfl) ?_
  intro K
  refine Ru.iloadN d_canenc_0 rfl ?_
  refine Ru.sipush (x := 255) d_canenc_1 rfl ?_
  refine Ru.icmpN d_canenc_4 (show ¬ (255 : Int32) < c from hL.2) ?_
  refine Ru.iconst (x := 1) d_canenc_7 rfl ?_
  refine Ru.goto d_canenc_8 ?_
  exact Ru.ireturnN (t := .boolean) (x' := (1 : Int32)) d_canenc_12 rfl (by simp) rfl [] (fun _ q => nomatch q) (Nat.le_of_ble_eq_true rfl) (Nat.le_of_ble_eq_true rfl) ⟨_, rfl, rfl, rfl, rfl⟩
abbrev I_tob1 : Own.Inf := (⟨"java/lang/StringLatin1", "toBytes", "(C)[B"⟩, jdk_43_method_46_code, 1, (Option.some (Jvm.ClassFile.FieldType.array Jvm.ClassFile.FieldType.byte)), { frames := 0, cells := 1, slots := 1, locals := 0 })
theorem d_tob1_0 : Own.D1 jdk_43_method_46_code 0 (.iconst 1) 1 1 := ⟨by decide +kernel, rfl⟩
theorem d_tob1_1 : Own.D1 jdk_43_method_46_code 1 (.newarray .byte) 2 3 := ⟨by decide +kernel, rfl⟩
theorem d_tob1_3 : Own.D1 jdk_43_method_46_code 3 .dup 1 4 := ⟨by decide +kernel, rfl⟩
theorem d_tob1_4 : Own.D1 jdk_43_method_46_code 4 (.iconst 0) 1 5 := ⟨by decide +kernel, rfl⟩
theorem d_tob1_5 : Own.D1 jdk_43_method_46_code 5 (.iload_n 0) 1 6 := ⟨by decide +kernel, rfl⟩
theorem d_tob1_6 : Own.D1 jdk_43_method_46_code 6 .i2b 1 7 := ⟨by decide +kernel, rfl⟩
theorem d_tob1_7 : Own.D1 jdk_43_method_46_code 7 .bastore 1 8 := ⟨by decide +kernel, rfl⟩
theorem d_tob1_8 : Own.D1 jdk_43_method_46_code 8 .areturn 1 9 := ⟨by decide +kernel, rfl⟩
theorem np_tob1 : Own.npar "(C)[B" = some 1 := by decide +kernel
set_option maxRecDepth 65536 in
set_option maxHeartbeats 40000000 in
theorem c_tob1 {G : Own.Wd} {a0 : Array Value} (e : Ev G a0) {c : Int32} {h : Heap}  : Met G I_tob1 #[(.int c)] h [] (Rt (fun x h' S' => ∃ t, x = .ref t ∧ h.size ≤ t ∧ S' = [t] ∧ Keep h h' [] ∧ Ary G.Z h' t .byte ([c].map lat))) := by
  refine Met.intro (ls := #[.val (.int c)]) (plainFor_of_name pn_2) (fun m => by first | (simp [entryFrame, mkF, argsToLocals, Value.category, I_tob1]; done) | (simp [entryFrame, mkF, argsToLocals, Value.category]; rfl) | rfl) ?_
  intro K
  refine Ru.iconst (x := 1) d_tob1_0 rfl ?_
  refine Ru.newarray (cap := 1) d_tob1_1 (ty := .byte) rfl (e.w 19 rfl) rfl (by decide) (Nat.le_of_ble_eq_true rfl) (Nat.le_of_ble_eq_true rfl) (Nat.le_of_ble_eq_true rfl) (Nat.le_of_ble_eq_true rfl) ?_
  intro h1 t gt E1 T1
  refine Ru.dup d_tob1_3 rfl ?_
  refine Ru.iconst (x := 0) d_tob1_4 rfl ?_
  refine Ru.iloadN d_tob1_5 rfl ?_
  refine Ru.i2b d_tob1_6 ?_
  refine Ru.bastore d_tob1_7 (by simp) T1 (by decide) (Nat.le_of_ble_eq_true rfl) ?_
  intro h2 K2 T2
  have T3 : Ary G.Z h2 t .byte ([c].map lat) := by rw [i8i8] at T2; exact T2
  exact Ru.areturn (t := (.array .byte)) d_tob1_8 rfl rfl rfl rfl [t] (by simp) (Nat.le_of_ble_eq_true rfl) (Nat.le_of_ble_eq_true rfl) ⟨_, rfl, t, rfl, by omega, rfl, ((keepE E1).trans K2 (by simp; omega)), T3⟩
abbrev I_sib : Own.Inf := (⟨"java/lang/String", "<init>", "([BB)V"⟩, jdk_42_method_151_code, 3, (Option.none : Option Jvm.ClassFile.FieldType), { frames := 1, cells := 0, slots := 0, locals := 12 })
theorem d_sib_0 : Own.D1 jdk_42_method_151_code 0 (.aload_n 0) 1 1 := ⟨by decide +kernel, rfl⟩
theorem d_sib_1 : Own.D1 jdk_42_method_151_code 1 (.invokespecial 1) 3 4 := ⟨by decide +kernel, rfl⟩
theorem d_sib_4 : Own.D1 jdk_42_method_151_code 4 (.aload_n 0) 1 5 := ⟨by decide +kernel, rfl⟩
theorem d_sib_5 : Own.D1 jdk_42_method_151_code 5 (.aload_n 1) 1 6 := ⟨by decide +kernel, rfl⟩
theorem d_sib_6 : Own.D1 jdk_42_method_151_code 6 (.putfield 9) 3 9 := ⟨by decide +kernel, rfl⟩
theorem d_sib_9 : Own.D1 jdk_42_method_151_code 9 (.aload_n 0) 1 10 := ⟨by decide +kernel, rfl⟩
theorem d_sib_10 : Own.D1 jdk_42_method_151_code 10 (.iload_n 2) 1 11 := ⟨by decide +kernel, rfl⟩
theorem d_sib_11 : Own.D1 jdk_42_method_151_code 11 (.putfield 15) 3 14 := ⟨by decide +kernel, rfl⟩
theorem d_sib_14 : Own.D1 jdk_42_method_151_code 14 .return_ 1 15 := ⟨by decide +kernel, rfl⟩
theorem np_sib : Own.npar "([BB)V" = some 2 := by decide +kernel
set_option maxRecDepth 65536 in
set_option maxHeartbeats 40000000 in
theorem c_sib {G : Own.Wd} {a0 : Array Value} (e : Ev G a0) {a t : Addr} {k : Int32} {v0 : Value} {c0 : Int32} {h : Heap} (hk : narrow .byte (.int k) = .int k ∧ fits .byte (.int k) = true) (E0 : Exa G.Z h a "java/lang/String") (Fv : Fld G.Z h a "java/lang/String" "value" "[B" v0) (Fc : Fld G.Z h a "java/lang/String" "coder" "B" (.int c0)) : Met G I_sib #[(.ref a), (.ref t), (.int k)] h [a] (Rv (fun h' S' => S' = [] ∧ Keep h h' [a] ∧ Exa G.Z h' a "java/lang/String" ∧ Fld G.Z h' a "java/lang/String" "value" "[B" (.ref t) ∧ Fld G.Z h' a "java/lang/String" "coder" "B" (.int k))) := by
  refine Met.intro (ls := #[.val (.ref a), .val (.ref t), .val (.int k)]) (plainFor_of_name pn_1) (fun m => by first | (simp [entryFrame, mkF, argsToLocals, Value.category, I_sib]; done) | (simp [entryFrame, mkF, argsToLocals, Value.category]; rfl) | rfl) ?_
  intro K
  have hne : Jvm.RoadKit.slotOf G.Z "java/lang/String" "coder" "B" ≠ Jvm.RoadKit.slotOf G.Z "java/lang/String" "value" "[B" := slot_ne (Or.inr (e.w 27 rfl)) (Or.inr (e.w 29 rfl)) (by decide) (t := .byte) (by decide) (t' := .array .byte) (by decide)
  refine Ru.aloadN d_sib_0 rfl rfl ?_
  refine Ru.initO d_sib_1 (e.w 11 rfl) (e.w 12 rfl) (e.w 13 rfl) rfl (Nat.le_of_ble_eq_true rfl) (Nat.le_of_ble_eq_true rfl) ?_
  refine Ru.aloadN d_sib_4 rfl rfl ?_
  refine Ru.aloadN d_sib_5 rfl rfl ?_
  refine Ru.putfield d_sib_6 (e.w 28 rfl) Via.refl (by simp) Fv E0 (Or.inr ⟨(e.w 29 rfl), rfl, rfl⟩) (e.w 1 rfl) (ty := (.array .byte)) (by decide) rfl rfl ?_
  intro h1 W1
  have E1 := E0.wr W1; have G1 := Fv.same W1; have G2 := Fc.other W1 (Or.inr hne)
  refine Ru.aloadN d_sib_9 rfl rfl ?_
  refine Ru.iloadN d_sib_10 rfl ?_
  refine Ru.putfield d_sib_11 (e.w 26 rfl) Via.refl (by simp) G2 E1 (Or.inr ⟨(e.w 27 rfl), rfl, rfl⟩) (e.w 1 rfl) (ty := .byte) (by decide) hk.1 hk.2 ?_
  intro h2 W2
  exact Ru.ret d_sib_14 rfl [] (fun _ q => nomatch q) (Nat.le_of_ble_eq_true rfl) (Nat.le_of_ble_eq_true rfl) ⟨rfl, rfl, ((Keep.of_wr W1).trans (Keep.of_wr W2) (by simp)), E1.wr W2, G1.other W2 (Or.inr hne.symm), G2.same W2⟩
abbrev I_vof : Own.Inf := (⟨"java/lang/String", "valueOf", "(C)Ljava/lang/String;"⟩, jdk_42_method_139_code, 1, (Option.some (Jvm.ClassFile.FieldType.object "java/lang/String")), { frames := 2, cells := 2, slots := 5, locals := 30 })
theorem d_vof_0 : Own.D1 jdk_42_method_139_code 0 (.getstatic 38) 3 3 := ⟨by decide +kernel, rfl⟩
theorem d_vof_3 : Own.DB jdk_42_method_139_code 3 (.ifCond .eq 23) 3 (23) 6 26 := ⟨by decide +kernel, rfl, by decide, rfl⟩
theorem d_vof_6 : Own.D1 jdk_42_method_139_code 6 (.iload_n 0) 1 7 := ⟨by decide +kernel, rfl⟩
theorem d_vof_7 : Own.D1 jdk_42_method_139_code 7 (.invokestatic 1015) 3 10 := ⟨by decide +kernel, rfl⟩
theorem d_vof_10 : Own.DB jdk_42_method_139_code 10 (.ifCond .eq 16) 3 (16) 13 26 := ⟨by decide +kernel, rfl, by decide, rfl⟩
theorem d_vof_13 : Own.D1 jdk_42_method_139_code 13 (.new 10) 3 16 := ⟨by decide +kernel, rfl⟩
theorem d_vof_16 : Own.D1 jdk_42_method_139_code 16 .dup 1 17 := ⟨by decide +kernel, rfl⟩
theorem d_vof_17 : Own.D1 jdk_42_method_139_code 17 (.iload_n 0) 1 18 := ⟨by decide +kernel, rfl⟩
theorem d_vof_18 : Own.D1 jdk_42_method_139_code 18 (.invokestatic 1018) 3 21 := ⟨by decide +kernel, rfl⟩
theorem d_vof_21 : Own.D1 jdk_42_method_139_code 21 (.iconst 0) 1 22 := ⟨by decide +kernel, rfl⟩
theorem d_vof_22 : Own.D1 jdk_42_method_139_code 22 (.invokespecial 209) 3 25 := ⟨by decide +kernel, rfl⟩
theorem d_vof_25 : Own.D1 jdk_42_method_139_code 25 .areturn 1 26 := ⟨by decide +kernel, rfl⟩
theorem d_vof_26 : Own.D1 jdk_42_method_139_code 26 (.new 10) 3 29 := ⟨by decide +kernel, rfl⟩
theorem d_vof_29 : Own.D1 jdk_42_method_139_code 29 .dup 1 30 := ⟨by decide +kernel, rfl⟩
theorem d_vof_30 : Own.D1 jdk_42_method_139_code 30 (.iload_n 0) 1 31 := ⟨by decide +kernel, rfl⟩
theorem d_vof_31 : Own.D1 jdk_42_method_139_code 31 (.invokestatic 1021) 3 34 := ⟨by decide +kernel, rfl⟩
theorem d_vof_34 : Own.D1 jdk_42_method_139_code 34 (.iconst 1) 1 35 := ⟨by decide +kernel, rfl⟩
theorem d_vof_35 : Own.D1 jdk_42_method_139_code 35 (.invokespecial 209) 3 38 := ⟨by decide +kernel, rfl⟩
theorem d_vof_38 : Own.D1 jdk_42_method_139_code 38 .areturn 1 39 := ⟨by decide +kernel, rfl⟩
theorem np_vof : Own.npar "(C)Ljava/lang/String;" = some 1 := by decide +kernel
set_option maxRecDepth 65536 in
set_option maxHeartbeats 40000000 in
theorem c_vof {G : Own.Wd} {a0 : Array Value} (e : Ev G a0) {c : Int32} {h : Heap} (hL : IsL c) : Met G I_vof #[(.int c)] h [] (Rt (fun x h' S' => ∃ a t, x = .ref a ∧ h.size ≤ a ∧ S' = [] ∧ Keep h h' [] ∧ StrL G.Z h' a t [c])) := by
  refine Met.intro (ls := #[.val (.int c)]) (plainFor_of_name pn_1) (fun m => by first | (simp [entryFrame, mkF, argsToLocals, Value.category, I_vof]; done) | (simp [entryFrame, mkF, argsToLocals, Value.category]; rfl) | rfl) ?_
  intro K
  obtain ⟨cz, hcz, hz⟩ := e.cz
  refine Ru.getstatic d_vof_0 (e.w 14 rfl) hcz ?_
  refine Ru.ifN d_vof_3 (show ¬ cz = (0 : Int32) from hz) ?_
  refine Ru.iloadN d_vof_6 rfl ?_
  refine Ru.callS0 (J := I_canenc) (c_canenc e hL) d_vof_7 (e.w 33 rfl) (e.w 34 rfl) (e.w 35 rfl) (e.w 36 rfl) (by decide) np_canenc rfl (argsL := [(.int c)]) (rest := []) rfl rfl (fun _ q => nomatch q) (Nat.le_of_ble_eq_true rfl) (Nat.le_of_ble_eq_true rfl) (Nat.le_of_ble_eq_true rfl) (Nat.le_of_ble_eq_true rfl) (WP.rt ?_)
  rintro _ _ S0 ⟨rfl, rfl, rfl⟩
  refine Ru.ifN d_vof_10 (show ¬ (1 : Int32) = (0 : Int32) from (by decide)) ?_
  refine Ru.new d_vof_13 (e.w 37 rfl) (e.w 1 rfl) (e.w 2 rfl) (Nat.le_of_ble_eq_true rfl) (Nat.le_of_ble_eq_true rfl) ?_
  intro h1 a ga E1 X1 D1
  refine Ru.dup d_vof_16 rfl ?_
  refine Ru.iloadN d_vof_17 rfl ?_
  refine Ru.callS0 (J := I_tob1) (c_tob1 e (c := c)) d_vof_18 (e.w 38 rfl) (e.w 39 rfl) (e.w 35 rfl) (e.w 40 rfl) (by decide) np_tob1 rfl (argsL := [(.int c)]) (rest := [(.ref a), (.ref a)]) rfl rfl (fun _ q => nomatch q) (Nat.le_of_ble_eq_true rfl) (Nat.le_of_ble_eq_true rfl) (Nat.le_of_ble_eq_true rfl) (Nat.le_of_ble_eq_true rfl) (WP.rt ?_)
  rintro _ h2 S2 ⟨t, rfl, gt, rfl, K2, T2⟩
  refine Ru.iconst (x := 0) d_vof_21 rfl ?_
  refine Ru.callI0 (J := I_sib) (c_sib e ⟨rfl, rfl⟩ (X1.keep K2) (Fld.keep (D1 (Or.inr (e.w 29 rfl)) (ty := .array .byte) (by decide)) K2 nin0) (Fld.keep (D1 (Or.inr (e.w 27 rfl)) (ty := .byte) (by decide)) K2 nin0)) d_vof_22 rfl rfl (e.w 41 rfl) (e.w 42 rfl) (e.w 2 rfl) (e.w 43 rfl) (by decide) np_sib rfl (a := a) (argsL := [(.ref t), (.int (0 : Int32))]) (rest := [(.ref a)]) rfl rfl (by simp) (Nat.le_of_ble_eq_true rfl) (Nat.le_of_ble_eq_true rfl) (Nat.le_of_ble_eq_true rfl) (Nat.le_of_ble_eq_true rfl) (WP.rv ?_)
  rintro h3 S3 ⟨rfl, K3, X3, F3, C3⟩
  have := xlt X1
  exact Ru.areturn (t := (.object "java/lang/String")) d_vof_25 rfl rfl rfl rfl [] (fun _ q => nomatch q) (Nat.le_of_ble_eq_true rfl) (Nat.le_of_ble_eq_true rfl) ⟨_, rfl, a, t, rfl, by omega, rfl, (((keepE E1).trans K2 (by simp)).trans K3 (by simp; omega)), X3, F3, C3, T2.keep K3 (ninS (nne (by omega)) nin0), by simpa using hL⟩
abbrev I_recinit : Own.Inf := (⟨"java/lang/Record", "<init>", "()V"⟩, jdk_30_method_1_code, 1, (Option.none : Option Jvm.ClassFile.FieldType), { frames := 1, cells := 0, slots := 0, locals := 12 })
theorem d_recinit_0 : Own.D1 jdk_30_method_1_code 0 (.aload_n 0) 1 1 := ⟨by decide +kernel, rfl⟩
theorem d_recinit_1 : Own.D1 jdk_30_method_1_code 1 (.invokespecial 1) 3 4 := ⟨by decide +kernel, rfl⟩
theorem d_recinit_4 : Own.D1 jdk_30_method_1_code 4 .return_ 1 5 := ⟨by decide +kernel, rfl⟩
theorem pn_3 : plainName "java/lang/Record" = true := by first | (simp [plainName, overriddenIn]; done) | decide +kernel
theorem np_recinit : Own.npar "()V" = some 0 := by decide +kernel
set_option maxRecDepth 65536 in
set_option maxHeartbeats 40000000 in
theorem c_recinit {G : Own.Wd} {a0 : Array Value} (e : Ev G a0) {a : Addr} {h : Heap}  : Met G I_recinit #[(.ref a)] h [] (Rv (fun h' S' => S' = [] ∧ h' = h)) := by
  refine Met.intro (ls := #[.val (.ref a)]) (plainFor_of_name pn_3) (fun m => by first | (simp [entryFrame, mkF, argsToLocals, Value.category, I_recinit]; done) | (simp [entryFrame, mkF, argsToLocals, Value.category]; rfl) | rfl) ?_
  intro K
  refine Ru.aloadN d_recinit_0 rfl rfl ?_
  refine Ru.initO d_recinit_1 (e.w 55 rfl) (e.w 12 rfl) (e.w 13 rfl) rfl (Nat.le_of_ble_eq_true rfl) (Nat.le_of_ble_eq_true rfl) ?_
  exact Ru.ret d_recinit_4 rfl [] (fun _ q => nomatch q) (Nat.le_of_ble_eq_true rfl) (Nat.le_of_ble_eq_true rfl) ⟨rfl, rfl, rfl⟩
abbrev I_scod : Own.Inf := (⟨"java/lang/String", "coder", "()B"⟩, jdk_42_method_152_code, 1, (Option.some Jvm.ClassFile.FieldType.byte), { frames := 0, cells := 0, slots := 0, locals := 0 })
theorem d_scod_0 : Own.D1 jdk_42_method_152_code 0 (.getstatic 38) 3 3 := ⟨by decide +kernel, rfl⟩
theorem d_scod_3 : Own.DB jdk_42_method_152_code 3 (.ifCond .eq 10) 3 (10) 6 13 := ⟨by decide +kernel, rfl, by decide, rfl⟩
theorem d_scod_6 : Own.D1 jdk_42_method_152_code 6 (.aload_n 0) 1 7 := ⟨by decide +kernel, rfl⟩
theorem d_scod_7 : Own.D1 jdk_42_method_152_code 7 (.getfield 15) 3 10 := ⟨by decide +kernel, rfl⟩
theorem d_scod_10 : Own.DB jdk_42_method_152_code 10 (.goto 4) 3 (4) 13 14 := ⟨by decide +kernel, rfl, by decide, rfl⟩
theorem d_scod_13 : Own.D1 jdk_42_method_152_code 13 (.iconst 1) 1 14 := ⟨by decide +kernel, rfl⟩
theorem d_scod_14 : Own.D1 jdk_42_method_152_code 14 .ireturn 1 15 := ⟨by decide +kernel, rfl⟩
theorem np_scod : Own.npar "()B" = some 0 := by decide +kernel
set_option maxRecDepth 65536 in
set_option maxHeartbeats 40000000 in
theorem c_scod {G : Own.Wd} {a0 : Array Value} (e : Ev G a0) {a t : Addr} {cs : List Int32} {h : Heap} (T : StrL G.Z h a t cs) : Met G I_scod #[(.ref a)] h [] (Rt (fun x h' S' => S' = [] ∧ h' = h ∧ x = .int 0)) := by
  refine Met.intro (ls := #[.val (.ref a)]) (plainFor_of_name pn_1) (fun m => by first | (simp [entryFrame, mkF, argsToLocals, Value.category, I_scod]; done) | (simp [entryFrame, mkF, argsToLocals, Value.category]; rfl) | rfl) ?_
  intro K
  obtain ⟨cz, hcz, hz⟩ := e.cz
  refine Ru.getstatic d_scod_0 (e.w 14 rfl) hcz ?_
  refine Ru.ifN d_scod_3 (show ¬ cz = (0 : Int32) from hz) ?_
  refine Ru.aloadN d_scod_6 rfl rfl ?_
  refine Ru.getfield d_scod_7 (e.w 26 rfl) Via.refl T.2.2.1 ?_
  refine Ru.goto d_scod_10 ?_
  exact Ru.ireturnN (t := .byte) (x' := (0 : Int32)) d_scod_14 rfl (by simp) rfl [] (fun _ q => nomatch q) (Nat.le_of_ble_eq_true rfl) (Nat.le_of_ble_eq_true rfl) ⟨_, rfl, rfl, rfl, rfl⟩
abbrev I_islt : Own.Inf := (⟨"java/lang/String", "isLatin1", "()Z"⟩, jdk_42_method_154_code, 1, (Option.some Jvm.ClassFile.FieldType.boolean), { frames := 0, cells := 0, slots := 0, locals := 0 })
theorem d_islt_0 : Own.D1 jdk_42_method_154_code 0 (.getstatic 38) 3 3 := ⟨by decide +kernel, rfl⟩
theorem d_islt_3 : Own.DB jdk_42_method_154_code 3 (.ifCond .eq 14) 3 (14) 6 17 := ⟨by decide +kernel, rfl, by decide, rfl⟩
theorem d_islt_6 : Own.D1 jdk_42_method_154_code 6 (.aload_n 0) 1 7 := ⟨by decide +kernel, rfl⟩
theorem d_islt_7 : Own.D1 jdk_42_method_154_code 7 (.getfield 15) 3 10 := ⟨by decide +kernel, rfl⟩
theorem d_islt_10 : Own.DB jdk_42_method_154_code 10 (.ifCond .ne 7) 3 (7) 13 17 := ⟨by decide +kernel, rfl, by decide, rfl⟩
theorem d_islt_13 : Own.D1 jdk_42_method_154_code 13 (.iconst 1) 1 14 := ⟨by decide +kernel, rfl⟩
theorem d_islt_14 : Own.DB jdk_42_method_154_code 14 (.goto 4) 3 (4) 17 18 := ⟨by decide +kernel, rfl, by decide, rfl⟩
theorem d_islt_17 : Own.D1 jdk_42_method_154_code 17 (.iconst 0) 1 18 := ⟨by decide +kernel, rfl⟩
theorem d_islt_18 : Own.D1 jdk_42_method_154_code 18 .ireturn 1 19 := ⟨by decide +kernel, rfl⟩
theorem np_islt : Own.npar "()Z" = some 0 := by decide +kernel
set_option maxRecDepth 65536 in
set_option maxHeartbeats 40000000 in
theorem c_islt {G : Own.Wd} {a0 : Array Value} (e : Ev G a0) {a t : Addr} {cs : List Int32} {h : Heap} (T : StrL G.Z h a t cs) : Met G I_islt #[(.ref a)] h [] (Rt (fun x h' S' => S' = [] ∧ h' = h ∧ x = .int 1)) := by
  refine Met.intro (ls := #[.val (.ref a)]) (plainFor_of_name pn_1) (fun m => by first | (simp [entryFrame, mkF, argsToLocals, Value.category, I_islt]; done) | (simp [entryFrame, mkF, argsToLocals, Value.category]; rfl) | rfl) ?_
  intro K
  obtain ⟨cz, hcz, hz⟩ := e.cz
  refine Ru.getstatic d_islt_0 (e.w 14 rfl) hcz ?_
  refine Ru.ifN d_islt_3 (show ¬ cz = (0 : Int32) from hz) ?_
  refine Ru.aloadN d_islt_6 rfl rfl ?_
  refine Ru.getfield d_islt_7 (e.w 26 rfl) Via.refl T.2.2.1 ?_
  refine Ru.ifN d_islt_10 (show (0 : Int32) = (0 : Int32) from rfl) ?_
  refine Ru.iconst (x := 1) d_islt_13 rfl ?_
  refine Ru.goto d_islt_14 ?_
  exact Ru.ireturnN (t := .boolean) (x' := (1 : Int32)) d_islt_18 rfl (by simp) rfl [] (fun _ q => nomatch q) (Nat.le_of_ble_eq_true rfl) (Nat.le_of_ble_eq_true rfl) ⟨_, rfl, rfl, rfl, rfl⟩
abbrev I_slen : Own.Inf := (⟨"java/lang/String", "length", "()I"⟩, jdk_42_method_54_code, 1, (Option.some Jvm.ClassFile.FieldType.int), { frames := 1, cells := 0, slots := 0, locals := 13 })
theorem d_slen_0 : Own.D1 jdk_42_method_54_code 0 (.aload_n 0) 1 1 := ⟨by decide +kernel, rfl⟩
theorem d_slen_1 : Own.D1 jdk_42_method_54_code 1 (.getfield 9) 3 4 := ⟨by decide +kernel, rfl⟩
theorem d_slen_4 : Own.D1 jdk_42_method_54_code 4 .arraylength 1 5 := ⟨by decide +kernel, rfl⟩
theorem d_slen_5 : Own.D1 jdk_42_method_54_code 5 (.aload_n 0) 1 6 := ⟨by decide +kernel, rfl⟩
theorem d_slen_6 : Own.D1 jdk_42_method_54_code 6 (.invokevirtual 335) 3 9 := ⟨by decide +kernel, rfl⟩
theorem d_slen_9 : Own.D1 jdk_42_method_54_code 9 .ishr 1 10 := ⟨by decide +kernel, rfl⟩
theorem d_slen_10 : Own.D1 jdk_42_method_54_code 10 .ireturn 1 11 := ⟨by decide +kernel, rfl⟩
theorem np_slen : Own.npar "()I" = some 0 := by decide +kernel
set_option maxRecDepth 65536 in
set_option maxHeartbeats 40000000 in
theorem c_slen {G : Own.Wd} {a0 : Array Value} (e : Ev G a0) {a t : Addr} {cs : List Int32} {h : Heap} (T : StrL G.Z h a t cs) : Met G I_slen #[(.ref a)] h [] (Rt (fun x h' S' => S' = [] ∧ h' = h ∧ x = .int (n32 cs.length))) := by
  refine Met.intro (ls := #[.val (.ref a)]) (plainFor_of_name pn_1) (fun m => by first | (simp [entryFrame, mkF, argsToLocals, Value.category, I_slen]; done) | (simp [entryFrame, mkF, argsToLocals, Value.category]; rfl) | rfl) ?_
  intro K
  refine Ru.aloadN d_slen_0 rfl rfl ?_
  refine Ru.getfield d_slen_1 (e.w 28 rfl) Via.refl T.2.1 ?_
  refine Ru.arraylength (n := (n32 cs.length)) d_slen_4 T.2.2.2.1 (by simp [n32]) ?_
  refine Ru.aloadN d_slen_5 rfl rfl ?_
  refine Ru.callV0 (J := I_scod) (c_scod e T) d_slen_6 T.1 (e.w 87 rfl) (e.w 88 rfl) (nf_sel (e.w 90 rfl)) (e.w 90 rfl) (e.w 89 rfl) (e.w 2 rfl) (e.w 91 rfl) (by decide) np_scod rfl (a := a) (argsL := []) (rest := [(.int (n32 cs.length))]) rfl rfl (fun _ q => nomatch q) (Nat.le_of_ble_eq_true rfl) (Nat.le_of_ble_eq_true rfl) (Nat.le_of_ble_eq_true rfl) (Nat.le_of_ble_eq_true rfl) (WP.rt ?_)
  rintro _ _ S1 ⟨rfl, rfl, rfl⟩
  refine Ru.ishr d_slen_9 ?_
  refine WP.topI (show ((n32 cs.length) >>> ((0 : Int32) &&& 31)) = (n32 cs.length) from (shr0 _)) ?_
  exact Ru.ireturn d_slen_10 rfl [] (fun _ q => nomatch q) (Nat.le_of_ble_eq_true rfl) (Nat.le_of_ble_eq_true rfl) ⟨_, rfl, rfl, rfl, rfl⟩
abbrev I_pchk : Own.Inf := (⟨"jdk/internal/util/Preconditions", "checkIndex", "(IILjava/util/function/BiFunction;)I"⟩, jdk_41_method_11_code, 3, (Option.some Jvm.ClassFile.FieldType.int), { frames := 0, cells := 0, slots := 0, locals := 0 })
theorem d_pchk_0 : Own.D1 jdk_41_method_11_code 0 (.iload_n 0) 1 1 := ⟨by decide +kernel, rfl⟩
theorem d_pchk_1 : Own.DB jdk_41_method_11_code 1 (.ifCond .lt 8) 3 (8) 4 9 := ⟨by decide +kernel, rfl, by decide, rfl⟩
theorem d_pchk_4 : Own.D1 jdk_41_method_11_code 4 (.iload_n 0) 1 5 := ⟨by decide +kernel, rfl⟩
theorem d_pchk_5 : Own.D1 jdk_41_method_11_code 5 (.iload_n 1) 1 6 := ⟨by decide +kernel, rfl⟩
theorem d_pchk_6 : Own.DB jdk_41_method_11_code 6 (.if_icmp .lt 10) 3 (10) 9 16 := ⟨by decide +kernel, rfl, by decide, rfl⟩
theorem d_pchk_9 : Own.D1 jdk_41_method_11_code 9 (.aload_n 2) 1 10 := ⟨by decide +kernel, rfl⟩
theorem d_pchk_10 : Own.D1 jdk_41_method_11_code 10 (.iload_n 0) 1 11 := ⟨by decide +kernel, rfl⟩
theorem d_pchk_11 : Own.D1 jdk_41_method_11_code 11 (.iload_n 1) 1 12 := ⟨by decide +kernel, rfl⟩
theorem d_pchk_12 : Own.D1 jdk_41_method_11_code 12 (.invokestatic 95) 3 15 := ⟨by decide +kernel, rfl⟩
theorem d_pchk_15 : Own.D1 jdk_41_method_11_code 15 .athrow 1 16 := ⟨by decide +kernel, rfl⟩
theorem d_pchk_16 : Own.D1 jdk_41_method_11_code 16 (.iload_n 0) 1 17 := ⟨by decide +kernel, rfl⟩
theorem d_pchk_17 : Own.D1 jdk_41_method_11_code 17 .ireturn 1 18 := ⟨by decide +kernel, rfl⟩
theorem pn_4 : plainName "jdk/internal/util/Preconditions" = true := by first | (simp [plainName, overriddenIn]; done) | decide +kernel
theorem np_pchk : Own.npar "(IILjava/util/function/BiFunction;)I" = some 3 := by decide +kernel
set_option maxRecDepth 65536 in
set_option maxHeartbeats 40000000 in
theorem c_pchk {G : Own.Wd} {a0 : Array Value} (e : Ev G a0) {i n : Nat} {v : Value} {h : Heap} (hv : v.isRef = true) (hi : i < n) (hn : n < 2147483648) : Met G I_pchk #[(.int (n32 i)), (.int (n32 n)), v] h [] (Rt (fun x h' S' => S' = [] ∧ h' = h ∧ x = .int (n32 i))) := by
  refine Met.intro (ls := #[.val (.int (n32 i)), .val (.int (n32 n)), .val v]) (plainFor_of_name pn_4) (fun m => by rcases Jvm.Free.XT.refc hv with rfl | ⟨_, rfl⟩ <;> first | (simp [entryFrame, mkF, argsToLocals, Value.category, I_pchk]; done) | (simp [entryFrame, mkF, argsToLocals, Value.category]; rfl) | rfl) ?_
  intro K
  refine Ru.iloadN d_pchk_0 rfl ?_
  refine Ru.ifN d_pchk_1 (show ¬ (n32 i) < (0 : Int32) from (n32_nn (by omega))) ?_
  refine Ru.iloadN d_pchk_4 rfl ?_
  refine Ru.iloadN d_pchk_5 rfl ?_
  refine Ru.icmpY d_pchk_6 (show (n32 i) < (n32 n) from ((n32_lt (by omega) (by omega)).mpr hi)) ?_
  refine Ru.iloadN d_pchk_16 rfl ?_
  exact Ru.ireturn d_pchk_17 rfl [] (fun _ q => nomatch q) (Nat.le_of_ble_eq_true rfl) (Nat.le_of_ble_eq_true rfl) ⟨_, rfl, rfl, rfl, rfl⟩
abbrev I_schk : Own.Inf := (⟨"java/lang/String", "checkIndex", "(II)V"⟩, jdk_42_method_155_code, 2, (Option.none : Option Jvm.ClassFile.FieldType), { frames := 1, cells := 0, slots := 0, locals := 14 })
theorem d_schk_0 : Own.D1 jdk_42_method_155_code 0 (.iload_n 0) 1 1 := ⟨by decide +kernel, rfl⟩
theorem d_schk_1 : Own.D1 jdk_42_method_155_code 1 (.iload_n 1) 1 2 := ⟨by decide +kernel, rfl⟩
theorem d_schk_2 : Own.D1 jdk_42_method_155_code 2 (.getstatic 1053) 3 5 := ⟨by decide +kernel, rfl⟩
theorem d_schk_5 : Own.D1 jdk_42_method_155_code 5 (.invokestatic 1059) 3 8 := ⟨by decide +kernel, rfl⟩
theorem d_schk_8 : Own.D1 jdk_42_method_155_code 8 .pop 1 9 := ⟨by decide +kernel, rfl⟩
theorem d_schk_9 : Own.D1 jdk_42_method_155_code 9 .return_ 1 10 := ⟨by decide +kernel, rfl⟩
theorem np_schk : Own.npar "(II)V" = some 2 := by decide +kernel
set_option maxRecDepth 65536 in
set_option maxHeartbeats 40000000 in
theorem c_schk {G : Own.Wd} {a0 : Array Value} (e : Ev G a0) {i n : Nat} {h : Heap} (hi : i < n) (hn : n < 2147483648) : Met G I_schk #[(.int (n32 i)), (.int (n32 n))] h [] (Rv (fun h' S' => S' = [] ∧ h' = h)) := by
  refine Met.intro (ls := #[.val (.int (n32 i)), .val (.int (n32 n))]) (plainFor_of_name pn_1) (fun m => by first | (simp [entryFrame, mkF, argsToLocals, Value.category, I_schk]; done) | (simp [entryFrame, mkF, argsToLocals, Value.category]; rfl) | rfl) ?_
  intro K
  obtain ⟨v, hv, sv⟩ := e.fm
  refine Ru.iloadN d_schk_0 rfl ?_
  refine Ru.iloadN d_schk_1 rfl ?_
  refine Ru.getstatic d_schk_2 (e.w 118 rfl) sv ?_
  refine Ru.callS0 (J := I_pchk) (c_pchk e hv hi hn) d_schk_5 (e.w 120 rfl) (e.w 121 rfl) (e.w 119 rfl) (e.w 122 rfl) (by decide) np_pchk rfl (argsL := [(.int (n32 i)), (.int (n32 n)), v]) (rest := []) rfl rfl (fun _ q => nomatch q) (Nat.le_of_ble_eq_true rfl) (Nat.le_of_ble_eq_true rfl) (Nat.le_of_ble_eq_true rfl) (Nat.le_of_ble_eq_true rfl) (WP.rt ?_)
  rintro _ _ S1 ⟨rfl, rfl, rfl⟩
  refine Ru.pop d_schk_8 rfl ?_
  exact Ru.ret d_schk_9 rfl [] (fun _ q => nomatch q) (Nat.le_of_ble_eq_true rfl) (Nat.le_of_ble_eq_true rfl) ⟨rfl, rfl, rfl⟩
abbrev I_lchr : Own.Inf := (⟨"java/lang/StringLatin1", "charAt", "([BI)C"⟩, jdk_43_method_2_code, 2, (Option.some Jvm.ClassFile.FieldType.char), { frames := 2, cells := 0, slots := 0, locals := 27 })
theorem d_lchr_0 : Own.D1 jdk_43_method_2_code 0 (.iload_n 1) 1 1 := ⟨by decide +kernel, rfl⟩
theorem d_lchr_1 : Own.D1 jdk_43_method_2_code 1 (.aload_n 0) 1 2 := ⟨by decide +kernel, rfl⟩
theorem d_lchr_2 : Own.D1 jdk_43_method_2_code 2 .arraylength 1 3 := ⟨by decide +kernel, rfl⟩
theorem d_lchr_3 : Own.D1 jdk_43_method_2_code 3 (.invokestatic 9) 3 6 := ⟨by decide +kernel, rfl⟩
theorem d_lchr_6 : Own.D1 jdk_43_method_2_code 6 (.aload_n 0) 1 7 := ⟨by decide +kernel, rfl⟩
theorem d_lchr_7 : Own.D1 jdk_43_method_2_code 7 (.iload_n 1) 1 8 := ⟨by decide +kernel, rfl⟩
theorem d_lchr_8 : Own.D1 jdk_43_method_2_code 8 .baload 1 9 := ⟨by decide +kernel, rfl⟩
theorem d_lchr_9 : Own.D1 jdk_43_method_2_code 9 (.sipush 255) 3 12 := ⟨by decide +kernel, rfl⟩
theorem d_lchr_12 : Own.D1 jdk_43_method_2_code 12 .iand 1 13 := ⟨by decide +kernel, rfl⟩
theorem d_lchr_13 : Own.D1 jdk_43_method_2_code 13 .i2c 1 14 := ⟨by decide +kernel, rfl⟩
theorem d_lchr_14 : Own.D1 jdk_43_method_2_code 14 .ireturn 1 15 := ⟨by decide +kernel, rfl⟩
theorem np_lchr : Own.npar "([BI)C" = some 2 := by decide +kernel
set_option maxRecDepth 65536 in
set_option maxHeartbeats 40000000 in
theorem c_lchr {G : Own.Wd} {a0 : Array Value} (e : Ev G a0) {t : Addr} {cs : List Int32} {i : Nat} {c : Int32} {h : Heap} (hA : Ary G.Z h t .byte (cs.map lat)) (hL : ∀ c ∈ cs, IsL c) (hc : cs[i]? = some c) : Met G I_lchr #[(.ref t), (.int (n32 i))] h [] (Rt (fun x h' S' => S' = [] ∧ h' = h ∧ x = .int c)) := by
  refine Met.intro (ls := #[.val (.ref t), .val (.int (n32 i))]) (plainFor_of_name pn_2) (fun m => by first | (simp [entryFrame, mkF, argsToLocals, Value.category, I_lchr]; done) | (simp [entryFrame, mkF, argsToLocals, Value.category]; rfl) | rfl) ?_
  intro K
  have hcs : cs.length < 2147483648 := by obtain ⟨c, -, e1, e2, -⟩ := hA; simpa using e2
  have hi : i < cs.length := (List.getElem?_eq_some_iff.mp hc).1; have hLc := hL c (List.mem_of_getElem? hc)
  refine Ru.iloadN d_lchr_0 rfl ?_
  refine Ru.aloadN d_lchr_1 rfl rfl ?_
  refine Ru.arraylength (n := (n32 cs.length)) d_lchr_2 hA (by simp [n32]) ?_
  refine Ru.callS0 (J := I_schk) (c_schk e hi hcs) d_lchr_3 (e.w 115 rfl) (e.w 116 rfl) (e.w 2 rfl) (e.w 117 rfl) (by decide) np_schk rfl (argsL := [(.int (n32 i)), (.int (n32 cs.length))]) (rest := []) rfl rfl (fun _ q => nomatch q) (Nat.le_of_ble_eq_true rfl) (Nat.le_of_ble_eq_true rfl) (Nat.le_of_ble_eq_true rfl) (Nat.le_of_ble_eq_true rfl) (WP.rv ?_)
  rintro _ S1 ⟨rfl, rfl⟩
  refine Ru.aloadN d_lchr_6 rfl rfl ?_
  refine Ru.iloadN d_lchr_7 rfl ?_
  refine Ru.baload (v := (.int c.toInt8.toInt32)) d_lchr_8 hA (n32_nn (by omega)) (by rw [n32_cl (by omega)]; simp [hc, lat]) ?_
  refine Ru.sipush (x := 255) d_lchr_9 rfl ?_
  refine Ru.iand d_lchr_12 ?_
  refine Ru.i2c d_lchr_13 ?_
  exact Ru.ireturnN (t := .char) d_lchr_14 rfl (by simp) (by rw [lat_mask hLc, i2c_id hLc.c, nar_c hLc.c]) [] (fun _ q => nomatch q) (Nat.le_of_ble_eq_true rfl) (Nat.le_of_ble_eq_true rfl) ⟨_, rfl, rfl, rfl, rfl⟩
abbrev I_schr : Own.Inf := (⟨"java/lang/String", "charAt", "(I)C"⟩, jdk_42_method_56_code, 2, (Option.some Jvm.ClassFile.FieldType.char), { frames := 3, cells := 0, slots := 0, locals := 40 })
theorem d_schr_0 : Own.D1 jdk_42_method_56_code 0 (.aload_n 0) 1 1 := ⟨by decide +kernel, rfl⟩
theorem d_schr_1 : Own.D1 jdk_42_method_56_code 1 (.invokevirtual 492) 3 4 := ⟨by decide +kernel, rfl⟩
theorem d_schr_4 : Own.DB jdk_42_method_56_code 4 (.ifCond .eq 12) 3 (12) 7 16 := ⟨by decide +kernel, rfl, by decide, rfl⟩
theorem d_schr_7 : Own.D1 jdk_42_method_56_code 7 (.aload_n 0) 1 8 := ⟨by decide +kernel, rfl⟩
theorem d_schr_8 : Own.D1 jdk_42_method_56_code 8 (.getfield 9) 3 11 := ⟨by decide +kernel, rfl⟩
theorem d_schr_11 : Own.D1 jdk_42_method_56_code 11 (.iload_n 1) 1 12 := ⟨by decide +kernel, rfl⟩
theorem d_schr_12 : Own.D1 jdk_42_method_56_code 12 (.invokestatic 495) 3 15 := ⟨by decide +kernel, rfl⟩
theorem d_schr_15 : Own.D1 jdk_42_method_56_code 15 .ireturn 1 16 := ⟨by decide +kernel, rfl⟩
theorem d_schr_16 : Own.D1 jdk_42_method_56_code 16 (.aload_n 0) 1 17 := ⟨by decide +kernel, rfl⟩
theorem d_schr_17 : Own.D1 jdk_42_method_56_code 17 (.getfield 9) 3 20 := ⟨by decide +kernel, rfl⟩
theorem d_schr_20 : Own.D1 jdk_42_method_56_code 20 (.iload_n 1) 1 21 := ⟨by decide +kernel, rfl⟩
theorem d_schr_21 : Own.D1 jdk_42_method_56_code 21 (.invokestatic 498) 3 24 := ⟨by decide +kernel, rfl⟩
theorem d_schr_24 : Own.D1 jdk_42_method_56_code 24 .ireturn 1 25 := ⟨by decide +kernel, rfl⟩
theorem np_schr : Own.npar "(I)C" = some 1 := by decide +kernel
set_option maxRecDepth 65536 in
set_option maxHeartbeats 40000000 in
theorem c_schr {G : Own.Wd} {a0 : Array Value} (e : Ev G a0) {a t : Addr} {cs : List Int32} {i : Nat} {c : Int32} {h : Heap} (T : StrL G.Z h a t cs) (hc : cs[i]? = some c) : Met G I_schr #[(.ref a), (.int (n32 i))] h [] (Rt (fun x h' S' => S' = [] ∧ h' = h ∧ x = .int c)) := by
  refine Met.intro (ls := #[.val (.ref a), .val (.int (n32 i))]) (plainFor_of_name pn_1) (fun m => by first | (simp [entryFrame, mkF, argsToLocals, Value.category, I_schr]; done) | (simp [entryFrame, mkF, argsToLocals, Value.category]; rfl) | rfl) ?_
  intro K
  have hLc := T.2.2.2.2 c (List.mem_of_getElem? hc)
  refine Ru.aloadN d_schr_0 rfl rfl ?_
  refine Ru.callV0 (J := I_islt) (c_islt e T) d_schr_1 T.1 (e.w 107 rfl) (e.w 108 rfl) (nf_sel (e.w 110 rfl)) (e.w 110 rfl) (e.w 109 rfl) (e.w 2 rfl) (e.w 111 rfl) (by decide) np_islt rfl (a := a) (argsL := []) (rest := []) rfl rfl (fun _ q => nomatch q) (Nat.le_of_ble_eq_true rfl) (Nat.le_of_ble_eq_true rfl) (Nat.le_of_ble_eq_true rfl) (Nat.le_of_ble_eq_true rfl) (WP.rt ?_)
  rintro _ h S1 ⟨rfl, rfl, rfl⟩
  refine Ru.ifN d_schr_4 (show ¬ (1 : Int32) = (0 : Int32) from (by decide)) ?_
  refine Ru.aloadN d_schr_7 rfl rfl ?_
  refine Ru.getfield d_schr_8 (e.w 28 rfl) Via.refl T.2.1 ?_
  refine Ru.iloadN d_schr_11 rfl ?_
  refine Ru.callS0 (J := I_lchr) (c_lchr e T.2.2.2.1 T.2.2.2.2 hc) d_schr_12 (e.w 112 rfl) (e.w 113 rfl) (e.w 35 rfl) (e.w 114 rfl) (by decide) np_lchr rfl (argsL := [(.ref t), (.int (n32 i))]) (rest := []) rfl rfl (fun _ q => nomatch q) (Nat.le_of_ble_eq_true rfl) (Nat.le_of_ble_eq_true rfl) (Nat.le_of_ble_eq_true rfl) (Nat.le_of_ble_eq_true rfl) (WP.rt ?_)
  rintro _ _ S2 ⟨rfl, rfl, rfl⟩
  exact Ru.ireturnN (t := .char) d_schr_15 rfl (by simp) (nar_c hLc.c) [] (fun _ q => nomatch q) (Nat.le_of_ble_eq_true rfl) (Nat.le_of_ble_eq_true rfl) ⟨_, rfl, rfl, rfl, rfl⟩
theorem z00 : ((0 : Int32) + (0 : Int32)).toNatClampNeg = 0 := by decide
abbrev I_mism : Own.Inf := (⟨"jdk/internal/util/ArraysSupport", "mismatch", "([BI[BII)I"⟩, jdk_48_method_14_code, 8, (Option.some Jvm.ClassFile.FieldType.int), { frames := 0, cells := 0, slots := 0, locals := 0 })
theorem d_mism_0 : Own.D1 jdk_48_method_14_code 0 (.iconst 0) 1 1 := ⟨by decide +kernel, rfl⟩
theorem d_mism_1 : Own.D1 jdk_48_method_14_code 1 (.istore 5) 2 3 := ⟨by decide +kernel, rfl⟩
theorem d_mism_3 : Own.D1 jdk_48_method_14_code 3 (.iload 4) 2 5 := ⟨by decide +kernel, rfl⟩
theorem d_mism_5 : Own.D1 jdk_48_method_14_code 5 (.bipush 7) 2 7 := ⟨by decide +kernel, rfl⟩
theorem d_mism_7 : Own.DB jdk_48_method_14_code 7 (.if_icmp .le 63) 3 (63) 10 70 := ⟨by decide +kernel, rfl, by decide, rfl⟩
theorem d_mism_10 : Own.D1 jdk_48_method_14_code 10 (.aload_n 0) 1 11 := ⟨by decide +kernel, rfl⟩
theorem d_mism_11 : Own.D1 jdk_48_method_14_code 11 (.iload_n 1) 1 12 := ⟨by decide +kernel, rfl⟩
theorem d_mism_12 : Own.D1 jdk_48_method_14_code 12 .baload 1 13 := ⟨by decide +kernel, rfl⟩
theorem d_mism_13 : Own.D1 jdk_48_method_14_code 13 (.aload_n 2) 1 14 := ⟨by decide +kernel, rfl⟩
theorem d_mism_14 : Own.D1 jdk_48_method_14_code 14 (.iload_n 3) 1 15 := ⟨by decide +kernel, rfl⟩
theorem d_mism_15 : Own.D1 jdk_48_method_14_code 15 .baload 1 16 := ⟨by decide +kernel, rfl⟩
theorem d_mism_16 : Own.DB jdk_48_method_14_code 16 (.if_icmp .eq 5) 3 (5) 19 21 := ⟨by decide +kernel, rfl, by decide, rfl⟩
theorem d_mism_19 : Own.D1 jdk_48_method_14_code 19 (.iconst 0) 1 20 := ⟨by decide +kernel, rfl⟩
theorem d_mism_20 : Own.D1 jdk_48_method_14_code 20 .ireturn 1 21 := ⟨by decide +kernel, rfl⟩
theorem d_mism_21 : Own.D1 jdk_48_method_14_code 21 (.getstatic 126) 3 24 := ⟨by decide +kernel, rfl⟩
theorem d_mism_24 : Own.D1 jdk_48_method_14_code 24 (.iload_n 1) 1 25 := ⟨by decide +kernel, rfl⟩
theorem d_mism_25 : Own.D1 jdk_48_method_14_code 25 .iadd 1 26 := ⟨by decide +kernel, rfl⟩
theorem d_mism_26 : Own.D1 jdk_48_method_14_code 26 (.istore 6) 2 28 := ⟨by decide +kernel, rfl⟩
theorem d_mism_28 : Own.D1 jdk_48_method_14_code 28 (.getstatic 126) 3 31 := ⟨by decide +kernel, rfl⟩
theorem d_mism_31 : Own.D1 jdk_48_method_14_code 31 (.iload_n 3) 1 32 := ⟨by decide +kernel, rfl⟩
theorem d_mism_32 : Own.D1 jdk_48_method_14_code 32 .iadd 1 33 := ⟨by decide +kernel, rfl⟩
theorem d_mism_33 : Own.D1 jdk_48_method_14_code 33 (.istore 7) 2 35 := ⟨by decide +kernel, rfl⟩
theorem d_mism_35 : Own.D1 jdk_48_method_14_code 35 (.aload_n 0) 1 36 := ⟨by decide +kernel, rfl⟩
theorem d_mism_36 : Own.D1 jdk_48_method_14_code 36 (.iload 6) 2 38 := ⟨by decide +kernel, rfl⟩
theorem d_mism_38 : Own.D1 jdk_48_method_14_code 38 .i2l 1 39 := ⟨by decide +kernel, rfl⟩
theorem d_mism_39 : Own.D1 jdk_48_method_14_code 39 (.aload_n 2) 1 40 := ⟨by decide +kernel, rfl⟩
theorem d_mism_40 : Own.D1 jdk_48_method_14_code 40 (.iload 7) 2 42 := ⟨by decide +kernel, rfl⟩
theorem d_mism_42 : Own.D1 jdk_48_method_14_code 42 .i2l 1 43 := ⟨by decide +kernel, rfl⟩
theorem d_mism_43 : Own.D1 jdk_48_method_14_code 43 (.iload 4) 2 45 := ⟨by decide +kernel, rfl⟩
theorem d_mism_45 : Own.D1 jdk_48_method_14_code 45 (.getstatic 129) 3 48 := ⟨by decide +kernel, rfl⟩
theorem d_mism_48 : Own.D1 jdk_48_method_14_code 48 (.invokestatic 122) 3 51 := ⟨by decide +kernel, rfl⟩
theorem d_mism_51 : Own.D1 jdk_48_method_14_code 51 (.istore 5) 2 53 := ⟨by decide +kernel, rfl⟩
theorem d_mism_53 : Own.D1 jdk_48_method_14_code 53 (.iload 5) 2 55 := ⟨by decide +kernel, rfl⟩
theorem d_mism_55 : Own.DB jdk_48_method_14_code 55 (.ifCond .lt 6) 3 (6) 58 61 := ⟨by decide +kernel, rfl, by decide, rfl⟩
theorem d_mism_58 : Own.D1 jdk_48_method_14_code 58 (.iload 5) 2 60 := ⟨by decide +kernel, rfl⟩
theorem d_mism_60 : Own.D1 jdk_48_method_14_code 60 .ireturn 1 61 := ⟨by decide +kernel, rfl⟩
theorem d_mism_61 : Own.D1 jdk_48_method_14_code 61 (.iload 4) 2 63 := ⟨by decide +kernel, rfl⟩
theorem d_mism_63 : Own.D1 jdk_48_method_14_code 63 (.iload 5) 2 65 := ⟨by decide +kernel, rfl⟩
theorem d_mism_65 : Own.D1 jdk_48_method_14_code 65 (.iconst (-1)) 1 66 := ⟨by decide +kernel, rfl⟩
theorem d_mism_66 : Own.D1 jdk_48_method_14_code 66 .ixor 1 67 := ⟨by decide +kernel, rfl⟩
theorem d_mism_67 : Own.D1 jdk_48_method_14_code 67 .isub 1 68 := ⟨by decide +kernel, rfl⟩
theorem d_mism_68 : Own.D1 jdk_48_method_14_code 68 (.istore 5) 2 70 := ⟨by decide +kernel, rfl⟩
theorem d_mism_70 : Own.D1 jdk_48_method_14_code 70 (.iload 5) 2 72 := ⟨by decide +kernel, rfl⟩
theorem d_mism_72 : Own.D1 jdk_48_method_14_code 72 (.iload 4) 2 74 := ⟨by decide +kernel, rfl⟩
theorem d_mism_74 : Own.DB jdk_48_method_14_code 74 (.if_icmp .ge 27) 3 (27) 77 101 := ⟨by decide +kernel, rfl, by decide, rfl⟩
theorem d_mism_77 : Own.D1 jdk_48_method_14_code 77 (.aload_n 0) 1 78 := ⟨by decide +kernel, rfl⟩
theorem d_mism_78 : Own.D1 jdk_48_method_14_code 78 (.iload_n 1) 1 79 := ⟨by decide +kernel, rfl⟩
theorem d_mism_79 : Own.D1 jdk_48_method_14_code 79 (.iload 5) 2 81 := ⟨by decide +kernel, rfl⟩
theorem d_mism_81 : Own.D1 jdk_48_method_14_code 81 .iadd 1 82 := ⟨by decide +kernel, rfl⟩
theorem d_mism_82 : Own.D1 jdk_48_method_14_code 82 .baload 1 83 := ⟨by decide +kernel, rfl⟩
theorem d_mism_83 : Own.D1 jdk_48_method_14_code 83 (.aload_n 2) 1 84 := ⟨by decide +kernel, rfl⟩
theorem d_mism_84 : Own.D1 jdk_48_method_14_code 84 (.iload_n 3) 1 85 := ⟨by decide +kernel, rfl⟩
theorem d_mism_85 : Own.D1 jdk_48_method_14_code 85 (.iload 5) 2 87 := ⟨by decide +kernel, rfl⟩
theorem d_mism_87 : Own.D1 jdk_48_method_14_code 87 .iadd 1 88 := ⟨by decide +kernel, rfl⟩
theorem d_mism_88 : Own.D1 jdk_48_method_14_code 88 .baload 1 89 := ⟨by decide +kernel, rfl⟩
theorem d_mism_89 : Own.DB jdk_48_method_14_code 89 (.if_icmp .eq 6) 3 (6) 92 95 := ⟨by decide +kernel, rfl, by decide, rfl⟩
theorem d_mism_92 : Own.D1 jdk_48_method_14_code 92 (.iload 5) 2 94 := ⟨by decide +kernel, rfl⟩
theorem d_mism_94 : Own.D1 jdk_48_method_14_code 94 .ireturn 1 95 := ⟨by decide +kernel, rfl⟩
theorem d_mism_95 : Own.D1 jdk_48_method_14_code 95 (.iinc 5 1) 3 98 := ⟨by decide +kernel, rfl⟩
theorem d_mism_98 : Own.DB jdk_48_method_14_code 98 (.goto (-28)) 3 (-28) 101 70 := ⟨by decide +kernel, rfl, by decide, rfl⟩
theorem d_mism_101 : Own.D1 jdk_48_method_14_code 101 (.iconst (-1)) 1 102 := ⟨by decide +kernel, rfl⟩
theorem d_mism_102 : Own.D1 jdk_48_method_14_code 102 .ireturn 1 103 := ⟨by decide +kernel, rfl⟩
theorem pn_5 : plainName "jdk/internal/util/ArraysSupport" = true := by first | (simp [plainName, overriddenIn]; done) | decide +kernel
theorem np_mism : Own.npar "([BI[BII)I" = some 5 := by decide +kernel
set_option maxRecDepth 65536 in
set_option maxHeartbeats 40000000 in
theorem c_mism {G : Own.Wd} {a0 : Array Value} (e : Ev G a0) {t u : Addr} {vs ws : List Value} {x0 : Int32} {h : Heap} (hA : Ary G.Z h t .byte vs) (hB : Ary G.Z h u .byte ws) (ha : vs[0]? = some (.int x0)) (hb : ws[0]? = some (.int x0)) : Met G I_mism #[(.ref t), (.int (0 : Int32)), (.ref u), (.int (0 : Int32)), (.int (1 : Int32))] h [] (Rt (fun x h' S' => S' = [] ∧ h' = h ∧ x = .int (-1))) := by
  refine Met.intro (ls := #[.val (.ref t), .val (.int (0 : Int32)), .val (.ref u), .val (.int (0 : Int32)), .val (.int (1 : Int32)), .unset, .unset, .unset]) (plainFor_of_name pn_5) (fun m => by first | (simp [entryFrame, mkF, argsToLocals, Value.category, I_mism]; done) | (simp [entryFrame, mkF, argsToLocals, Value.category]; rfl) | rfl) ?_
  intro K
  refine Ru.iconst (x := 0) d_mism_0 rfl ?_
  refine Ru.istore d_mism_1 (ls' := #[.val (.ref t), .val (.int (0 : Int32)), .val (.ref u), .val (.int (0 : Int32)), .val (.int (1 : Int32)), .val (.int (0 : Int32)), .unset, .unset]) rfl ?_
  refine Ru.iload d_mism_3 rfl ?_
  refine Ru.bipush (x := 7) d_mism_5 rfl ?_
  refine Ru.icmpY d_mism_7 (show ¬ (7 : Int32) < (1 : Int32) from (by decide)) ?_
  refine Ru.iload d_mism_70 rfl ?_
  refine Ru.iload d_mism_72 rfl ?_
  refine Ru.icmpN d_mism_74 (show (0 : Int32) < (1 : Int32) from (by decide)) ?_
  refine Ru.aloadN d_mism_77 rfl rfl ?_
  refine Ru.iloadN d_mism_78 rfl ?_
  refine Ru.iload d_mism_79 rfl ?_
  refine Ru.iadd d_mism_81 ?_
  refine Ru.baload (v := (.int x0)) d_mism_82 hA (by decide) (by rw [z00]; exact ha) ?_
  refine Ru.aloadN d_mism_83 rfl rfl ?_
  refine Ru.iloadN d_mism_84 rfl ?_
  refine Ru.iload d_mism_85 rfl ?_
  refine Ru.iadd d_mism_87 ?_
  refine Ru.baload (v := (.int x0)) d_mism_88 hB (by decide) (by rw [z00]; exact hb) ?_
  refine Ru.icmpY d_mism_89 (show x0 = x0 from rfl) ?_
  refine Ru.iinc (y := (1 : Int32)) d_mism_95 rfl rfl (ls' := #[.val (.ref t), .val (.int (0 : Int32)), .val (.ref u), .val (.int (0 : Int32)), .val (.int (1 : Int32)), .val (.int ((0 : Int32) + (1 : Int32))), .unset, .unset]) rfl ?_
  refine Ru.goto d_mism_98 ?_
  refine Ru.iload d_mism_70 rfl ?_
  refine Ru.iload d_mism_72 rfl ?_
  refine Ru.icmpY d_mism_74 (show ¬ ((0 : Int32) + (1 : Int32)) < (1 : Int32) from (by decide)) ?_
  refine Ru.iconst (x := -1) d_mism_101 rfl ?_
  exact Ru.ireturn d_mism_102 rfl [] (fun _ q => nomatch q) (Nat.le_of_ble_eq_true rfl) (Nat.le_of_ble_eq_true rfl) ⟨_, rfl, rfl, rfl, rfl⟩
abbrev I_sw2 : Own.Inf := (⟨"java/lang/String", "startsWith", "(Ljava/lang/String;I)Z"⟩, jdk_42_method_75_code, 8, (Option.some Jvm.ClassFile.FieldType.boolean), { frames := 2, cells := 0, slots := 0, locals := 40 })
theorem d_sw2_0 : Own.D1 jdk_42_method_75_code 0 (.iload_n 2) 1 1 := ⟨by decide +kernel, rfl⟩
theorem d_sw2_1 : Own.DB jdk_42_method_75_code 1 (.ifCond .lt 16) 3 (16) 4 17 := ⟨by decide +kernel, rfl, by decide, rfl⟩
theorem d_sw2_4 : Own.D1 jdk_42_method_75_code 4 (.iload_n 2) 1 5 := ⟨by decide +kernel, rfl⟩
theorem d_sw2_5 : Own.D1 jdk_42_method_75_code 5 (.aload_n 0) 1 6 := ⟨by decide +kernel, rfl⟩
theorem d_sw2_6 : Own.D1 jdk_42_method_75_code 6 (.invokevirtual 505) 3 9 := ⟨by decide +kernel, rfl⟩
theorem d_sw2_9 : Own.D1 jdk_42_method_75_code 9 (.aload_n 1) 1 10 := ⟨by decide +kernel, rfl⟩
theorem d_sw2_10 : Own.D1 jdk_42_method_75_code 10 (.invokevirtual 505) 3 13 := ⟨by decide +kernel, rfl⟩
theorem d_sw2_13 : Own.D1 jdk_42_method_75_code 13 .isub 1 14 := ⟨by decide +kernel, rfl⟩
theorem d_sw2_14 : Own.DB jdk_42_method_75_code 14 (.if_icmp .le 5) 3 (5) 17 19 := ⟨by decide +kernel, rfl, by decide, rfl⟩
theorem d_sw2_17 : Own.D1 jdk_42_method_75_code 17 (.iconst 0) 1 18 := ⟨by decide +kernel, rfl⟩
theorem d_sw2_18 : Own.D1 jdk_42_method_75_code 18 .ireturn 1 19 := ⟨by decide +kernel, rfl⟩
theorem d_sw2_19 : Own.D1 jdk_42_method_75_code 19 (.aload_n 0) 1 20 := ⟨by decide +kernel, rfl⟩
theorem d_sw2_20 : Own.D1 jdk_42_method_75_code 20 (.getfield 9) 3 23 := ⟨by decide +kernel, rfl⟩
theorem d_sw2_23 : Own.D1 jdk_42_method_75_code 23 (.astore_n 3) 1 24 := ⟨by decide +kernel, rfl⟩
theorem d_sw2_24 : Own.D1 jdk_42_method_75_code 24 (.aload_n 1) 1 25 := ⟨by decide +kernel, rfl⟩
theorem d_sw2_25 : Own.D1 jdk_42_method_75_code 25 (.getfield 9) 3 28 := ⟨by decide +kernel, rfl⟩
theorem d_sw2_28 : Own.D1 jdk_42_method_75_code 28 (.astore 4) 2 30 := ⟨by decide +kernel, rfl⟩
theorem d_sw2_30 : Own.D1 jdk_42_method_75_code 30 (.iconst 0) 1 31 := ⟨by decide +kernel, rfl⟩
theorem d_sw2_31 : Own.D1 jdk_42_method_75_code 31 (.istore 5) 2 33 := ⟨by decide +kernel, rfl⟩
theorem d_sw2_33 : Own.D1 jdk_42_method_75_code 33 (.aload 4) 2 35 := ⟨by decide +kernel, rfl⟩
theorem d_sw2_35 : Own.D1 jdk_42_method_75_code 35 .arraylength 1 36 := ⟨by decide +kernel, rfl⟩
theorem d_sw2_36 : Own.D1 jdk_42_method_75_code 36 (.istore 6) 2 38 := ⟨by decide +kernel, rfl⟩
theorem d_sw2_38 : Own.D1 jdk_42_method_75_code 38 (.aload_n 0) 1 39 := ⟨by decide +kernel, rfl⟩
theorem d_sw2_39 : Own.D1 jdk_42_method_75_code 39 (.invokevirtual 335) 3 42 := ⟨by decide +kernel, rfl⟩
theorem d_sw2_42 : Own.D1 jdk_42_method_75_code 42 (.istore 7) 2 44 := ⟨by decide +kernel, rfl⟩
theorem d_sw2_44 : Own.D1 jdk_42_method_75_code 44 (.iload 7) 2 46 := ⟨by decide +kernel, rfl⟩
theorem d_sw2_46 : Own.D1 jdk_42_method_75_code 46 (.aload_n 1) 1 47 := ⟨by decide +kernel, rfl⟩
theorem d_sw2_47 : Own.D1 jdk_42_method_75_code 47 (.invokevirtual 335) 3 50 := ⟨by decide +kernel, rfl⟩
theorem d_sw2_50 : Own.DB jdk_42_method_75_code 50 (.if_icmp .ne 32) 3 (32) 53 82 := ⟨by decide +kernel, rfl, by decide, rfl⟩
theorem d_sw2_53 : Own.D1 jdk_42_method_75_code 53 (.iload 7) 2 55 := ⟨by decide +kernel, rfl⟩
theorem d_sw2_55 : Own.D1 jdk_42_method_75_code 55 (.iconst 1) 1 56 := ⟨by decide +kernel, rfl⟩
theorem d_sw2_56 : Own.DB jdk_42_method_75_code 56 (.if_icmp .ne 7) 3 (7) 59 63 := ⟨by decide +kernel, rfl, by decide, rfl⟩
theorem d_sw2_59 : Own.D1 jdk_42_method_75_code 59 (.iload_n 2) 1 60 := ⟨by decide +kernel, rfl⟩
theorem d_sw2_60 : Own.D1 jdk_42_method_75_code 60 (.iconst 1) 1 61 := ⟨by decide +kernel, rfl⟩
theorem d_sw2_61 : Own.D1 jdk_42_method_75_code 61 .ishl 1 62 := ⟨by decide +kernel, rfl⟩
theorem d_sw2_62 : Own.D1 jdk_42_method_75_code 62 (.istore_n 2) 1 63 := ⟨by decide +kernel, rfl⟩
theorem d_sw2_63 : Own.D1 jdk_42_method_75_code 63 (.aload_n 3) 1 64 := ⟨by decide +kernel, rfl⟩
theorem d_sw2_64 : Own.D1 jdk_42_method_75_code 64 (.iload_n 2) 1 65 := ⟨by decide +kernel, rfl⟩
theorem d_sw2_65 : Own.D1 jdk_42_method_75_code 65 (.aload 4) 2 67 := ⟨by decide +kernel, rfl⟩
theorem d_sw2_67 : Own.D1 jdk_42_method_75_code 67 (.iconst 0) 1 68 := ⟨by decide +kernel, rfl⟩
theorem d_sw2_68 : Own.D1 jdk_42_method_75_code 68 (.iload 6) 2 70 := ⟨by decide +kernel, rfl⟩
theorem d_sw2_70 : Own.D1 jdk_42_method_75_code 70 (.invokestatic 607) 3 73 := ⟨by decide +kernel, rfl⟩
theorem d_sw2_73 : Own.DB jdk_42_method_75_code 73 (.ifCond .ge 7) 3 (7) 76 80 := ⟨by decide +kernel, rfl, by decide, rfl⟩
theorem d_sw2_76 : Own.D1 jdk_42_method_75_code 76 (.iconst 1) 1 77 := ⟨by decide +kernel, rfl⟩
theorem d_sw2_77 : Own.DB jdk_42_method_75_code 77 (.goto 4) 3 (4) 80 81 := ⟨by decide +kernel, rfl, by decide, rfl⟩
theorem d_sw2_80 : Own.D1 jdk_42_method_75_code 80 (.iconst 0) 1 81 := ⟨by decide +kernel, rfl⟩
theorem d_sw2_81 : Own.D1 jdk_42_method_75_code 81 .ireturn 1 82 := ⟨by decide +kernel, rfl⟩
theorem d_sw2_82 : Own.D1 jdk_42_method_75_code 82 (.iload 7) 2 84 := ⟨by decide +kernel, rfl⟩
theorem d_sw2_84 : Own.DB jdk_42_method_75_code 84 (.ifCond .ne 5) 3 (5) 87 89 := ⟨by decide +kernel, rfl, by decide, rfl⟩
theorem d_sw2_87 : Own.D1 jdk_42_method_75_code 87 (.iconst 0) 1 88 := ⟨by decide +kernel, rfl⟩
theorem d_sw2_88 : Own.D1 jdk_42_method_75_code 88 .ireturn 1 89 := ⟨by decide +kernel, rfl⟩
theorem d_sw2_89 : Own.D1 jdk_42_method_75_code 89 (.iload 5) 2 91 := ⟨by decide +kernel, rfl⟩
theorem d_sw2_91 : Own.D1 jdk_42_method_75_code 91 (.iload 6) 2 93 := ⟨by decide +kernel, rfl⟩
theorem d_sw2_93 : Own.DB jdk_42_method_75_code 93 (.if_icmp .ge 28) 3 (28) 96 121 := ⟨by decide +kernel, rfl, by decide, rfl⟩
theorem d_sw2_96 : Own.D1 jdk_42_method_75_code 96 (.aload_n 3) 1 97 := ⟨by decide +kernel, rfl⟩
theorem d_sw2_97 : Own.D1 jdk_42_method_75_code 97 (.iload_n 2) 1 98 := ⟨by decide +kernel, rfl⟩
theorem d_sw2_98 : Own.D1 jdk_42_method_75_code 98 (.iinc 2 1) 3 101 := ⟨by decide +kernel, rfl⟩
theorem d_sw2_101 : Own.D1 jdk_42_method_75_code 101 (.invokestatic 360) 3 104 := ⟨by decide +kernel, rfl⟩
theorem d_sw2_104 : Own.D1 jdk_42_method_75_code 104 (.aload 4) 2 106 := ⟨by decide +kernel, rfl⟩
theorem d_sw2_106 : Own.D1 jdk_42_method_75_code 106 (.iload 5) 2 108 := ⟨by decide +kernel, rfl⟩
theorem d_sw2_108 : Own.D1 jdk_42_method_75_code 108 (.iinc 5 1) 3 111 := ⟨by decide +kernel, rfl⟩
theorem d_sw2_111 : Own.D1 jdk_42_method_75_code 111 .baload 1 112 := ⟨by decide +kernel, rfl⟩
theorem d_sw2_112 : Own.D1 jdk_42_method_75_code 112 (.sipush 255) 3 115 := ⟨by decide +kernel, rfl⟩
theorem d_sw2_115 : Own.D1 jdk_42_method_75_code 115 .iand 1 116 := ⟨by decide +kernel, rfl⟩
theorem d_sw2_116 : Own.DB jdk_42_method_75_code 116 (.if_icmp .eq (-27)) 3 (-27) 119 89 := ⟨by decide +kernel, rfl, by decide, rfl⟩
theorem d_sw2_119 : Own.D1 jdk_42_method_75_code 119 (.iconst 0) 1 120 := ⟨by decide +kernel, rfl⟩
theorem d_sw2_120 : Own.D1 jdk_42_method_75_code 120 .ireturn 1 121 := ⟨by decide +kernel, rfl⟩
theorem d_sw2_121 : Own.D1 jdk_42_method_75_code 121 (.iconst 1) 1 122 := ⟨by decide +kernel, rfl⟩
theorem d_sw2_122 : Own.D1 jdk_42_method_75_code 122 .ireturn 1 123 := ⟨by decide +kernel, rfl⟩
theorem np_sw2 : Own.npar "(Ljava/lang/String;I)Z" = some 2 := by decide +kernel
set_option maxRecDepth 65536 in
set_option maxHeartbeats 40000000 in
theorem c_sw2 {G : Own.Wd} {a0 : Array Value} (e : Ev G a0) {a b t u : Addr} {cs : List Int32} {h : Heap} (A : StrL G.Z h a t cs) (B : StrL G.Z h b u [47]) (hc : cs[0]? = some 47) : Met G I_sw2 #[(.ref a), (.ref b), (.int (0 : Int32))] h [] (Rt (fun x h' S' => S' = [] ∧ h' = h ∧ x = .int 1)) := by
  refine Met.intro (ls := #[.val (.ref a), .val (.ref b), .val (.int (0 : Int32)), .unset, .unset, .unset, .unset, .unset]) (plainFor_of_name pn_1) (fun m => by first | (simp [entryFrame, mkF, argsToLocals, Value.category, I_sw2]; done) | (simp [entryFrame, mkF, argsToLocals, Value.category]; rfl) | rfl) ?_
  intro K
  have hcs : cs.length < 2147483648 := by obtain ⟨c, -, e1, e2, -⟩ := A.2.2.2.1; simpa using e2
  have h0 : 0 < cs.length := (List.getElem?_eq_some_iff.mp hc).1
  refine Ru.iloadN d_sw2_0 rfl ?_
  refine Ru.ifN d_sw2_1 (show ¬ (0 : Int32) < (0 : Int32) from (by decide)) ?_
  refine Ru.iloadN d_sw2_4 rfl ?_
  refine Ru.aloadN d_sw2_5 rfl rfl ?_
  refine Ru.callV0 (J := I_slen) (c_slen e A) d_sw2_6 A.1 (e.w 82 rfl) (e.w 83 rfl) (nf_sel (e.w 85 rfl)) (e.w 85 rfl) (e.w 84 rfl) (e.w 2 rfl) (e.w 86 rfl) (by decide) np_slen rfl (a := a) (argsL := []) (rest := [(.int (0 : Int32))]) rfl rfl (fun _ q => nomatch q) (Nat.le_of_ble_eq_true rfl) (Nat.le_of_ble_eq_true rfl) (Nat.le_of_ble_eq_true rfl) (Nat.le_of_ble_eq_true rfl) (WP.rt ?_)
  rintro _ h S1 ⟨rfl, rfl, rfl⟩
  refine Ru.aloadN d_sw2_9 rfl rfl ?_
  refine Ru.callV0 (J := I_slen) (c_slen e B) d_sw2_10 B.1 (e.w 82 rfl) (e.w 83 rfl) (nf_sel (e.w 85 rfl)) (e.w 85 rfl) (e.w 84 rfl) (e.w 2 rfl) (e.w 86 rfl) (by decide) np_slen rfl (a := b) (argsL := []) (rest := [(.int (n32 cs.length)), (.int (0 : Int32))]) rfl rfl (fun _ q => nomatch q) (Nat.le_of_ble_eq_true rfl) (Nat.le_of_ble_eq_true rfl) (Nat.le_of_ble_eq_true rfl) (Nat.le_of_ble_eq_true rfl) (WP.rt ?_)
  rintro _ h S2 ⟨rfl, rfl, rfl⟩
  refine Ru.isub d_sw2_13 ?_
  refine Ru.icmpY d_sw2_14 (show ¬ ((n32 cs.length) - (n32 1)) < (0 : Int32) from (by rw [n32_sub hcs (by omega)]; exact n32_nn (by omega))) ?_
  refine Ru.aloadN d_sw2_19 rfl rfl ?_
  refine Ru.getfield d_sw2_20 (e.w 28 rfl) Via.refl A.2.1 ?_
  refine Ru.astoreN d_sw2_23 rfl (ls' := #[.val (.ref a), .val (.ref b), .val (.int (0 : Int32)), .val (.ref t), .unset, .unset, .unset, .unset]) rfl ?_
  refine Ru.aloadN d_sw2_24 rfl rfl ?_
  refine Ru.getfield d_sw2_25 (e.w 28 rfl) Via.refl B.2.1 ?_
  refine Ru.astore d_sw2_28 rfl (ls' := #[.val (.ref a), .val (.ref b), .val (.int (0 : Int32)), .val (.ref t), .val (.ref u), .unset, .unset, .unset]) rfl ?_
  refine Ru.iconst (x := 0) d_sw2_30 rfl ?_
  refine Ru.istore d_sw2_31 (ls' := #[.val (.ref a), .val (.ref b), .val (.int (0 : Int32)), .val (.ref t), .val (.ref u), .val (.int (0 : Int32)), .unset, .unset]) rfl ?_
  refine Ru.aload d_sw2_33 rfl rfl ?_
  refine Ru.arraylength (n := (1 : Int32)) d_sw2_35 B.2.2.2.1 rfl ?_
  refine Ru.istore d_sw2_36 (ls' := #[.val (.ref a), .val (.ref b), .val (.int (0 : Int32)), .val (.ref t), .val (.ref u), .val (.int (0 : Int32)), .val (.int (1 : Int32)), .unset]) rfl ?_
  refine Ru.aloadN d_sw2_38 rfl rfl ?_
  refine Ru.callV0 (J := I_scod) (c_scod e A) d_sw2_39 A.1 (e.w 87 rfl) (e.w 88 rfl) (nf_sel (e.w 90 rfl)) (e.w 90 rfl) (e.w 89 rfl) (e.w 2 rfl) (e.w 91 rfl) (by decide) np_scod rfl (a := a) (argsL := []) (rest := []) rfl rfl (fun _ q => nomatch q) (Nat.le_of_ble_eq_true rfl) (Nat.le_of_ble_eq_true rfl) (Nat.le_of_ble_eq_true rfl) (Nat.le_of_ble_eq_true rfl) (WP.rt ?_)
  rintro _ h S3 ⟨rfl, rfl, rfl⟩
  refine Ru.istore d_sw2_42 (ls' := #[.val (.ref a), .val (.ref b), .val (.int (0 : Int32)), .val (.ref t), .val (.ref u), .val (.int (0 : Int32)), .val (.int (1 : Int32)), .val (.int (0 : Int32))]) rfl ?_
  refine Ru.iload d_sw2_44 rfl ?_
  refine Ru.aloadN d_sw2_46 rfl rfl ?_
  refine Ru.callV0 (J := I_scod) (c_scod e B) d_sw2_47 B.1 (e.w 87 rfl) (e.w 88 rfl) (nf_sel (e.w 90 rfl)) (e.w 90 rfl) (e.w 89 rfl) (e.w 2 rfl) (e.w 91 rfl) (by decide) np_scod rfl (a := b) (argsL := []) (rest := [(.int (0 : Int32))]) rfl rfl (fun _ q => nomatch q) (Nat.le_of_ble_eq_true rfl) (Nat.le_of_ble_eq_true rfl) (Nat.le_of_ble_eq_true rfl) (Nat.le_of_ble_eq_true rfl) (WP.rt ?_)
  rintro _ h S4 ⟨rfl, rfl, rfl⟩
  refine Ru.icmpN d_sw2_50 (show (0 : Int32) = (0 : Int32) from rfl) ?_
  refine Ru.iload d_sw2_53 rfl ?_
  refine Ru.iconst (x := 1) d_sw2_55 rfl ?_
  refine Ru.icmpY d_sw2_56 (show ¬ (0 : Int32) = (1 : Int32) from (by decide)) ?_
  refine Ru.aloadN d_sw2_63 rfl rfl ?_
  refine Ru.iloadN d_sw2_64 rfl ?_
  refine Ru.aload d_sw2_65 rfl rfl ?_
  refine Ru.iconst (x := 0) d_sw2_67 rfl ?_
  refine Ru.iload d_sw2_68 rfl ?_
  refine Ru.callS0 (J := I_mism) (c_mism e (x0 := (47 : Int32).toInt8.toInt32) A.2.2.2.1 B.2.2.2.1 (by simp [hc, lat]) rfl) d_sw2_70 (e.w 92 rfl) (e.w 93 rfl) (e.w 94 rfl) (e.w 95 rfl) (by decide) np_mism rfl (argsL := [(.ref t), (.int (0 : Int32)), (.ref u), (.int (0 : Int32)), (.int (1 : Int32))]) (rest := []) rfl rfl (fun _ q => nomatch q) (Nat.le_of_ble_eq_true rfl) (Nat.le_of_ble_eq_true rfl) (Nat.le_of_ble_eq_true rfl) (Nat.le_of_ble_eq_true rfl) (WP.rt ?_)
  rintro _ _ S5 ⟨rfl, rfl, rfl⟩
  refine Ru.ifN d_sw2_73 (show (-1 : Int32) < (0 : Int32) from (by decide)) ?_
  refine Ru.iconst (x := 1) d_sw2_76 rfl ?_
  refine Ru.goto d_sw2_77 ?_
  exact Ru.ireturnN (t := .boolean) (x' := (1 : Int32)) d_sw2_81 rfl (by simp) rfl [] (fun _ q => nomatch q) (Nat.le_of_ble_eq_true rfl) (Nat.le_of_ble_eq_true rfl) ⟨_, rfl, rfl, rfl, rfl⟩
abbrev I_sw1 : Own.Inf := (⟨"java/lang/String", "startsWith", "(Ljava/lang/String;)Z"⟩, jdk_42_method_76_code, 2, (Option.some Jvm.ClassFile.FieldType.boolean), { frames := 3, cells := 0, slots := 0, locals := 60 })
theorem d_sw1_0 : Own.D1 jdk_42_method_76_code 0 (.aload_n 0) 1 1 := ⟨by decide +kernel, rfl⟩
theorem d_sw1_1 : Own.D1 jdk_42_method_76_code 1 (.aload_n 1) 1 2 := ⟨by decide +kernel, rfl⟩
theorem d_sw1_2 : Own.D1 jdk_42_method_76_code 2 (.iconst 0) 1 3 := ⟨by decide +kernel, rfl⟩
theorem d_sw1_3 : Own.D1 jdk_42_method_76_code 3 (.invokevirtual 624) 3 6 := ⟨by decide +kernel, rfl⟩
theorem d_sw1_6 : Own.D1 jdk_42_method_76_code 6 .ireturn 1 7 := ⟨by decide +kernel, rfl⟩
theorem np_sw1 : Own.npar "(Ljava/lang/String;)Z" = some 1 := by decide +kernel
set_option maxRecDepth 65536 in
set_option maxHeartbeats 40000000 in
theorem c_sw1 {G : Own.Wd} {a0 : Array Value} (e : Ev G a0) {a b t u : Addr} {cs : List Int32} {h : Heap} (A : StrL G.Z h a t cs) (B : StrL G.Z h b u [47]) (hc : cs[0]? = some 47) : Met G I_sw1 #[(.ref a), (.ref b)] h [] (Rt (fun x h' S' => S' = [] ∧ h' = h ∧ x = .int 1)) := by
  refine Met.intro (ls := #[.val (.ref a), .val (.ref b)]) (plainFor_of_name pn_1) (fun m => by first | (simp [entryFrame, mkF, argsToLocals, Value.category, I_sw1]; done) | (simp [entryFrame, mkF, argsToLocals, Value.category]; rfl) | rfl) ?_
  intro K
  refine Ru.aloadN d_sw1_0 rfl rfl ?_
  refine Ru.aloadN d_sw1_1 rfl rfl ?_
  refine Ru.iconst (x := 0) d_sw1_2 rfl ?_
  refine Ru.callV0 (J := I_sw2) (c_sw2 e A B hc) d_sw1_3 A.1 (e.w 77 rfl) (e.w 78 rfl) (nf_sel (e.w 80 rfl)) (e.w 80 rfl) (e.w 79 rfl) (e.w 2 rfl) (e.w 81 rfl) (by decide) np_sw2 rfl (a := a) (argsL := [(.ref b), (.int (0 : Int32))]) (rest := []) rfl rfl (fun _ q => nomatch q) (Nat.le_of_ble_eq_true rfl) (Nat.le_of_ble_eq_true rfl) (Nat.le_of_ble_eq_true rfl) (Nat.le_of_ble_eq_true rfl) (WP.rt ?_)
  rintro _ _ S1 ⟨rfl, rfl, rfl⟩
  exact Ru.ireturnN (t := .boolean) (x' := (1 : Int32)) d_sw1_6 rfl (by simp) rfl [] (fun _ q => nomatch q) (Nat.le_of_ble_eq_true rfl) (Nat.le_of_ble_eq_true rfl) ⟨_, rfl, rfl, rfl, rfl⟩
abbrev I_sinit : Own.Inf := (⟨"com/example/torbund/torbund/ConfigFile$Setting", "<init>", "(Ljava/lang/String;Ljava/lang/String;)V"⟩, prog_4_method_1_code, 3, (Option.none : Option Jvm.ClassFile.FieldType), { frames := 2, cells := 0, slots := 0, locals := 24 })
theorem d_sinit_0 : Own.D1 prog_4_method_1_code 0 (.aload_n 0) 1 1 := ⟨by decide +kernel, rfl⟩
theorem d_sinit_1 : Own.D1 prog_4_method_1_code 1 (.invokespecial 1) 3 4 := ⟨by decide +kernel, rfl⟩
theorem d_sinit_4 : Own.D1 prog_4_method_1_code 4 (.aload_n 0) 1 5 := ⟨by decide +kernel, rfl⟩
theorem d_sinit_5 : Own.D1 prog_4_method_1_code 5 (.aload_n 1) 1 6 := ⟨by decide +kernel, rfl⟩
theorem d_sinit_6 : Own.D1 prog_4_method_1_code 6 (.putfield 7) 3 9 := ⟨by decide +kernel, rfl⟩
theorem d_sinit_9 : Own.D1 prog_4_method_1_code 9 (.aload_n 0) 1 10 := ⟨by decide +kernel, rfl⟩
theorem d_sinit_10 : Own.D1 prog_4_method_1_code 10 (.aload_n 2) 1 11 := ⟨by decide +kernel, rfl⟩
theorem d_sinit_11 : Own.D1 prog_4_method_1_code 11 (.putfield 13) 3 14 := ⟨by decide +kernel, rfl⟩
theorem d_sinit_14 : Own.D1 prog_4_method_1_code 14 .return_ 1 15 := ⟨by decide +kernel, rfl⟩
theorem pn_6 : plainName "com/example/torbund/torbund/ConfigFile$Setting" = true := by first | (simp [plainName, overriddenIn]; done) | decide +kernel
theorem np_sinit : Own.npar "(Ljava/lang/String;Ljava/lang/String;)V" = some 2 := by decide +kernel
set_option maxRecDepth 65536 in
set_option maxHeartbeats 40000000 in
theorem c_sinit {G : Own.Wd} {a0 : Array Value} (e : Ev G a0) {a s v : Addr} {v0 v1 : Value} {h : Heap} (A0 : Exa G.Z h a "com/example/torbund/torbund/ConfigFile$Setting") (f0 : Fld G.Z h a "com/example/torbund/torbund/ConfigFile$Setting" "value" "Ljava/lang/String;" v0) (f1 : Fld G.Z h a "com/example/torbund/torbund/ConfigFile$Setting" "source" "Ljava/lang/String;" v1) : Met G I_sinit #[(.ref a), (.ref s), (.ref v)] h [a] (Rv (fun h' S' => S' = [] ∧ Keep h h' [a] ∧ Exa G.Z h' a "com/example/torbund/torbund/ConfigFile$Setting" ∧ Fld G.Z h' a "com/example/torbund/torbund/ConfigFile$Setting" "value" "Ljava/lang/String;" (.ref s))) := by
  refine Met.intro (ls := #[.val (.ref a), .val (.ref s), .val (.ref v)]) (plainFor_of_name pn_6) (fun m => by first | (simp [entryFrame, mkF, argsToLocals, Value.category, I_sinit]; done) | (simp [entryFrame, mkF, argsToLocals, Value.category]; rfl) | rfl) ?_
  intro K
  have nf : Jvm.RoadKit.slotOf G.Z "com/example/torbund/torbund/ConfigFile$Setting" "value" "Ljava/lang/String;" ≠ Jvm.RoadKit.slotOf G.Z "com/example/torbund/torbund/ConfigFile$Setting" "source" "Ljava/lang/String;" := slot_ne (Or.inr (e.w 57 rfl)) (Or.inr (e.w 59 rfl)) (by decide) (t := .object "java/lang/String") (by decide) (t' := .object "java/lang/String") (by decide)
  refine Ru.aloadN d_sinit_0 rfl rfl ?_
  refine Ru.callI0 (J := I_recinit) (c_recinit e) d_sinit_1 rfl rfl (e.w 50 rfl) (e.w 51 rfl) (e.w 53 rfl) (e.w 54 rfl) (by decide) np_recinit rfl (a := a) (argsL := []) (rest := []) rfl rfl (fun _ q => nomatch q) (Nat.le_of_ble_eq_true rfl) (Nat.le_of_ble_eq_true rfl) (Nat.le_of_ble_eq_true rfl) (Nat.le_of_ble_eq_true rfl) (WP.rv ?_)
  rintro _ S1 ⟨rfl, rfl⟩
  refine Ru.aloadN d_sinit_4 rfl rfl ?_
  refine Ru.aloadN d_sinit_5 rfl rfl ?_
  refine Ru.putfield d_sinit_6 (e.w 56 rfl) Via.refl (by simp) f0 A0 (Or.inr ⟨(e.w 57 rfl), rfl, rfl⟩) (e.w 45 rfl) (ty := (.object "java/lang/String")) (by decide) rfl rfl ?_
  intro h1 W1
  have g0 := f0.same W1; have g1 := f1.other W1 (Or.inr nf.symm); have A1 := A0.wr W1
  refine Ru.aloadN d_sinit_9 rfl rfl ?_
  refine Ru.aloadN d_sinit_10 rfl rfl ?_
  refine Ru.putfield d_sinit_11 (e.w 58 rfl) Via.refl (by simp) g1 A1 (Or.inr ⟨(e.w 59 rfl), rfl, rfl⟩) (e.w 45 rfl) (ty := (.object "java/lang/String")) (by decide) rfl rfl ?_
  intro h2 W2
  exact Ru.ret d_sinit_14 rfl [] (fun _ q => nomatch q) (Nat.le_of_ble_eq_true rfl) (Nat.le_of_ble_eq_true rfl) ⟨rfl, rfl, ((Keep.of_wr W1).trans (Keep.of_wr W2) (by simp)), A1.wr W2, g0.other W2 (Or.inr nf)⟩
abbrev I_sval : Own.Inf := (⟨"com/example/torbund/torbund/ConfigFile$Setting", "value", "()Ljava/lang/String;"⟩, prog_4_method_5_code, 1, (Option.some (Jvm.ClassFile.FieldType.object "java/lang/String")), { frames := 0, cells := 0, slots := 0, locals := 0 })
theorem d_sval_0 : Own.D1 prog_4_method_5_code 0 (.aload_n 0) 1 1 := ⟨by decide +kernel, rfl⟩
theorem d_sval_1 : Own.D1 prog_4_method_5_code 1 (.getfield 7) 3 4 := ⟨by decide +kernel, rfl⟩
theorem d_sval_4 : Own.D1 prog_4_method_5_code 4 .areturn 1 5 := ⟨by decide +kernel, rfl⟩
theorem np_sval : Own.npar "()Ljava/lang/String;" = some 0 := by decide +kernel
set_option maxRecDepth 65536 in
set_option maxHeartbeats 40000000 in
theorem c_sval {G : Own.Wd} {a0 : Array Value} (e : Ev G a0) {a v : Addr} {h : Heap} (F0 : Fld G.Z h a "com/example/torbund/torbund/ConfigFile$Setting" "value" "Ljava/lang/String;" (.ref v)) : Met G I_sval #[(.ref a)] h [] (Rt (fun x h' S' => S' = [] ∧ h' = h ∧ x = .ref v)) := by
  refine Met.intro (ls := #[.val (.ref a)]) (plainFor_of_name pn_6) (fun m => by first | (simp [entryFrame, mkF, argsToLocals, Value.category, I_sval]; done) | (simp [entryFrame, mkF, argsToLocals, Value.category]; rfl) | rfl) ?_
  intro K
  refine Ru.aloadN d_sval_0 rfl rfl ?_
  refine Ru.getfield d_sval_1 (e.w 56 rfl) Via.refl F0 ?_
  exact Ru.areturn (t := (.object "java/lang/String")) d_sval_4 rfl rfl rfl rfl [] (fun _ q => nomatch q) (Nat.le_of_ble_eq_true rfl) (Nat.le_of_ble_eq_true rfl) ⟨_, rfl, rfl, rfl, rfl⟩
abbrev I_pref : Own.Inf := (⟨"com/example/torbund/torbund/ConfigFile", "prefix", "(Lcom/example/torbund/torbund/ConfigFile$Setting;)Ljava/lang/String;"⟩, prog_3_method_14_code, 2, (Option.some (Jvm.ClassFile.FieldType.object "java/lang/String")), { frames := 4, cells := 2, slots := 8, locals := 80 })
theorem d_pref_0 : Own.D1 prog_3_method_14_code 0 (.aload_n 0) 1 1 := ⟨by decide +kernel, rfl⟩
theorem d_pref_1 : Own.D1 prog_3_method_14_code 1 (.invokevirtual 196) 3 4 := ⟨by decide +kernel, rfl⟩
theorem d_pref_4 : Own.D1 prog_3_method_14_code 4 (.astore_n 1) 1 5 := ⟨by decide +kernel, rfl⟩
theorem d_pref_5 : Own.D1 prog_3_method_14_code 5 (.aload_n 1) 1 6 := ⟨by decide +kernel, rfl⟩
theorem d_pref_6 : Own.D1 prog_3_method_14_code 6 (.ldc_w 279) 3 9 := ⟨by decide +kernel, rfl⟩
theorem d_pref_9 : Own.D1 prog_3_method_14_code 9 (.invokevirtual 106) 3 12 := ⟨by decide +kernel, rfl⟩
theorem d_pref_12 : Own.DB prog_3_method_14_code 12 (.ifCond .ne 21) 3 (21) 15 33 := ⟨by decide +kernel, rfl, by decide, rfl⟩
theorem d_pref_15 : Own.D1 prog_3_method_14_code 15 (.new 71) 3 18 := ⟨by decide +kernel, rfl⟩
theorem d_pref_18 : Own.D1 prog_3_method_14_code 18 .dup 1 19 := ⟨by decide +kernel, rfl⟩
theorem d_pref_19 : Own.D1 prog_3_method_14_code 19 (.aload_n 0) 1 20 := ⟨by decide +kernel, rfl⟩
theorem d_pref_20 : Own.D1 prog_3_method_14_code 20 (.invokevirtual 205) 3 23 := ⟨by decide +kernel, rfl⟩
theorem d_pref_23 : Own.D1 prog_3_method_14_code 23 (.aload_n 1) 1 24 := ⟨by decide +kernel, rfl⟩
theorem d_pref_24 : Own.D1 prog_3_method_14_code 24 (.invokedynamic 281) 5 29 := ⟨by decide +kernel, rfl⟩
theorem d_pref_29 : Own.D1 prog_3_method_14_code 29 (.invokespecial 81) 3 32 := ⟨by decide +kernel, rfl⟩
theorem d_pref_32 : Own.D1 prog_3_method_14_code 32 .athrow 1 33 := ⟨by decide +kernel, rfl⟩
theorem d_pref_33 : Own.D1 prog_3_method_14_code 33 (.aload_n 1) 1 34 := ⟨by decide +kernel, rfl⟩
theorem d_pref_34 : Own.D1 prog_3_method_14_code 34 .areturn 1 35 := ⟨by decide +kernel, rfl⟩
theorem pn_7 : plainName "com/example/torbund/torbund/ConfigFile" = true := by first | (simp [plainName, overriddenIn]; done) | decide +kernel
theorem np_pref : Own.npar "(Lcom/example/torbund/torbund/ConfigFile$Setting;)Ljava/lang/String;" = some 1 := by decide +kernel
set_option maxRecDepth 65536 in
set_option maxHeartbeats 40000000 in
theorem c_pref {G : Own.Wd} {a0 : Array Value} (e : Ev G a0) {a s t : Addr} {cs : List Int32} {h : Heap} (E0 : Exa G.Z h a "com/example/torbund/torbund/ConfigFile$Setting") (F0 : Fld G.Z h a "com/example/torbund/torbund/ConfigFile$Setting" "value" "Ljava/lang/String;" (.ref s)) (A : StrL G.Z h s t cs) (hc : cs[0]? = some 47) : Met G I_pref #[(.ref a)] h [] (Rt (fun x h' S' => S' = [] ∧ x = .ref s ∧ Keep h h' [])) := by
  refine Met.intro (ls := #[.val (.ref a), .unset]) (plainFor_of_name pn_7) (fun m => by first | (simp [entryFrame, mkF, argsToLocals, Value.category, I_pref]; done) | (simp [entryFrame, mkF, argsToLocals, Value.category]; rfl) | rfl) ?_
  intro K
  refine Ru.aloadN d_pref_0 rfl rfl ?_
  refine Ru.callV0 (J := I_sval) (c_sval e F0) d_pref_1 E0 (e.w 64 rfl) (e.w 65 rfl) (nf_sel (e.w 67 rfl)) (e.w 67 rfl) (e.w 66 rfl) (e.w 46 rfl) (e.w 68 rfl) (by decide) np_sval rfl (a := a) (argsL := []) (rest := []) rfl rfl (fun _ q => nomatch q) (Nat.le_of_ble_eq_true rfl) (Nat.le_of_ble_eq_true rfl) (Nat.le_of_ble_eq_true rfl) (Nat.le_of_ble_eq_true rfl) (WP.rt ?_)
  rintro _ h S1 ⟨rfl, rfl, rfl⟩
  refine Ru.astoreN d_pref_4 rfl (ls' := #[.val (.ref a), .val (.ref s)]) rfl ?_
  refine Ru.aloadN d_pref_5 rfl rfl ?_
  refine Ru.ldcStrW (n := 4) (vs := [.int 47]) e.nar d_pref_6 (e.el _ (by decide)) (e.w 69 rfl) e.sa (by decide) (by decide) (by decide) (by decide) (Nat.le_of_ble_eq_true rfl) (Nat.le_of_ble_eq_true rfl) ?_
  intro h1 b u E1 X1 C1 V1 T1 N1
  have B : StrL G.Z h1 b u [47] := ⟨X1, V1, C1, T1, by simp [IsL]⟩
  have A1 := A.keep (keepE E1) nin0 nin0
  refine Ru.callV0 (J := I_sw1) (c_sw1 e A1 B hc) d_pref_9 A1.1 (e.w 72 rfl) (e.w 73 rfl) (nf_sel (e.w 75 rfl)) (e.w 75 rfl) (e.w 74 rfl) (e.w 2 rfl) (e.w 76 rfl) (by decide) np_sw1 rfl (a := s) (argsL := [(.ref b)]) (rest := []) rfl rfl (fun _ q => nomatch q) (Nat.le_of_ble_eq_true rfl) (Nat.le_of_ble_eq_true rfl) (Nat.le_of_ble_eq_true rfl) (Nat.le_of_ble_eq_true rfl) (WP.rt ?_)
  rintro _ _ S2 ⟨rfl, rfl, rfl⟩
  refine Ru.ifY d_pref_12 (show ¬ (1 : Int32) = (0 : Int32) from (by decide)) ?_
  refine Ru.aloadN d_pref_33 rfl rfl ?_
  exact Ru.areturn (t := (.object "java/lang/String")) d_pref_34 rfl rfl rfl rfl [] (fun _ q => nomatch q) (Nat.le_of_ble_eq_true rfl) (Nat.le_of_ble_eq_true rfl) ⟨_, rfl, rfl, rfl, keepE E1⟩
abbrev I_eqs : Own.Inf := (⟨"java/lang/String", "equals", "(Ljava/lang/Object;)Z"⟩, jdk_42_method_66_code, 3, (Option.some Jvm.ClassFile.FieldType.boolean), { frames := 0, cells := 0, slots := 0, locals := 0 })
theorem d_eqs_0 : Own.D1 jdk_42_method_66_code 0 (.aload_n 0) 1 1 := ⟨by decide +kernel, rfl⟩
theorem d_eqs_1 : Own.D1 jdk_42_method_66_code 1 (.aload_n 1) 1 2 := ⟨by decide +kernel, rfl⟩
theorem d_eqs_2 : Own.DB jdk_42_method_66_code 2 (.if_acmp .ne 5) 3 (5) 5 7 := ⟨by decide +kernel, rfl, by decide, rfl⟩
theorem d_eqs_5 : Own.D1 jdk_42_method_66_code 5 (.iconst 1) 1 6 := ⟨by decide +kernel, rfl⟩
theorem d_eqs_6 : Own.D1 jdk_42_method_66_code 6 .ireturn 1 7 := ⟨by decide +kernel, rfl⟩
theorem d_eqs_7 : Own.D1 jdk_42_method_66_code 7 (.aload_n 1) 1 8 := ⟨by decide +kernel, rfl⟩
theorem d_eqs_8 : Own.D1 jdk_42_method_66_code 8 (.instanceof 10) 3 11 := ⟨by decide +kernel, rfl⟩
theorem d_eqs_11 : Own.DB jdk_42_method_66_code 11 (.ifCond .eq 43) 3 (43) 14 54 := ⟨by decide +kernel, rfl, by decide, rfl⟩
theorem d_eqs_14 : Own.D1 jdk_42_method_66_code 14 (.aload_n 1) 1 15 := ⟨by decide +kernel, rfl⟩
theorem d_eqs_15 : Own.D1 jdk_42_method_66_code 15 (.checkcast 10) 3 18 := ⟨by decide +kernel, rfl⟩
theorem d_eqs_18 : Own.D1 jdk_42_method_66_code 18 (.astore_n 2) 1 19 := ⟨by decide +kernel, rfl⟩
theorem d_eqs_19 : Own.D1 jdk_42_method_66_code 19 (.getstatic 38) 3 22 := ⟨by decide +kernel, rfl⟩
theorem d_eqs_22 : Own.DB jdk_42_method_66_code 22 (.ifCond .eq 14) 3 (14) 25 36 := ⟨by decide +kernel, rfl, by decide, rfl⟩
theorem d_eqs_25 : Own.D1 jdk_42_method_66_code 25 (.aload_n 0) 1 26 := ⟨by decide +kernel, rfl⟩
theorem d_eqs_26 : Own.D1 jdk_42_method_66_code 26 (.getfield 15) 3 29 := ⟨by decide +kernel, rfl⟩
theorem d_eqs_29 : Own.D1 jdk_42_method_66_code 29 (.aload_n 2) 1 30 := ⟨by decide +kernel, rfl⟩
theorem d_eqs_30 : Own.D1 jdk_42_method_66_code 30 (.getfield 15) 3 33 := ⟨by decide +kernel, rfl⟩
theorem d_eqs_33 : Own.DB jdk_42_method_66_code 33 (.if_icmp .ne 21) 3 (21) 36 54 := ⟨by decide +kernel, rfl, by decide, rfl⟩
theorem d_eqs_36 : Own.D1 jdk_42_method_66_code 36 (.aload_n 0) 1 37 := ⟨by decide +kernel, rfl⟩
theorem d_eqs_37 : Own.D1 jdk_42_method_66_code 37 (.getfield 9) 3 40 := ⟨by decide +kernel, rfl⟩
theorem d_eqs_40 : Own.D1 jdk_42_method_66_code 40 (.aload_n 2) 1 41 := ⟨by decide +kernel, rfl⟩
theorem d_eqs_41 : Own.D1 jdk_42_method_66_code 41 (.getfield 9) 3 44 := ⟨by decide +kernel, rfl⟩
theorem d_eqs_44 : Own.D1 jdk_42_method_66_code 44 (.invokestatic 541) 3 47 := ⟨by decide +kernel, rfl⟩
theorem d_eqs_47 : Own.DB jdk_42_method_66_code 47 (.ifCond .eq 7) 3 (7) 50 54 := ⟨by decide +kernel, rfl, by decide, rfl⟩
theorem d_eqs_50 : Own.D1 jdk_42_method_66_code 50 (.iconst 1) 1 51 := ⟨by decide +kernel, rfl⟩
theorem d_eqs_51 : Own.DB jdk_42_method_66_code 51 (.goto 4) 3 (4) 54 55 := ⟨by decide +kernel, rfl, by decide, rfl⟩
theorem d_eqs_54 : Own.D1 jdk_42_method_66_code 54 (.iconst 0) 1 55 := ⟨by decide +kernel, rfl⟩
theorem d_eqs_55 : Own.D1 jdk_42_method_66_code 55 .ireturn 1 56 := ⟨by decide +kernel, rfl⟩
theorem np_eqs : Own.npar "(Ljava/lang/Object;)Z" = some 1 := by decide +kernel
set_option maxRecDepth 65536 in
set_option maxHeartbeats 40000000 in
theorem c_eqs {G : Own.Wd} {a0 : Array Value} (e : Ev G a0) {a : Addr} {h : Heap}  : Met G I_eqs #[(.ref a), (.ref a)] h [] (Rt (fun x h' S' => S' = [] ∧ h' = h ∧ x = .int 1)) := by
  refine Met.intro (ls := #[.val (.ref a), .val (.ref a), .unset]) (plainFor_of_name pn_1) (fun m => by first | (simp [entryFrame, mkF, argsToLocals, Value.category, I_eqs]; done) | (simp [entryFrame, mkF, argsToLocals, Value.category]; rfl) | rfl) ?_
  intro K
  refine Ru.aloadN d_eqs_0 rfl rfl ?_
  refine Ru.aloadN d_eqs_1 rfl rfl ?_
  refine Ru.acmpNeN d_eqs_2 rfl rfl rfl ?_
  refine Ru.iconst (x := 1) d_eqs_5 rfl ?_
  exact Ru.ireturnN (t := .boolean) (x' := (1 : Int32)) d_eqs_6 rfl (by simp) rfl [] (fun _ q => nomatch q) (Nat.le_of_ble_eq_true rfl) (Nat.le_of_ble_eq_true rfl) ⟨_, rfl, rfl, rfl, rfl⟩
theorem and3 (p : Int32) : ∃ k, k ≤ 3 ∧ (p &&& (3 : Int32)) = n32 k := by
  refine ⟨p.toBitVec.toNat &&& 3, Nat.and_le_right, ?_⟩
  apply Int32.toBitVec_inj.mp
  apply BitVec.eq_of_toNat_eq
  have h2 : p.toBitVec.toNat &&& 3 ≤ 3 := Nat.and_le_right
  have e2 : (p &&& (3 : Int32)).toBitVec.toNat = p.toBitVec.toNat &&& 3 := rfl
  have e3 : ∀ k : Nat, (n32 k).toBitVec.toNat = k % 4294967296 := fun k => by simp [n32]
  rw [e2, e3, Nat.mod_eq_of_lt (by omega)]
abbrev I_law : Own.Inf := (x, code, maxLocals, ret, room_1)
theorem d_law_0 : Own.D1 code 0 (.iload_n 0) 1 1 := ⟨by decide +kernel, rfl⟩
theorem d_law_1 : Own.D1 code 1 (.iconst 3) 1 2 := ⟨by decide +kernel, rfl⟩
theorem d_law_2 : Own.D1 code 2 .iand 1 3 := ⟨by decide +kernel, rfl⟩
theorem d_law_3 : Own.D1 code 3 (.istore 5) 2 5 := ⟨by decide +kernel, rfl⟩
theorem d_law_5 : Own.D1 code 5 (.iload_n 1) 1 6 := ⟨by decide +kernel, rfl⟩
theorem d_law_6 : Own.D1 code 6 (.sipush 255) 3 9 := ⟨by decide +kernel, rfl⟩
theorem d_law_9 : Own.D1 code 9 .iand 1 10 := ⟨by decide +kernel, rfl⟩
theorem d_law_10 : Own.D1 code 10 .i2c 1 11 := ⟨by decide +kernel, rfl⟩
theorem d_law_11 : Own.D1 code 11 (.istore 6) 2 13 := ⟨by decide +kernel, rfl⟩
theorem d_law_13 : Own.D1 code 13 (.iload_n 2) 1 14 := ⟨by decide +kernel, rfl⟩
theorem d_law_14 : Own.D1 code 14 (.sipush 255) 3 17 := ⟨by decide +kernel, rfl⟩
theorem d_law_17 : Own.D1 code 17 .iand 1 18 := ⟨by decide +kernel, rfl⟩
theorem d_law_18 : Own.D1 code 18 .i2c 1 19 := ⟨by decide +kernel, rfl⟩
theorem d_law_19 : Own.D1 code 19 (.istore 7) 2 21 := ⟨by decide +kernel, rfl⟩
theorem d_law_21 : Own.D1 code 21 (.iload_n 3) 1 22 := ⟨by decide +kernel, rfl⟩
theorem d_law_22 : Own.D1 code 22 (.sipush 255) 3 25 := ⟨by decide +kernel, rfl⟩
theorem d_law_25 : Own.D1 code 25 .iand 1 26 := ⟨by decide +kernel, rfl⟩
theorem d_law_26 : Own.D1 code 26 .i2c 1 27 := ⟨by decide +kernel, rfl⟩
theorem d_law_27 : Own.D1 code 27 (.istore 8) 2 29 := ⟨by decide +kernel, rfl⟩
theorem d_law_29 : Own.D1 code 29 (.iload 5) 2 31 := ⟨by decide +kernel, rfl⟩
theorem d_law_31 : Own.DB code 31 (.ifCond .ne 23) 3 (23) 34 54 := ⟨by decide +kernel, rfl, by decide, rfl⟩
theorem d_law_34 : Own.D1 code 34 (.new 7) 3 37 := ⟨by decide +kernel, rfl⟩
theorem d_law_37 : Own.D1 code 37 .dup 1 38 := ⟨by decide +kernel, rfl⟩
theorem d_law_38 : Own.D1 code 38 (.iconst 1) 1 39 := ⟨by decide +kernel, rfl⟩
theorem d_law_39 : Own.D1 code 39 (.newarray .char) 2 41 := ⟨by decide +kernel, rfl⟩
theorem d_law_41 : Own.D1 code 41 .dup 1 42 := ⟨by decide +kernel, rfl⟩
theorem d_law_42 : Own.D1 code 42 (.iconst 0) 1 43 := ⟨by decide +kernel, rfl⟩
theorem d_law_43 : Own.D1 code 43 (.bipush 47) 2 45 := ⟨by decide +kernel, rfl⟩
theorem d_law_45 : Own.D1 code 45 .castore 1 46 := ⟨by decide +kernel, rfl⟩
theorem d_law_46 : Own.D1 code 46 (.invokespecial 9) 3 49 := ⟨by decide +kernel, rfl⟩
theorem d_law_49 : Own.D1 code 49 (.astore 9) 2 51 := ⟨by decide +kernel, rfl⟩
theorem d_law_51 : Own.DB code 51 (.goto 102) 3 (102) 54 153 := ⟨by decide +kernel, rfl, by decide, rfl⟩
theorem d_law_54 : Own.D1 code 54 (.iload 5) 2 56 := ⟨by decide +kernel, rfl⟩
theorem d_law_56 : Own.D1 code 56 (.iconst 1) 1 57 := ⟨by decide +kernel, rfl⟩
theorem d_law_57 : Own.DB code 57 (.if_icmp .ne 28) 3 (28) 60 85 := ⟨by decide +kernel, rfl, by decide, rfl⟩
theorem d_law_60 : Own.D1 code 60 (.new 7) 3 63 := ⟨by decide +kernel, rfl⟩
theorem d_law_63 : Own.D1 code 63 .dup 1 64 := ⟨by decide +kernel, rfl⟩
theorem d_law_64 : Own.D1 code 64 (.iconst 2) 1 65 := ⟨by decide +kernel, rfl⟩
theorem d_law_65 : Own.D1 code 65 (.newarray .char) 2 67 := ⟨by decide +kernel, rfl⟩
theorem d_law_67 : Own.D1 code 67 .dup 1 68 := ⟨by decide +kernel, rfl⟩
theorem d_law_68 : Own.D1 code 68 (.iconst 0) 1 69 := ⟨by decide +kernel, rfl⟩
theorem d_law_69 : Own.D1 code 69 (.bipush 47) 2 71 := ⟨by decide +kernel, rfl⟩
theorem d_law_71 : Own.D1 code 71 .castore 1 72 := ⟨by decide +kernel, rfl⟩
theorem d_law_72 : Own.D1 code 72 .dup 1 73 := ⟨by decide +kernel, rfl⟩
theorem d_law_73 : Own.D1 code 73 (.iconst 1) 1 74 := ⟨by decide +kernel, rfl⟩
theorem d_law_74 : Own.D1 code 74 (.iload 6) 2 76 := ⟨by decide +kernel, rfl⟩
theorem d_law_76 : Own.D1 code 76 .castore 1 77 := ⟨by decide +kernel, rfl⟩
theorem d_law_77 : Own.D1 code 77 (.invokespecial 9) 3 80 := ⟨by decide +kernel, rfl⟩
theorem d_law_80 : Own.D1 code 80 (.astore 9) 2 82 := ⟨by decide +kernel, rfl⟩
theorem d_law_82 : Own.DB code 82 (.goto 71) 3 (71) 85 153 := ⟨by decide +kernel, rfl, by decide, rfl⟩
theorem d_law_85 : Own.D1 code 85 (.iload 5) 2 87 := ⟨by decide +kernel, rfl⟩
theorem d_law_87 : Own.D1 code 87 (.iconst 2) 1 88 := ⟨by decide +kernel, rfl⟩
theorem d_law_88 : Own.DB code 88 (.if_icmp .ne 33) 3 (33) 91 121 := ⟨by decide +kernel, rfl, by decide, rfl⟩
theorem d_law_91 : Own.D1 code 91 (.new 7) 3 94 := ⟨by decide +kernel, rfl⟩
theorem d_law_94 : Own.D1 code 94 .dup 1 95 := ⟨by decide +kernel, rfl⟩
theorem d_law_95 : Own.D1 code 95 (.iconst 3) 1 96 := ⟨by decide +kernel, rfl⟩
theorem d_law_96 : Own.D1 code 96 (.newarray .char) 2 98 := ⟨by decide +kernel, rfl⟩
theorem d_law_98 : Own.D1 code 98 .dup 1 99 := ⟨by decide +kernel, rfl⟩
theorem d_law_99 : Own.D1 code 99 (.iconst 0) 1 100 := ⟨by decide +kernel, rfl⟩
theorem d_law_100 : Own.D1 code 100 (.bipush 47) 2 102 := ⟨by decide +kernel, rfl⟩
theorem d_law_102 : Own.D1 code 102 .castore 1 103 := ⟨by decide +kernel, rfl⟩
theorem d_law_103 : Own.D1 code 103 .dup 1 104 := ⟨by decide +kernel, rfl⟩
theorem d_law_104 : Own.D1 code 104 (.iconst 1) 1 105 := ⟨by decide +kernel, rfl⟩
theorem d_law_105 : Own.D1 code 105 (.iload 6) 2 107 := ⟨by decide +kernel, rfl⟩
theorem d_law_107 : Own.D1 code 107 .castore 1 108 := ⟨by decide +kernel, rfl⟩
theorem d_law_108 : Own.D1 code 108 .dup 1 109 := ⟨by decide +kernel, rfl⟩
theorem d_law_109 : Own.D1 code 109 (.iconst 2) 1 110 := ⟨by decide +kernel, rfl⟩
theorem d_law_110 : Own.D1 code 110 (.iload 7) 2 112 := ⟨by decide +kernel, rfl⟩
theorem d_law_112 : Own.D1 code 112 .castore 1 113 := ⟨by decide +kernel, rfl⟩
theorem d_law_113 : Own.D1 code 113 (.invokespecial 9) 3 116 := ⟨by decide +kernel, rfl⟩
theorem d_law_116 : Own.D1 code 116 (.astore 9) 2 118 := ⟨by decide +kernel, rfl⟩
theorem d_law_118 : Own.DB code 118 (.goto 35) 3 (35) 121 153 := ⟨by decide +kernel, rfl, by decide, rfl⟩
theorem d_law_121 : Own.D1 code 121 (.new 7) 3 124 := ⟨by decide +kernel, rfl⟩
theorem d_law_124 : Own.D1 code 124 .dup 1 125 := ⟨by decide +kernel, rfl⟩
theorem d_law_125 : Own.D1 code 125 (.iconst 4) 1 126 := ⟨by decide +kernel, rfl⟩
theorem d_law_126 : Own.D1 code 126 (.newarray .char) 2 128 := ⟨by decide +kernel, rfl⟩
theorem d_law_128 : Own.D1 code 128 .dup 1 129 := ⟨by decide +kernel, rfl⟩
theorem d_law_129 : Own.D1 code 129 (.iconst 0) 1 130 := ⟨by decide +kernel, rfl⟩
theorem d_law_130 : Own.D1 code 130 (.bipush 47) 2 132 := ⟨by decide +kernel, rfl⟩
theorem d_law_132 : Own.D1 code 132 .castore 1 133 := ⟨by decide +kernel, rfl⟩
theorem d_law_133 : Own.D1 code 133 .dup 1 134 := ⟨by decide +kernel, rfl⟩
theorem d_law_134 : Own.D1 code 134 (.iconst 1) 1 135 := ⟨by decide +kernel, rfl⟩
theorem d_law_135 : Own.D1 code 135 (.iload 6) 2 137 := ⟨by decide +kernel, rfl⟩
theorem d_law_137 : Own.D1 code 137 .castore 1 138 := ⟨by decide +kernel, rfl⟩
theorem d_law_138 : Own.D1 code 138 .dup 1 139 := ⟨by decide +kernel, rfl⟩
theorem d_law_139 : Own.D1 code 139 (.iconst 2) 1 140 := ⟨by decide +kernel, rfl⟩
theorem d_law_140 : Own.D1 code 140 (.iload 7) 2 142 := ⟨by decide +kernel, rfl⟩
theorem d_law_142 : Own.D1 code 142 .castore 1 143 := ⟨by decide +kernel, rfl⟩
theorem d_law_143 : Own.D1 code 143 .dup 1 144 := ⟨by decide +kernel, rfl⟩
theorem d_law_144 : Own.D1 code 144 (.iconst 3) 1 145 := ⟨by decide +kernel, rfl⟩
theorem d_law_145 : Own.D1 code 145 (.iload 8) 2 147 := ⟨by decide +kernel, rfl⟩
theorem d_law_147 : Own.D1 code 147 .castore 1 148 := ⟨by decide +kernel, rfl⟩
theorem d_law_148 : Own.D1 code 148 (.invokespecial 9) 3 151 := ⟨by decide +kernel, rfl⟩
theorem d_law_151 : Own.D1 code 151 (.astore 9) 2 153 := ⟨by decide +kernel, rfl⟩
theorem d_law_153 : Own.D1 code 153 (.iload 4) 2 155 := ⟨by decide +kernel, rfl⟩
theorem d_law_155 : Own.D1 code 155 (.sipush 255) 3 158 := ⟨by decide +kernel, rfl⟩
theorem d_law_158 : Own.D1 code 158 .iand 1 159 := ⟨by decide +kernel, rfl⟩
theorem d_law_159 : Own.D1 code 159 .i2c 1 160 := ⟨by decide +kernel, rfl⟩
theorem d_law_160 : Own.D1 code 160 (.invokestatic 12) 3 163 := ⟨by decide +kernel, rfl⟩
theorem d_law_163 : Own.D1 code 163 (.astore 10) 2 165 := ⟨by decide +kernel, rfl⟩
theorem d_law_165 : Own.D1 code 165 (.new 16) 3 168 := ⟨by decide +kernel, rfl⟩
theorem d_law_168 : Own.D1 code 168 .dup 1 169 := ⟨by decide +kernel, rfl⟩
theorem d_law_169 : Own.D1 code 169 (.aload 9) 2 171 := ⟨by decide +kernel, rfl⟩
theorem d_law_171 : Own.D1 code 171 (.aload 10) 2 173 := ⟨by decide +kernel, rfl⟩
theorem d_law_173 : Own.D1 code 173 (.invokespecial 18) 3 176 := ⟨by decide +kernel, rfl⟩
theorem d_law_176 : Own.D1 code 176 (.astore 11) 2 178 := ⟨by decide +kernel, rfl⟩
theorem d_law_178 : Own.D1 code 178 (.aload 11) 2 180 := ⟨by decide +kernel, rfl⟩
theorem d_law_180 : Own.D1 code 180 (.invokestatic 21) 3 183 := ⟨by decide +kernel, rfl⟩
theorem d_law_183 : Own.D1 code 183 (.astore 12) 2 185 := ⟨by decide +kernel, rfl⟩
theorem d_law_185 : Own.D1 code 185 (.aload 12) 2 187 := ⟨by decide +kernel, rfl⟩
theorem d_law_187 : Own.DB code 187 (.ifnull 40) 3 (40) 190 227 := ⟨by decide +kernel, rfl, by decide, rfl⟩
theorem d_law_190 : Own.D1 code 190 (.aload 12) 2 192 := ⟨by decide +kernel, rfl⟩
theorem d_law_192 : Own.D1 code 192 (.invokevirtual 27) 3 195 := ⟨by decide +kernel, rfl⟩
theorem d_law_195 : Own.D1 code 195 (.iload 5) 2 197 := ⟨by decide +kernel, rfl⟩
theorem d_law_197 : Own.D1 code 197 (.iconst 1) 1 198 := ⟨by decide +kernel, rfl⟩
theorem d_law_198 : Own.D1 code 198 .iadd 1 199 := ⟨by decide +kernel, rfl⟩
theorem d_law_199 : Own.DB code 199 (.if_icmp .ne 28) 3 (28) 202 227 := ⟨by decide +kernel, rfl, by decide, rfl⟩
theorem d_law_202 : Own.D1 code 202 (.aload 12) 2 204 := ⟨by decide +kernel, rfl⟩
theorem d_law_204 : Own.D1 code 204 (.aload 9) 2 206 := ⟨by decide +kernel, rfl⟩
theorem d_law_206 : Own.D1 code 206 (.invokevirtual 31) 3 209 := ⟨by decide +kernel, rfl⟩
theorem d_law_209 : Own.DB code 209 (.ifCond .eq 18) 3 (18) 212 227 := ⟨by decide +kernel, rfl, by decide, rfl⟩
theorem d_law_212 : Own.D1 code 212 (.aload 12) 2 214 := ⟨by decide +kernel, rfl⟩
theorem d_law_214 : Own.D1 code 214 (.iconst 0) 1 215 := ⟨by decide +kernel, rfl⟩
theorem d_law_215 : Own.D1 code 215 (.invokevirtual 35) 3 218 := ⟨by decide +kernel, rfl⟩
theorem d_law_218 : Own.D1 code 218 (.bipush 47) 2 220 := ⟨by decide +kernel, rfl⟩
theorem d_law_220 : Own.DB code 220 (.if_icmp .ne 7) 3 (7) 223 227 := ⟨by decide +kernel, rfl, by decide, rfl⟩
theorem d_law_223 : Own.D1 code 223 (.iconst 1) 1 224 := ⟨by decide +kernel, rfl⟩
theorem d_law_224 : Own.DB code 224 (.goto 4) 3 (4) 227 228 := ⟨by decide +kernel, rfl, by decide, rfl⟩
theorem d_law_227 : Own.D1 code 227 (.iconst 0) 1 228 := ⟨by decide +kernel, rfl⟩
theorem d_law_228 : Own.D1 code 228 .ireturn 1 229 := ⟨by decide +kernel, rfl⟩
theorem pn_8 : plainName "com/example/torbund/torbund/ConfigFilePrefixPinLaw" = true := by first | (simp [plainName, overriddenIn]; done) | decide +kernel
theorem np_law : Own.npar "(IIIII)Z" = some 5 := by decide +kernel
set_option maxRecDepth 65536 in
set_option maxHeartbeats 40000000 in
theorem c_law {G : Own.Wd} {a0 : Array Value} (e : Ev G a0) {p0 p1 p2 p3 p4 : Int32} {h : Heap}  : Met G I_law #[(.int p0), (.int p1), (.int p2), (.int p3), (.int p4)] h [] (Rt (fun x h' S' => x = .int 1)) := by
  refine Met.intro (ls := #[.val (.int p0), .val (.int p1), .val (.int p2), .val (.int p3), .val (.int p4), .unset, .unset, .unset, .unset, .unset, .unset, .unset, .unset]) (plainFor_of_name pn_8) (fun m => by first | (simp [entryFrame, mkF, argsToLocals, Value.category, maxLocals]; done) | (simp [entryFrame, mkF, argsToLocals, Value.category]; rfl) | rfl) ?_
  intro K
  refine Ru.iloadN d_law_0 rfl ?_
  refine Ru.iconst (x := 3) d_law_1 rfl ?_
  refine Ru.iand d_law_2 ?_
  obtain ⟨k, hk, ek⟩ := and3 p0
  refine WP.topI (show (p0 &&& (3 : Int32)) = (n32 k) from ek) ?_
  refine Ru.istore d_law_3 (ls' := #[.val (.int p0), .val (.int p1), .val (.int p2), .val (.int p3), .val (.int p4), .val (.int (n32 k)), .unset, .unset, .unset, .unset, .unset, .unset, .unset]) rfl ?_
  refine Ru.iloadN d_law_5 rfl ?_
  refine Ru.sipush (x := 255) d_law_6 rfl ?_
  refine Ru.iand d_law_9 ?_
  refine Ru.i2c d_law_10 ?_
  refine WP.topI (show ((p1 &&& (255 : Int32))).toUInt32.toUInt16.toUInt32.toInt32 = (p1 &&& (255 : Int32)) from (i2c_id (and255_isL _).c)) ?_
  obtain ⟨c1, hc1⟩ : ∃ c, c = p1 &&& (255 : Int32) := ⟨_, rfl⟩
  have q1 : IsL c1 := hc1 ▸ and255_isL _
  refine WP.topI (show (p1 &&& (255 : Int32)) = c1 from hc1.symm) ?_
  refine Ru.istore d_law_11 (ls' := #[.val (.int p0), .val (.int p1), .val (.int p2), .val (.int p3), .val (.int p4), .val (.int (n32 k)), .val (.int c1), .unset, .unset, .unset, .unset, .unset, .unset]) rfl ?_
  refine Ru.iloadN d_law_13 rfl ?_
  refine Ru.sipush (x := 255) d_law_14 rfl ?_
  refine Ru.iand d_law_17 ?_
  refine Ru.i2c d_law_18 ?_
  refine WP.topI (show ((p2 &&& (255 : Int32))).toUInt32.toUInt16.toUInt32.toInt32 = (p2 &&& (255 : Int32)) from (i2c_id (and255_isL _).c)) ?_
  obtain ⟨c2, hc2⟩ : ∃ c, c = p2 &&& (255 : Int32) := ⟨_, rfl⟩
  have q2 : IsL c2 := hc2 ▸ and255_isL _
  refine WP.topI (show (p2 &&& (255 : Int32)) = c2 from hc2.symm) ?_
  refine Ru.istore d_law_19 (ls' := #[.val (.int p0), .val (.int p1), .val (.int p2), .val (.int p3), .val (.int p4), .val (.int (n32 k)), .val (.int c1), .val (.int c2), .unset, .unset, .unset, .unset, .unset]) rfl ?_
  refine Ru.iloadN d_law_21 rfl ?_
  refine Ru.sipush (x := 255) d_law_22 rfl ?_
  refine Ru.iand d_law_25 ?_
  refine Ru.i2c d_law_26 ?_
  refine WP.topI (show ((p3 &&& (255 : Int32))).toUInt32.toUInt16.toUInt32.toInt32 = (p3 &&& (255 : Int32)) from (i2c_id (and255_isL _).c)) ?_
  obtain ⟨c3, hc3⟩ : ∃ c, c = p3 &&& (255 : Int32) := ⟨_, rfl⟩
  have q3 : IsL c3 := hc3 ▸ and255_isL _
  refine WP.topI (show (p3 &&& (255 : Int32)) = c3 from hc3.symm) ?_
  refine Ru.istore d_law_27 (ls' := #[.val (.int p0), .val (.int p1), .val (.int p2), .val (.int p3), .val (.int p4), .val (.int (n32 k)), .val (.int c1), .val (.int c2), .val (.int c3), .unset, .unset, .unset, .unset]) rfl ?_
  refine Ru.iload d_law_29 rfl ?_
  have q0 : IsL 47 := by unfold IsL; decide
  rcases (show k = 0 ∨ k = 1 ∨ k = 2 ∨ k = 3 by omega) with rfl | rfl | rfl | rfl
  · refine Ru.ifN d_law_31 (show (n32 0) = (0 : Int32) from rfl) ?_
    refine Ru.new d_law_34 (e.w 0 rfl) (e.w 1 rfl) (e.w 2 rfl) (Nat.le_of_ble_eq_true rfl) (Nat.le_of_ble_eq_true rfl) ?_
    intro h1 s gs E1 X1 D1
    refine Ru.dup d_law_37 rfl ?_
    refine Ru.iconst (x := 1) d_law_38 rfl ?_
    refine Ru.newarray (cap := 1) d_law_39 (ty := .char) rfl (e.w 3 rfl) rfl (by decide) (Nat.le_of_ble_eq_true rfl) (Nat.le_of_ble_eq_true rfl) (Nat.le_of_ble_eq_true rfl) (Nat.le_of_ble_eq_true rfl) ?_
    intro h2 a ga E2 A
    have ls := xlt X1; have X2 := X1.ext E2; have nsa : s ≠ a := nne (by omega)
    have Fv := Fld.ext E2 (D1 (Or.inr (e.w 29 rfl)) (ty := .array .byte) (by decide)); have Fc := Fld.ext E2 (D1 (Or.inr (e.w 27 rfl)) (ty := .byte) (by decide))
    refine Ru.dup d_law_41 rfl ?_
    refine Ru.iconst (x := 0) d_law_42 rfl ?_
    refine Ru.bipush (x := 47) d_law_43 rfl ?_
    refine Ru.castore d_law_45 (by simp) A (by decide) (Nat.le_of_ble_eq_true rfl) (nar_c q0.c) ?_
    intro g0 K0 A
    have X2 := X2.keep K0; have Fv := Fv.keep K0 (ninS nsa nin0); have Fc := Fc.keep K0 (ninS nsa nin0)
    have A : Ary G.Z _ a .char (([47] : List Int32).map Value.int) := A
    refine Ru.callI0 (J := I_si) (c_si e (cs := ([47] : List Int32)) X2 Fv Fc A (by simp) (by simp) (by simp [q0])) d_law_46 rfl rfl (e.w 4 rfl) (e.w 5 rfl) (e.w 2 rfl) (e.w 6 rfl) (by decide) np_si rfl (a := s) (argsL := [(.ref a)]) (rest := [(.ref s)]) rfl rfl (by simp) (Nat.le_of_ble_eq_true rfl) (Nat.le_of_ble_eq_true rfl) (Nat.le_of_ble_eq_true rfl) (Nat.le_of_ble_eq_true rfl) (WP.rv ?_)
    rintro l1 S9 ⟨rfl, t, gt, Kt, T⟩
    refine Ru.astore d_law_49 rfl (ls' := #[.val (.int p0), .val (.int p1), .val (.int p2), .val (.int p3), .val (.int p4), .val (.int (n32 0)), .val (.int c1), .val (.int c2), .val (.int c3), .val (.ref s), .unset, .unset, .unset]) rfl ?_
    refine Ru.goto d_law_51 ?_
    refine Ru.iload d_law_153 rfl ?_
    refine Ru.sipush (x := 255) d_law_155 rfl ?_
    refine Ru.iand d_law_158 ?_
    refine Ru.i2c d_law_159 ?_
    refine WP.topI (show ((p4 &&& (255 : Int32))).toUInt32.toUInt16.toUInt32.toInt32 = (p4 &&& (255 : Int32)) from (i2c_id (and255_isL _).c)) ?_
    refine Ru.callS0 (J := I_vof) (c_vof e (and255_isL p4)) d_law_160 (e.w 30 rfl) (e.w 31 rfl) (e.w 2 rfl) (e.w 32 rfl) (by decide) np_vof rfl (argsL := [(.int (p4 &&& (255 : Int32)))]) (rest := []) rfl rfl (fun _ q => nomatch q) (Nat.le_of_ble_eq_true rfl) (Nat.le_of_ble_eq_true rfl) (Nat.le_of_ble_eq_true rfl) (Nat.le_of_ble_eq_true rfl) (WP.rt ?_)
    rintro _ l2 S10 ⟨v, tv, rfl, gv, rfl, K10, T10⟩
    have T := T.keep K10 nin0 nin0
    refine Ru.astore d_law_163 rfl (ls' := #[.val (.int p0), .val (.int p1), .val (.int p2), .val (.int p3), .val (.int p4), .val (.int (n32 0)), .val (.int c1), .val (.int c2), .val (.int c3), .val (.ref s), .val (.ref v), .unset, .unset]) rfl ?_
    have lt := T.lt; have lt1 := xlt T.1; have lt2 := alt T.2.2.2.1
    refine Ru.new d_law_165 (e.w 44 rfl) (e.w 45 rfl) (e.w 46 rfl) (Nat.le_of_ble_eq_true rfl) (Nat.le_of_ble_eq_true rfl) ?_
    intro l3 b gb E11 X11 D11
    have T := T.keep (keepE E11) nin0 nin0; have nsb : s ≠ b := nne (by omega); have ntb : t ≠ b := nne (by omega)
    refine Ru.dup d_law_168 rfl ?_
    refine Ru.aload d_law_169 rfl rfl ?_
    refine Ru.aload d_law_171 rfl rfl ?_
    refine Ru.callI0 (J := I_sinit) (c_sinit e X11 (D11 (Or.inr (e.w 57 rfl)) (ty := .object "java/lang/String") (by decide)) (D11 (Or.inr (e.w 59 rfl)) (ty := .object "java/lang/String") (by decide))) d_law_173 rfl rfl (e.w 47 rfl) (e.w 48 rfl) (e.w 46 rfl) (e.w 49 rfl) (by decide) np_sinit rfl (a := b) (argsL := [(.ref s), (.ref v)]) (rest := [(.ref b)]) rfl rfl (by simp) (Nat.le_of_ble_eq_true rfl) (Nat.le_of_ble_eq_true rfl) (Nat.le_of_ble_eq_true rfl) (Nat.le_of_ble_eq_true rfl) (WP.rv ?_)
    rintro l4 S12 ⟨rfl, K12, X12, F12⟩
    have T := T.keep K12 (ninS nsb nin0) (ninS ntb nin0)
    refine Ru.astore d_law_176 rfl (ls' := #[.val (.int p0), .val (.int p1), .val (.int p2), .val (.int p3), .val (.int p4), .val (.int (n32 0)), .val (.int c1), .val (.int c2), .val (.int c3), .val (.ref s), .val (.ref v), .val (.ref b), .unset]) rfl ?_
    refine Ru.aload d_law_178 rfl rfl ?_
    refine Ru.callS0 (J := I_pref) (c_pref e X12 F12 T rfl) d_law_180 (e.w 60 rfl) (e.w 61 rfl) (e.w 62 rfl) (e.w 63 rfl) (by decide) np_pref rfl (argsL := [(.ref b)]) (rest := []) rfl rfl (fun _ q => nomatch q) (Nat.le_of_ble_eq_true rfl) (Nat.le_of_ble_eq_true rfl) (Nat.le_of_ble_eq_true rfl) (Nat.le_of_ble_eq_true rfl) (WP.rt ?_)
    rintro _ l5 S13 ⟨rfl, rfl, K13⟩
    have T := T.keep K13 nin0 nin0
    refine Ru.astore d_law_183 rfl (ls' := #[.val (.int p0), .val (.int p1), .val (.int p2), .val (.int p3), .val (.int p4), .val (.int (n32 0)), .val (.int c1), .val (.int c2), .val (.int c3), .val (.ref s), .val (.ref v), .val (.ref b), .val (.ref s)]) rfl ?_
    refine Ru.aload d_law_185 rfl rfl ?_
    refine Ru.ifnullN d_law_187 ?_
    refine Ru.aload d_law_190 rfl rfl ?_
    refine Ru.callV0 (J := I_slen) (c_slen e T) d_law_192 T.1 (e.w 96 rfl) (e.w 83 rfl) (nf_sel (e.w 85 rfl)) (e.w 85 rfl) (e.w 84 rfl) (e.w 2 rfl) (e.w 86 rfl) (by decide) np_slen rfl (a := s) (argsL := []) (rest := []) rfl rfl (fun _ q => nomatch q) (Nat.le_of_ble_eq_true rfl) (Nat.le_of_ble_eq_true rfl) (Nat.le_of_ble_eq_true rfl) (Nat.le_of_ble_eq_true rfl) (WP.rt ?_)
    rintro _ l6 S14 ⟨rfl, rfl, rfl⟩
    refine Ru.iload d_law_195 rfl ?_
    refine Ru.iconst (x := 1) d_law_197 rfl ?_
    refine Ru.iadd d_law_198 ?_
    refine Ru.icmpN d_law_199 (show (n32 1) = ((n32 0) + (1 : Int32)) from rfl) ?_
    refine Ru.aload d_law_202 rfl rfl ?_
    refine Ru.aload d_law_204 rfl rfl ?_
    refine Ru.callV0 (J := I_eqs) (c_eqs e) d_law_206 T.1 (e.w 97 rfl) (e.w 98 rfl) (nf_sel (e.w 100 rfl)) (e.w 100 rfl) (e.w 99 rfl) (e.w 2 rfl) (e.w 101 rfl) (by decide) np_eqs rfl (a := s) (argsL := [(.ref s)]) (rest := []) rfl rfl (fun _ q => nomatch q) (Nat.le_of_ble_eq_true rfl) (Nat.le_of_ble_eq_true rfl) (Nat.le_of_ble_eq_true rfl) (Nat.le_of_ble_eq_true rfl) (WP.rt ?_)
    rintro _ l6 S15 ⟨rfl, rfl, rfl⟩
    refine Ru.ifN d_law_209 (show ¬ (1 : Int32) = (0 : Int32) from (by decide)) ?_
    refine Ru.aload d_law_212 rfl rfl ?_
    refine Ru.iconst (x := 0) d_law_214 rfl ?_
    refine WP.topI (show (0 : Int32) = (n32 0) from rfl) ?_
    refine Ru.callV0 (J := I_schr) (c_schr e T (c := 47) rfl) d_law_215 T.1 (e.w 102 rfl) (e.w 103 rfl) (nf_sel (e.w 105 rfl)) (e.w 105 rfl) (e.w 104 rfl) (e.w 2 rfl) (e.w 106 rfl) (by decide) np_schr rfl (a := s) (argsL := [(.int (n32 0))]) (rest := []) rfl rfl (fun _ q => nomatch q) (Nat.le_of_ble_eq_true rfl) (Nat.le_of_ble_eq_true rfl) (Nat.le_of_ble_eq_true rfl) (Nat.le_of_ble_eq_true rfl) (WP.rt ?_)
    rintro _ _ S16 ⟨rfl, rfl, rfl⟩
    refine Ru.bipush (x := 47) d_law_218 rfl ?_
    refine Ru.icmpN d_law_220 (show (47 : Int32) = (47 : Int32) from rfl) ?_
    refine Ru.iconst (x := 1) d_law_223 rfl ?_
    refine Ru.goto d_law_224 ?_
    exact Ru.ireturnN (t := .boolean) (x' := (1 : Int32)) d_law_228 rfl (by simp) rfl [] (fun _ q => nomatch q) (Nat.le_of_ble_eq_true rfl) (Nat.le_of_ble_eq_true rfl) ⟨_, rfl, rfl⟩
  · refine Ru.ifY d_law_31 (show ¬ (n32 1) = (0 : Int32) from (by decide)) ?_
    refine Ru.iload d_law_54 rfl ?_
    refine Ru.iconst (x := 1) d_law_56 rfl ?_
    refine Ru.icmpN d_law_57 (show (n32 1) = (1 : Int32) from rfl) ?_
    refine Ru.new d_law_60 (e.w 0 rfl) (e.w 1 rfl) (e.w 2 rfl) (Nat.le_of_ble_eq_true rfl) (Nat.le_of_ble_eq_true rfl) ?_
    intro h1 s gs E1 X1 D1
    refine Ru.dup d_law_63 rfl ?_
    refine Ru.iconst (x := 2) d_law_64 rfl ?_
    refine Ru.newarray (cap := 2) d_law_65 (ty := .char) rfl (e.w 3 rfl) rfl (by decide) (Nat.le_of_ble_eq_true rfl) (Nat.le_of_ble_eq_true rfl) (Nat.le_of_ble_eq_true rfl) (Nat.le_of_ble_eq_true rfl) ?_
    intro h2 a ga E2 A
    have ls := xlt X1; have X2 := X1.ext E2; have nsa : s ≠ a := nne (by omega)
    have Fv := Fld.ext E2 (D1 (Or.inr (e.w 29 rfl)) (ty := .array .byte) (by decide)); have Fc := Fld.ext E2 (D1 (Or.inr (e.w 27 rfl)) (ty := .byte) (by decide))
    refine Ru.dup d_law_67 rfl ?_
    refine Ru.iconst (x := 0) d_law_68 rfl ?_
    refine Ru.bipush (x := 47) d_law_69 rfl ?_
    refine Ru.castore d_law_71 (by simp) A (by decide) (Nat.le_of_ble_eq_true rfl) (nar_c q0.c) ?_
    intro g0 K0 A
    have X2 := X2.keep K0; have Fv := Fv.keep K0 (ninS nsa nin0); have Fc := Fc.keep K0 (ninS nsa nin0)
    refine Ru.dup d_law_72 rfl ?_
    refine Ru.iconst (x := 1) d_law_73 rfl ?_
    refine Ru.iload d_law_74 rfl ?_
    refine Ru.castore d_law_76 (by simp) A (by decide) (Nat.le_of_ble_eq_true rfl) (nar_c q1.c) ?_
    intro g1 K1 A
    have X2 := X2.keep K1; have Fv := Fv.keep K1 (ninS nsa nin0); have Fc := Fc.keep K1 (ninS nsa nin0)
    have A : Ary G.Z _ a .char (([47, c1] : List Int32).map Value.int) := A
    refine Ru.callI0 (J := I_si) (c_si e (cs := ([47, c1] : List Int32)) X2 Fv Fc A (by simp) (by simp) (by simp [q0, q1])) d_law_77 rfl rfl (e.w 4 rfl) (e.w 5 rfl) (e.w 2 rfl) (e.w 6 rfl) (by decide) np_si rfl (a := s) (argsL := [(.ref a)]) (rest := [(.ref s)]) rfl rfl (by simp) (Nat.le_of_ble_eq_true rfl) (Nat.le_of_ble_eq_true rfl) (Nat.le_of_ble_eq_true rfl) (Nat.le_of_ble_eq_true rfl) (WP.rv ?_)
    rintro l1 S9 ⟨rfl, t, gt, Kt, T⟩
    refine Ru.astore d_law_80 rfl (ls' := #[.val (.int p0), .val (.int p1), .val (.int p2), .val (.int p3), .val (.int p4), .val (.int (n32 1)), .val (.int c1), .val (.int c2), .val (.int c3), .val (.ref s), .unset, .unset, .unset]) rfl ?_
    refine Ru.goto d_law_82 ?_
    refine Ru.iload d_law_153 rfl ?_
    refine Ru.sipush (x := 255) d_law_155 rfl ?_
    refine Ru.iand d_law_158 ?_
    refine Ru.i2c d_law_159 ?_
    refine WP.topI (show ((p4 &&& (255 : Int32))).toUInt32.toUInt16.toUInt32.toInt32 = (p4 &&& (255 : Int32)) from (i2c_id (and255_isL _).c)) ?_
    refine Ru.callS0 (J := I_vof) (c_vof e (and255_isL p4)) d_law_160 (e.w 30 rfl) (e.w 31 rfl) (e.w 2 rfl) (e.w 32 rfl) (by decide) np_vof rfl (argsL := [(.int (p4 &&& (255 : Int32)))]) (rest := []) rfl rfl (fun _ q => nomatch q) (Nat.le_of_ble_eq_true rfl) (Nat.le_of_ble_eq_true rfl) (Nat.le_of_ble_eq_true rfl) (Nat.le_of_ble_eq_true rfl) (WP.rt ?_)
    rintro _ l2 S10 ⟨v, tv, rfl, gv, rfl, K10, T10⟩
    have T := T.keep K10 nin0 nin0
    refine Ru.astore d_law_163 rfl (ls' := #[.val (.int p0), .val (.int p1), .val (.int p2), .val (.int p3), .val (.int p4), .val (.int (n32 1)), .val (.int c1), .val (.int c2), .val (.int c3), .val (.ref s), .val (.ref v), .unset, .unset]) rfl ?_
    have lt := T.lt; have lt1 := xlt T.1; have lt2 := alt T.2.2.2.1
    refine Ru.new d_law_165 (e.w 44 rfl) (e.w 45 rfl) (e.w 46 rfl) (Nat.le_of_ble_eq_true rfl) (Nat.le_of_ble_eq_true rfl) ?_
    intro l3 b gb E11 X11 D11
    have T := T.keep (keepE E11) nin0 nin0; have nsb : s ≠ b := nne (by omega); have ntb : t ≠ b := nne (by omega)
    refine Ru.dup d_law_168 rfl ?_
    refine Ru.aload d_law_169 rfl rfl ?_
    refine Ru.aload d_law_171 rfl rfl ?_
    refine Ru.callI0 (J := I_sinit) (c_sinit e X11 (D11 (Or.inr (e.w 57 rfl)) (ty := .object "java/lang/String") (by decide)) (D11 (Or.inr (e.w 59 rfl)) (ty := .object "java/lang/String") (by decide))) d_law_173 rfl rfl (e.w 47 rfl) (e.w 48 rfl) (e.w 46 rfl) (e.w 49 rfl) (by decide) np_sinit rfl (a := b) (argsL := [(.ref s), (.ref v)]) (rest := [(.ref b)]) rfl rfl (by simp) (Nat.le_of_ble_eq_true rfl) (Nat.le_of_ble_eq_true rfl) (Nat.le_of_ble_eq_true rfl) (Nat.le_of_ble_eq_true rfl) (WP.rv ?_)
    rintro l4 S12 ⟨rfl, K12, X12, F12⟩
    have T := T.keep K12 (ninS nsb nin0) (ninS ntb nin0)
    refine Ru.astore d_law_176 rfl (ls' := #[.val (.int p0), .val (.int p1), .val (.int p2), .val (.int p3), .val (.int p4), .val (.int (n32 1)), .val (.int c1), .val (.int c2), .val (.int c3), .val (.ref s), .val (.ref v), .val (.ref b), .unset]) rfl ?_
    refine Ru.aload d_law_178 rfl rfl ?_
    refine Ru.callS0 (J := I_pref) (c_pref e X12 F12 T rfl) d_law_180 (e.w 60 rfl) (e.w 61 rfl) (e.w 62 rfl) (e.w 63 rfl) (by decide) np_pref rfl (argsL := [(.ref b)]) (rest := []) rfl rfl (fun _ q => nomatch q) (Nat.le_of_ble_eq_true rfl) (Nat.le_of_ble_eq_true rfl) (Nat.le_of_ble_eq_true rfl) (Nat.le_of_ble_eq_true rfl) (WP.rt ?_)
    rintro _ l5 S13 ⟨rfl, rfl, K13⟩
    have T := T.keep K13 nin0 nin0
    refine Ru.astore d_law_183 rfl (ls' := #[.val (.int p0), .val (.int p1), .val (.int p2), .val (.int p3), .val (.int p4), .val (.int (n32 1)), .val (.int c1), .val (.int c2), .val (.int c3), .val (.ref s), .val (.ref v), .val (.ref b), .val (.ref s)]) rfl ?_
    refine Ru.aload d_law_185 rfl rfl ?_
    refine Ru.ifnullN d_law_187 ?_
    refine Ru.aload d_law_190 rfl rfl ?_
    refine Ru.callV0 (J := I_slen) (c_slen e T) d_law_192 T.1 (e.w 96 rfl) (e.w 83 rfl) (nf_sel (e.w 85 rfl)) (e.w 85 rfl) (e.w 84 rfl) (e.w 2 rfl) (e.w 86 rfl) (by decide) np_slen rfl (a := s) (argsL := []) (rest := []) rfl rfl (fun _ q => nomatch q) (Nat.le_of_ble_eq_true rfl) (Nat.le_of_ble_eq_true rfl) (Nat.le_of_ble_eq_true rfl) (Nat.le_of_ble_eq_true rfl) (WP.rt ?_)
    rintro _ l6 S14 ⟨rfl, rfl, rfl⟩
    refine Ru.iload d_law_195 rfl ?_
    refine Ru.iconst (x := 1) d_law_197 rfl ?_
    refine Ru.iadd d_law_198 ?_
    refine Ru.icmpN d_law_199 (show (n32 2) = ((n32 1) + (1 : Int32)) from rfl) ?_
    refine Ru.aload d_law_202 rfl rfl ?_
    refine Ru.aload d_law_204 rfl rfl ?_
    refine Ru.callV0 (J := I_eqs) (c_eqs e) d_law_206 T.1 (e.w 97 rfl) (e.w 98 rfl) (nf_sel (e.w 100 rfl)) (e.w 100 rfl) (e.w 99 rfl) (e.w 2 rfl) (e.w 101 rfl) (by decide) np_eqs rfl (a := s) (argsL := [(.ref s)]) (rest := []) rfl rfl (fun _ q => nomatch q) (Nat.le_of_ble_eq_true rfl) (Nat.le_of_ble_eq_true rfl) (Nat.le_of_ble_eq_true rfl) (Nat.le_of_ble_eq_true rfl) (WP.rt ?_)
    rintro _ l6 S15 ⟨rfl, rfl, rfl⟩
    refine Ru.ifN d_law_209 (show ¬ (1 : Int32) = (0 : Int32) from (by decide)) ?_
    refine Ru.aload d_law_212 rfl rfl ?_
    refine Ru.iconst (x := 0) d_law_214 rfl ?_
    refine WP.topI (show (0 : Int32) = (n32 0) from rfl) ?_
    refine Ru.callV0 (J := I_schr) (c_schr e T (c := 47) rfl) d_law_215 T.1 (e.w 102 rfl) (e.w 103 rfl) (nf_sel (e.w 105 rfl)) (e.w 105 rfl) (e.w 104 rfl) (e.w 2 rfl) (e.w 106 rfl) (by decide) np_schr rfl (a := s) (argsL := [(.int (n32 0))]) (rest := []) rfl rfl (fun _ q => nomatch q) (Nat.le_of_ble_eq_true rfl) (Nat.le_of_ble_eq_true rfl) (Nat.le_of_ble_eq_true rfl) (Nat.le_of_ble_eq_true rfl) (WP.rt ?_)
    rintro _ _ S16 ⟨rfl, rfl, rfl⟩
    refine Ru.bipush (x := 47) d_law_218 rfl ?_
    refine Ru.icmpN d_law_220 (show (47 : Int32) = (47 : Int32) from rfl) ?_
    refine Ru.iconst (x := 1) d_law_223 rfl ?_
    refine Ru.goto d_law_224 ?_
    exact Ru.ireturnN (t := .boolean) (x' := (1 : Int32)) d_law_228 rfl (by simp) rfl [] (fun _ q => nomatch q) (Nat.le_of_ble_eq_true rfl) (Nat.le_of_ble_eq_true rfl) ⟨_, rfl, rfl⟩
  · refine Ru.ifY d_law_31 (show ¬ (n32 2) = (0 : Int32) from (by decide)) ?_
    refine Ru.iload d_law_54 rfl ?_
    refine Ru.iconst (x := 1) d_law_56 rfl ?_
    refine Ru.icmpY d_law_57 (show ¬ (n32 2) = (1 : Int32) from (by decide)) ?_
    refine Ru.iload d_law_85 rfl ?_
    refine Ru.iconst (x := 2) d_law_87 rfl ?_
    refine Ru.icmpN d_law_88 (show (n32 2) = (2 : Int32) from rfl) ?_
    refine Ru.new d_law_91 (e.w 0 rfl) (e.w 1 rfl) (e.w 2 rfl) (Nat.le_of_ble_eq_true rfl) (Nat.le_of_ble_eq_true rfl) ?_
    intro h1 s gs E1 X1 D1
    refine Ru.dup d_law_94 rfl ?_
    refine Ru.iconst (x := 3) d_law_95 rfl ?_
    refine Ru.newarray (cap := 3) d_law_96 (ty := .char) rfl (e.w 3 rfl) rfl (by decide) (Nat.le_of_ble_eq_true rfl) (Nat.le_of_ble_eq_true rfl) (Nat.le_of_ble_eq_true rfl) (Nat.le_of_ble_eq_true rfl) ?_
    intro h2 a ga E2 A
    have ls := xlt X1; have X2 := X1.ext E2; have nsa : s ≠ a := nne (by omega)
    have Fv := Fld.ext E2 (D1 (Or.inr (e.w 29 rfl)) (ty := .array .byte) (by decide)); have Fc := Fld.ext E2 (D1 (Or.inr (e.w 27 rfl)) (ty := .byte) (by decide))
    refine Ru.dup d_law_98 rfl ?_
    refine Ru.iconst (x := 0) d_law_99 rfl ?_
    refine Ru.bipush (x := 47) d_law_100 rfl ?_
    refine Ru.castore d_law_102 (by simp) A (by decide) (Nat.le_of_ble_eq_true rfl) (nar_c q0.c) ?_
    intro g0 K0 A
    have X2 := X2.keep K0; have Fv := Fv.keep K0 (ninS nsa nin0); have Fc := Fc.keep K0 (ninS nsa nin0)
    refine Ru.dup d_law_103 rfl ?_
    refine Ru.iconst (x := 1) d_law_104 rfl ?_
    refine Ru.iload d_law_105 rfl ?_
    refine Ru.castore d_law_107 (by simp) A (by decide) (Nat.le_of_ble_eq_true rfl) (nar_c q1.c) ?_
    intro g1 K1 A
    have X2 := X2.keep K1; have Fv := Fv.keep K1 (ninS nsa nin0); have Fc := Fc.keep K1 (ninS nsa nin0)
    refine Ru.dup d_law_108 rfl ?_
    refine Ru.iconst (x := 2) d_law_109 rfl ?_
    refine Ru.iload d_law_110 rfl ?_
    refine Ru.castore d_law_112 (by simp) A (by decide) (Nat.le_of_ble_eq_true rfl) (nar_c q2.c) ?_
    intro g2 K2 A
    have X2 := X2.keep K2; have Fv := Fv.keep K2 (ninS nsa nin0); have Fc := Fc.keep K2 (ninS nsa nin0)
    have A : Ary G.Z _ a .char (([47, c1, c2] : List Int32).map Value.int) := A
    refine Ru.callI0 (J := I_si) (c_si e (cs := ([47, c1, c2] : List Int32)) X2 Fv Fc A (by simp) (by simp) (by simp [q0, q1, q2])) d_law_113 rfl rfl (e.w 4 rfl) (e.w 5 rfl) (e.w 2 rfl) (e.w 6 rfl) (by decide) np_si rfl (a := s) (argsL := [(.ref a)]) (rest := [(.ref s)]) rfl rfl (by simp) (Nat.le_of_ble_eq_true rfl) (Nat.le_of_ble_eq_true rfl) (Nat.le_of_ble_eq_true rfl) (Nat.le_of_ble_eq_true rfl) (WP.rv ?_)
    rintro l1 S9 ⟨rfl, t, gt, Kt, T⟩
    refine Ru.astore d_law_116 rfl (ls' := #[.val (.int p0), .val (.int p1), .val (.int p2), .val (.int p3), .val (.int p4), .val (.int (n32 2)), .val (.int c1), .val (.int c2), .val (.int c3), .val (.ref s), .unset, .unset, .unset]) rfl ?_
    refine Ru.goto d_law_118 ?_
    refine Ru.iload d_law_153 rfl ?_
    refine Ru.sipush (x := 255) d_law_155 rfl ?_
    refine Ru.iand d_law_158 ?_
    refine Ru.i2c d_law_159 ?_
    refine WP.topI (show ((p4 &&& (255 : Int32))).toUInt32.toUInt16.toUInt32.toInt32 = (p4 &&& (255 : Int32)) from (i2c_id (and255_isL _).c)) ?_
    refine Ru.callS0 (J := I_vof) (c_vof e (and255_isL p4)) d_law_160 (e.w 30 rfl) (e.w 31 rfl) (e.w 2 rfl) (e.w 32 rfl) (by decide) np_vof rfl (argsL := [(.int (p4 &&& (255 : Int32)))]) (rest := []) rfl rfl (fun _ q => nomatch q) (Nat.le_of_ble_eq_true rfl) (Nat.le_of_ble_eq_true rfl) (Nat.le_of_ble_eq_true rfl) (Nat.le_of_ble_eq_true rfl) (WP.rt ?_)
    rintro _ l2 S10 ⟨v, tv, rfl, gv, rfl, K10, T10⟩
    have T := T.keep K10 nin0 nin0
    refine Ru.astore d_law_163 rfl (ls' := #[.val (.int p0), .val (.int p1), .val (.int p2), .val (.int p3), .val (.int p4), .val (.int (n32 2)), .val (.int c1), .val (.int c2), .val (.int c3), .val (.ref s), .val (.ref v), .unset, .unset]) rfl ?_
    have lt := T.lt; have lt1 := xlt T.1; have lt2 := alt T.2.2.2.1
    refine Ru.new d_law_165 (e.w 44 rfl) (e.w 45 rfl) (e.w 46 rfl) (Nat.le_of_ble_eq_true rfl) (Nat.le_of_ble_eq_true rfl) ?_
    intro l3 b gb E11 X11 D11
    have T := T.keep (keepE E11) nin0 nin0; have nsb : s ≠ b := nne (by omega); have ntb : t ≠ b := nne (by omega)
    refine Ru.dup d_law_168 rfl ?_
    refine Ru.aload d_law_169 rfl rfl ?_
    refine Ru.aload d_law_171 rfl rfl ?_
    refine Ru.callI0 (J := I_sinit) (c_sinit e X11 (D11 (Or.inr (e.w 57 rfl)) (ty := .object "java/lang/String") (by decide)) (D11 (Or.inr (e.w 59 rfl)) (ty := .object "java/lang/String") (by decide))) d_law_173 rfl rfl (e.w 47 rfl) (e.w 48 rfl) (e.w 46 rfl) (e.w 49 rfl) (by decide) np_sinit rfl (a := b) (argsL := [(.ref s), (.ref v)]) (rest := [(.ref b)]) rfl rfl (by simp) (Nat.le_of_ble_eq_true rfl) (Nat.le_of_ble_eq_true rfl) (Nat.le_of_ble_eq_true rfl) (Nat.le_of_ble_eq_true rfl) (WP.rv ?_)
    rintro l4 S12 ⟨rfl, K12, X12, F12⟩
    have T := T.keep K12 (ninS nsb nin0) (ninS ntb nin0)
    refine Ru.astore d_law_176 rfl (ls' := #[.val (.int p0), .val (.int p1), .val (.int p2), .val (.int p3), .val (.int p4), .val (.int (n32 2)), .val (.int c1), .val (.int c2), .val (.int c3), .val (.ref s), .val (.ref v), .val (.ref b), .unset]) rfl ?_
    refine Ru.aload d_law_178 rfl rfl ?_
    refine Ru.callS0 (J := I_pref) (c_pref e X12 F12 T rfl) d_law_180 (e.w 60 rfl) (e.w 61 rfl) (e.w 62 rfl) (e.w 63 rfl) (by decide) np_pref rfl (argsL := [(.ref b)]) (rest := []) rfl rfl (fun _ q => nomatch q) (Nat.le_of_ble_eq_true rfl) (Nat.le_of_ble_eq_true rfl) (Nat.le_of_ble_eq_true rfl) (Nat.le_of_ble_eq_true rfl) (WP.rt ?_)
    rintro _ l5 S13 ⟨rfl, rfl, K13⟩
    have T := T.keep K13 nin0 nin0
    refine Ru.astore d_law_183 rfl (ls' := #[.val (.int p0), .val (.int p1), .val (.int p2), .val (.int p3), .val (.int p4), .val (.int (n32 2)), .val (.int c1), .val (.int c2), .val (.int c3), .val (.ref s), .val (.ref v), .val (.ref b), .val (.ref s)]) rfl ?_
    refine Ru.aload d_law_185 rfl rfl ?_
    refine Ru.ifnullN d_law_187 ?_
    refine Ru.aload d_law_190 rfl rfl ?_
    refine Ru.callV0 (J := I_slen) (c_slen e T) d_law_192 T.1 (e.w 96 rfl) (e.w 83 rfl) (nf_sel (e.w 85 rfl)) (e.w 85 rfl) (e.w 84 rfl) (e.w 2 rfl) (e.w 86 rfl) (by decide) np_slen rfl (a := s) (argsL := []) (rest := []) rfl rfl (fun _ q => nomatch q) (Nat.le_of_ble_eq_true rfl) (Nat.le_of_ble_eq_true rfl) (Nat.le_of_ble_eq_true rfl) (Nat.le_of_ble_eq_true rfl) (WP.rt ?_)
    rintro _ l6 S14 ⟨rfl, rfl, rfl⟩
    refine Ru.iload d_law_195 rfl ?_
    refine Ru.iconst (x := 1) d_law_197 rfl ?_
    refine Ru.iadd d_law_198 ?_
    refine Ru.icmpN d_law_199 (show (n32 3) = ((n32 2) + (1 : Int32)) from rfl) ?_
    refine Ru.aload d_law_202 rfl rfl ?_
    refine Ru.aload d_law_204 rfl rfl ?_
    refine Ru.callV0 (J := I_eqs) (c_eqs e) d_law_206 T.1 (e.w 97 rfl) (e.w 98 rfl) (nf_sel (e.w 100 rfl)) (e.w 100 rfl) (e.w 99 rfl) (e.w 2 rfl) (e.w 101 rfl) (by decide) np_eqs rfl (a := s) (argsL := [(.ref s)]) (rest := []) rfl rfl (fun _ q => nomatch q) (Nat.le_of_ble_eq_true rfl) (Nat.le_of_ble_eq_true rfl) (Nat.le_of_ble_eq_true rfl) (Nat.le_of_ble_eq_true rfl) (WP.rt ?_)
    rintro _ l6 S15 ⟨rfl, rfl, rfl⟩
    refine Ru.ifN d_law_209 (show ¬ (1 : Int32) = (0 : Int32) from (by decide)) ?_
    refine Ru.aload d_law_212 rfl rfl ?_
    refine Ru.iconst (x := 0) d_law_214 rfl ?_
    refine WP.topI (show (0 : Int32) = (n32 0) from rfl) ?_
    refine Ru.callV0 (J := I_schr) (c_schr e T (c := 47) rfl) d_law_215 T.1 (e.w 102 rfl) (e.w 103 rfl) (nf_sel (e.w 105 rfl)) (e.w 105 rfl) (e.w 104 rfl) (e.w 2 rfl) (e.w 106 rfl) (by decide) np_schr rfl (a := s) (argsL := [(.int (n32 0))]) (rest := []) rfl rfl (fun _ q => nomatch q) (Nat.le_of_ble_eq_true rfl) (Nat.le_of_ble_eq_true rfl) (Nat.le_of_ble_eq_true rfl) (Nat.le_of_ble_eq_true rfl) (WP.rt ?_)
    rintro _ _ S16 ⟨rfl, rfl, rfl⟩
    refine Ru.bipush (x := 47) d_law_218 rfl ?_
    refine Ru.icmpN d_law_220 (show (47 : Int32) = (47 : Int32) from rfl) ?_
    refine Ru.iconst (x := 1) d_law_223 rfl ?_
    refine Ru.goto d_law_224 ?_
    exact Ru.ireturnN (t := .boolean) (x' := (1 : Int32)) d_law_228 rfl (by simp) rfl [] (fun _ q => nomatch q) (Nat.le_of_ble_eq_true rfl) (Nat.le_of_ble_eq_true rfl) ⟨_, rfl, rfl⟩
  · refine Ru.ifY d_law_31 (show ¬ (n32 3) = (0 : Int32) from (by decide)) ?_
    refine Ru.iload d_law_54 rfl ?_
    refine Ru.iconst (x := 1) d_law_56 rfl ?_
    refine Ru.icmpY d_law_57 (show ¬ (n32 3) = (1 : Int32) from (by decide)) ?_
    refine Ru.iload d_law_85 rfl ?_
    refine Ru.iconst (x := 2) d_law_87 rfl ?_
    refine Ru.icmpY d_law_88 (show ¬ (n32 3) = (2 : Int32) from (by decide)) ?_
    refine Ru.new d_law_121 (e.w 0 rfl) (e.w 1 rfl) (e.w 2 rfl) (Nat.le_of_ble_eq_true rfl) (Nat.le_of_ble_eq_true rfl) ?_
    intro h1 s gs E1 X1 D1
    refine Ru.dup d_law_124 rfl ?_
    refine Ru.iconst (x := 4) d_law_125 rfl ?_
    refine Ru.newarray (cap := 4) d_law_126 (ty := .char) rfl (e.w 3 rfl) rfl (by decide) (Nat.le_of_ble_eq_true rfl) (Nat.le_of_ble_eq_true rfl) (Nat.le_of_ble_eq_true rfl) (Nat.le_of_ble_eq_true rfl) ?_
    intro h2 a ga E2 A
    have ls := xlt X1; have X2 := X1.ext E2; have nsa : s ≠ a := nne (by omega)
    have Fv := Fld.ext E2 (D1 (Or.inr (e.w 29 rfl)) (ty := .array .byte) (by decide)); have Fc := Fld.ext E2 (D1 (Or.inr (e.w 27 rfl)) (ty := .byte) (by decide))
    refine Ru.dup d_law_128 rfl ?_
    refine Ru.iconst (x := 0) d_law_129 rfl ?_
    refine Ru.bipush (x := 47) d_law_130 rfl ?_
    refine Ru.castore d_law_132 (by simp) A (by decide) (Nat.le_of_ble_eq_true rfl) (nar_c q0.c) ?_
    intro g0 K0 A
    have X2 := X2.keep K0; have Fv := Fv.keep K0 (ninS nsa nin0); have Fc := Fc.keep K0 (ninS nsa nin0)
    refine Ru.dup d_law_133 rfl ?_
    refine Ru.iconst (x := 1) d_law_134 rfl ?_
    refine Ru.iload d_law_135 rfl ?_
    refine Ru.castore d_law_137 (by simp) A (by decide) (Nat.le_of_ble_eq_true rfl) (nar_c q1.c) ?_
    intro g1 K1 A
    have X2 := X2.keep K1; have Fv := Fv.keep K1 (ninS nsa nin0); have Fc := Fc.keep K1 (ninS nsa nin0)
    refine Ru.dup d_law_138 rfl ?_
    refine Ru.iconst (x := 2) d_law_139 rfl ?_
    refine Ru.iload d_law_140 rfl ?_
    refine Ru.castore d_law_142 (by simp) A (by decide) (Nat.le_of_ble_eq_true rfl) (nar_c q2.c) ?_
    intro g2 K2 A
    have X2 := X2.keep K2; have Fv := Fv.keep K2 (ninS nsa nin0); have Fc := Fc.keep K2 (ninS nsa nin0)
    refine Ru.dup d_law_143 rfl ?_
    refine Ru.iconst (x := 3) d_law_144 rfl ?_
    refine Ru.iload d_law_145 rfl ?_
    refine Ru.castore d_law_147 (by simp) A (by decide) (Nat.le_of_ble_eq_true rfl) (nar_c q3.c) ?_
    intro g3 K3 A
    have X2 := X2.keep K3; have Fv := Fv.keep K3 (ninS nsa nin0); have Fc := Fc.keep K3 (ninS nsa nin0)
    have A : Ary G.Z _ a .char (([47, c1, c2, c3] : List Int32).map Value.int) := A
    refine Ru.callI0 (J := I_si) (c_si e (cs := ([47, c1, c2, c3] : List Int32)) X2 Fv Fc A (by simp) (by simp) (by simp [q0, q1, q2, q3])) d_law_148 rfl rfl (e.w 4 rfl) (e.w 5 rfl) (e.w 2 rfl) (e.w 6 rfl) (by decide) np_si rfl (a := s) (argsL := [(.ref a)]) (rest := [(.ref s)]) rfl rfl (by simp) (Nat.le_of_ble_eq_true rfl) (Nat.le_of_ble_eq_true rfl) (Nat.le_of_ble_eq_true rfl) (Nat.le_of_ble_eq_true rfl) (WP.rv ?_)
    rintro l1 S9 ⟨rfl, t, gt, Kt, T⟩
    refine Ru.astore d_law_151 rfl (ls' := #[.val (.int p0), .val (.int p1), .val (.int p2), .val (.int p3), .val (.int p4), .val (.int (n32 3)), .val (.int c1), .val (.int c2), .val (.int c3), .val (.ref s), .unset, .unset, .unset]) rfl ?_
    refine Ru.iload d_law_153 rfl ?_
    refine Ru.sipush (x := 255) d_law_155 rfl ?_
    refine Ru.iand d_law_158 ?_
    refine Ru.i2c d_law_159 ?_
    refine WP.topI (show ((p4 &&& (255 : Int32))).toUInt32.toUInt16.toUInt32.toInt32 = (p4 &&& (255 : Int32)) from (i2c_id (and255_isL _).c)) ?_
    refine Ru.callS0 (J := I_vof) (c_vof e (and255_isL p4)) d_law_160 (e.w 30 rfl) (e.w 31 rfl) (e.w 2 rfl) (e.w 32 rfl) (by decide) np_vof rfl (argsL := [(.int (p4 &&& (255 : Int32)))]) (rest := []) rfl rfl (fun _ q => nomatch q) (Nat.le_of_ble_eq_true rfl) (Nat.le_of_ble_eq_true rfl) (Nat.le_of_ble_eq_true rfl) (Nat.le_of_ble_eq_true rfl) (WP.rt ?_)
    rintro _ l2 S10 ⟨v, tv, rfl, gv, rfl, K10, T10⟩
    have T := T.keep K10 nin0 nin0
    refine Ru.astore d_law_163 rfl (ls' := #[.val (.int p0), .val (.int p1), .val (.int p2), .val (.int p3), .val (.int p4), .val (.int (n32 3)), .val (.int c1), .val (.int c2), .val (.int c3), .val (.ref s), .val (.ref v), .unset, .unset]) rfl ?_
    have lt := T.lt; have lt1 := xlt T.1; have lt2 := alt T.2.2.2.1
    refine Ru.new d_law_165 (e.w 44 rfl) (e.w 45 rfl) (e.w 46 rfl) (Nat.le_of_ble_eq_true rfl) (Nat.le_of_ble_eq_true rfl) ?_
    intro l3 b gb E11 X11 D11
    have T := T.keep (keepE E11) nin0 nin0; have nsb : s ≠ b := nne (by omega); have ntb : t ≠ b := nne (by omega)
    refine Ru.dup d_law_168 rfl ?_
    refine Ru.aload d_law_169 rfl rfl ?_
    refine Ru.aload d_law_171 rfl rfl ?_
    refine Ru.callI0 (J := I_sinit) (c_sinit e X11 (D11 (Or.inr (e.w 57 rfl)) (ty := .object "java/lang/String") (by decide)) (D11 (Or.inr (e.w 59 rfl)) (ty := .object "java/lang/String") (by decide))) d_law_173 rfl rfl (e.w 47 rfl) (e.w 48 rfl) (e.w 46 rfl) (e.w 49 rfl) (by decide) np_sinit rfl (a := b) (argsL := [(.ref s), (.ref v)]) (rest := [(.ref b)]) rfl rfl (by simp) (Nat.le_of_ble_eq_true rfl) (Nat.le_of_ble_eq_true rfl) (Nat.le_of_ble_eq_true rfl) (Nat.le_of_ble_eq_true rfl) (WP.rv ?_)
    rintro l4 S12 ⟨rfl, K12, X12, F12⟩
    have T := T.keep K12 (ninS nsb nin0) (ninS ntb nin0)
    refine Ru.astore d_law_176 rfl (ls' := #[.val (.int p0), .val (.int p1), .val (.int p2), .val (.int p3), .val (.int p4), .val (.int (n32 3)), .val (.int c1), .val (.int c2), .val (.int c3), .val (.ref s), .val (.ref v), .val (.ref b), .unset]) rfl ?_
    refine Ru.aload d_law_178 rfl rfl ?_
    refine Ru.callS0 (J := I_pref) (c_pref e X12 F12 T rfl) d_law_180 (e.w 60 rfl) (e.w 61 rfl) (e.w 62 rfl) (e.w 63 rfl) (by decide) np_pref rfl (argsL := [(.ref b)]) (rest := []) rfl rfl (fun _ q => nomatch q) (Nat.le_of_ble_eq_true rfl) (Nat.le_of_ble_eq_true rfl) (Nat.le_of_ble_eq_true rfl) (Nat.le_of_ble_eq_true rfl) (WP.rt ?_)
    rintro _ l5 S13 ⟨rfl, rfl, K13⟩
    have T := T.keep K13 nin0 nin0
    refine Ru.astore d_law_183 rfl (ls' := #[.val (.int p0), .val (.int p1), .val (.int p2), .val (.int p3), .val (.int p4), .val (.int (n32 3)), .val (.int c1), .val (.int c2), .val (.int c3), .val (.ref s), .val (.ref v), .val (.ref b), .val (.ref s)]) rfl ?_
    refine Ru.aload d_law_185 rfl rfl ?_
    refine Ru.ifnullN d_law_187 ?_
    refine Ru.aload d_law_190 rfl rfl ?_
    refine Ru.callV0 (J := I_slen) (c_slen e T) d_law_192 T.1 (e.w 96 rfl) (e.w 83 rfl) (nf_sel (e.w 85 rfl)) (e.w 85 rfl) (e.w 84 rfl) (e.w 2 rfl) (e.w 86 rfl) (by decide) np_slen rfl (a := s) (argsL := []) (rest := []) rfl rfl (fun _ q => nomatch q) (Nat.le_of_ble_eq_true rfl) (Nat.le_of_ble_eq_true rfl) (Nat.le_of_ble_eq_true rfl) (Nat.le_of_ble_eq_true rfl) (WP.rt ?_)
    rintro _ l6 S14 ⟨rfl, rfl, rfl⟩
    refine Ru.iload d_law_195 rfl ?_
    refine Ru.iconst (x := 1) d_law_197 rfl ?_
    refine Ru.iadd d_law_198 ?_
    refine Ru.icmpN d_law_199 (show (n32 4) = ((n32 3) + (1 : Int32)) from rfl) ?_
    refine Ru.aload d_law_202 rfl rfl ?_
    refine Ru.aload d_law_204 rfl rfl ?_
    refine Ru.callV0 (J := I_eqs) (c_eqs e) d_law_206 T.1 (e.w 97 rfl) (e.w 98 rfl) (nf_sel (e.w 100 rfl)) (e.w 100 rfl) (e.w 99 rfl) (e.w 2 rfl) (e.w 101 rfl) (by decide) np_eqs rfl (a := s) (argsL := [(.ref s)]) (rest := []) rfl rfl (fun _ q => nomatch q) (Nat.le_of_ble_eq_true rfl) (Nat.le_of_ble_eq_true rfl) (Nat.le_of_ble_eq_true rfl) (Nat.le_of_ble_eq_true rfl) (WP.rt ?_)
    rintro _ l6 S15 ⟨rfl, rfl, rfl⟩
    refine Ru.ifN d_law_209 (show ¬ (1 : Int32) = (0 : Int32) from (by decide)) ?_
    refine Ru.aload d_law_212 rfl rfl ?_
    refine Ru.iconst (x := 0) d_law_214 rfl ?_
    refine WP.topI (show (0 : Int32) = (n32 0) from rfl) ?_
    refine Ru.callV0 (J := I_schr) (c_schr e T (c := 47) rfl) d_law_215 T.1 (e.w 102 rfl) (e.w 103 rfl) (nf_sel (e.w 105 rfl)) (e.w 105 rfl) (e.w 104 rfl) (e.w 2 rfl) (e.w 106 rfl) (by decide) np_schr rfl (a := s) (argsL := [(.int (n32 0))]) (rest := []) rfl rfl (fun _ q => nomatch q) (Nat.le_of_ble_eq_true rfl) (Nat.le_of_ble_eq_true rfl) (Nat.le_of_ble_eq_true rfl) (Nat.le_of_ble_eq_true rfl) (WP.rt ?_)
    rintro _ _ S16 ⟨rfl, rfl, rfl⟩
    refine Ru.bipush (x := 47) d_law_218 rfl ?_
    refine Ru.icmpN d_law_220 (show (47 : Int32) = (47 : Int32) from rfl) ?_
    refine Ru.iconst (x := 1) d_law_223 rfl ?_
    refine Ru.goto d_law_224 ?_
    exact Ru.ireturnN (t := .boolean) (x' := (1 : Int32)) d_law_228 rfl (by simp) rfl [] (fun _ q => nomatch q) (Nat.le_of_ble_eq_true rfl) (Nat.le_of_ble_eq_true rfl) ⟨_, rfl, rfl⟩
set_option maxRecDepth 65536 in
set_option maxHeartbeats 40000000 in
theorem comes_1 {Post : Tables → Env → Array Value → State → Outcome → State → Prop} (hpost : ∀ tb e args s v u, (limb_1_1.after args s (.returned v) u = true ∧ limb_1_2.after args s (.returned v) u = true ∧ True) → ReturnedEndW s (.returned v) u (Jvm.fieldLocs frame_1_writes args s ++ Jvm.arrayLocs frame_1_arrays args s ++ Jvm.staticLocs frame_1_statics s) 24 1152 → Post tb e args s (.returned v) u) :
    ArmFor flags0 classFile x code maxLocals ret World_1 tables_1 room_1 Calls_1 rest_1 Pre_1 Post := by
  intro l hfl _ _ p e ha hc hk s m args below hf hA hF happ hP
  obtain ⟨hcalls, hrest, hpre⟩ := hP
  obtain ⟨-, -, -, hnamed, -, -, -, hat⟩ := (Spec.applies_iff hf).mp happ
  obtain ⟨hg, hn⟩ := and_e (Cond.before_iff.mp (show (Jvm.Cond.and given_1 narrow_1).before args s = true from hpre))
  obtain ⟨hg0, hgs⟩ := and_e hg
  obtain ⟨ga0, gr0⟩ := and_e hgs
  obtain ⟨ga1, gr1⟩ := and_e gr0
  obtain ⟨ga2, gr2⟩ := and_e gr1
  obtain ⟨ga3, gr3⟩ := and_e gr2
  have ga4 := gr3
  obtain ⟨w0, w1, w2, w3, w4, rfl⟩ : ∃ w0 w1 w2 w3 w4 : Value, args = #[w0, w1, w2, w3, w4] := by
    have hs : args.size = 5 := by simpa [Cond.value, given_1] using hg0
    obtain ⟨L⟩ := args
    match L, hs with
    | [w0, w1, w2, w3, w4], _ => exact ⟨w0, w1, w2, w3, w4, rfl⟩
  have hw := fun d (hd : d ∈ tables_1) => atoms_spec (ws := Jvm.Cond.code x code maxLocals ret :: tables_1) hat d (List.mem_cons_of_mem _ hd)
  obtain ⟨hsets, hown0⟩ := atoms_of _ (rest_1_c_eq ▸ (show rest_1_c.before _ s = true from hrest))
  have hfit : Fit s := fun {y c} hc i hi => by
    obtain ⟨ha, rfl⟩ := Array.getElem?_eq_some_iff.mp hc
    have q := List.all_eq_true.mp ((Array.all_eq_true_iff_forall_mem.mp hF) _ (Array.getElem_mem ha)) i (List.mem_range.mpr hi)
    simpa [Array.getElem?_eq_getElem hi] using q
  obtain ⟨i0, ei0⟩ := is_v ga0
  obtain rfl : w0 = (.int i0) := Option.some.inj ei0
  obtain ⟨i1, ei1⟩ := is_v ga1
  obtain rfl : w1 = (.int i1) := Option.some.inj ei1
  obtain ⟨i2, ei2⟩ := is_v ga2
  obtain rfl : w2 = (.int i2) := Option.some.inj ei2
  obtain ⟨i3, ei3⟩ := is_v ga3
  obtain rfl : w3 = (.int i3) := Option.some.inj ei3
  obtain ⟨i4, ei4⟩ := is_v ga4
  obtain rfl : w4 = (.int i4) := Option.some.inj ei4
  have n5 := not_v (Cond.before_iff.mp (hsets _ (List.mem_of_getElem? (i := 2) rfl)))
  obtain ⟨cz, ecz⟩ := is_v (Cond.before_iff.mp (hsets _ (List.mem_of_getElem? (i := 1) rfl)))
  have Scz : Sta s s.heap "java/lang/String" "COMPACT_STRINGS" "Z" (.int cz) := Sta.start ecz (Or.inl (hsets _ (List.mem_of_getElem? (i := 0) rfl)))
  have ncz : ¬ (cz = (0 : Int32)) := gotF (Cond.eq_ints ecz (Term.int_eval (0))) n5
  obtain ⟨vfm, efm, rfm⟩ := isR_v (Cond.before_iff.mp (hsets _ (List.mem_of_getElem? (i := 8) rfl)))
  have Sfm : Sta s s.heap "jdk/internal/util/Preconditions" "SIOOBE_FORMATTER" "Ljava/util/function/BiFunction;" vfm := Sta.start efm (Or.inl (hsets _ (List.mem_of_getElem? (i := 7) rfl)))
  have ev : Ev ((l, s, lits_1, false) : Own.Wd) _ := ⟨hw, ⟨cz, Scz, ncz⟩, rfl, fun p hp => hp, ⟨vfm, rfm, Sfm⟩, trivial⟩
  have M := c_law ev (p0 := i0) (p1 := i1) (p2 := i2) (p3 := i3) (p4 := i4) (h := s.heap)
  obtain ⟨n, o, h1, h2, h3, v, L, rfl, ⟨⟨S, ⟨x, rfl, rfl⟩, -⟩, N, -⟩, -, hR, hN⟩ := M #[] (EW.cons (hw _ (List.mem_of_getElem? (i := 69) rfl)) (by decide) EW.nil) ⟨Nat.le_refl _, fun _ _ q => q⟩ tables_1 p e ha hc hk s m _ below hf ((Spec.applies_iff_loose hf).mp happ).1 ⟨rfl, State.Warmed39.refl s, rfl, (CHv.start (EW.cons (hw _ (List.mem_of_getElem? (i := 69) rfl)) (by decide) EW.nil) (fun p hp => hcalls.1 p hp) (hsets _ (List.mem_of_getElem? (i := 2) rfl)) (hw _ (List.mem_of_getElem? (i := 19) rfl)) (hw _ (List.mem_of_getElem? (i := 1) rfl))), Own.Ws.nil⟩ trivial
  refine ⟨n, _, h1, h2, h3, hpost _ _ _ _ _ _ ⟨Cond.after_iff.mpr rfl, Cond.after_iff.mpr (eq_i res_at (Term.int_eval (1)) rfl), trivial⟩ ⟨hR.1, hR.2.1, hR.2.2.1, (hR.2.2.2.sift fun y hy => Or.inr (N y hy)).mono (by decide) (by decide)⟩⟩
theorem main_1_1 : Claimed_1_1 := comes_1 fun _ _ _ _ _ _ h hF => ⟨h.1, hF⟩
theorem main_1_2 : Claimed_1_2 := comes_1 fun _ _ _ _ _ _ h hF => ⟨h.2.1, hF⟩
end Jvm.Pilot.@@N@@
namespace Jvm.Pilot.@@N@@
open Jvm Jvm.ClassFile Sem Op Lib Jvm.Free Jvm.Stand Jvm.Pilot.@@N@@.Jvm.D
/-! MADE BY PROGRAM (witnessworld.py) out of the Statement's table words and the real class files: 22 classes; the members and pool entries that the words name. The judged class is class 1, her method 1. -/
namespace start1
open Jvm.ClassFile
def u (s : String) : CpInfo := .utf8 (stringToUtf16 s)
/-- a pool by its gaps: so many unusable entries, then the entry; so many at the end -/
def gap : Nat → List CpInfo → List CpInfo
  | 0, r => r
  | n + 1, r => .unusable :: gap n r
def poolList (es : List (Nat × CpInfo)) (last : Nat) : List CpInfo := es.foldr (fun e r => gap e.1 (e.2 :: r)) (gap last [])
def pool (es : List (Nat × CpInfo)) (last : Nat) : Array CpInfo := ⟨poolList es last⟩
def fileOf (pool : Array CpInfo) (this : Nat) (attrs : Array Attribute := #[]) (ms : Array MethodInfo := #[]) (fl : Nat := 33) (sup : Nat := 0) (ifs : Array Nat := #[]) (fds : Array FieldInfo := #[]) : ClassFile where
  minorVersion := 0
  majorVersion := 65
  constantPool := pool
  accessFlags := fl
  thisClass := this
  superClass := sup
  interfaces := ifs
  fields := fds
  methods := ms
  attributes := attrs
def plain (name : String) (sup : Option ClassId) : Class where
  name := name
  kind := .ordinary
  loader := none
  accessFlags := 33
  super := sup
  interfaces := #[]
  cf := none
  fields := #[]
  methods := #[]
  instanceTypes := #[]
  staticTypes := #[]
  resolved := #[]
  callSites := []
  init := .initialized
  statics := none
  mirror := none

def pool0 : Array CpInfo := pool [(5, u "<init>"), (0, u "()V"), (1, .class_ 10), (1, u "java/lang/Object")] 113

def k0c0 : Code := { maxStack := 0, maxLocals := 1, code := object_method_1_code, exceptionTable := #[], attributes := #[] }
def k0m0 : Method := { name := "<init>", desc := "()V", sig := { parameters := [], returnType := none }, accessFlags := 1, code := some k0c0 }
/-- java/lang/Object -/
def k0 : Class := { plain "java/lang/Object" none with
  accessFlags := 33
  interfaces := #[]
  cf := some (fileOf pool0 8 #[] #[{ accessFlags := 1, nameIndex := 5, descriptorIndex := 6, attributes := #[] }] 33 0 #[] #[])
  fields := #[]
  methods := #[k0m0]
  instanceTypes := #[]
  staticTypes := #[]
  resolved := Array.replicate 124 none
  statics := none }

def pool1 : Array CpInfo := pool [(2, .class_ 4), (1, u "java/lang/Object"), (0, u "<init>"), (0, u "()V"), (0, .class_ 8), (0, u "java/lang/String"), (0, .methodref 7 10), (0, .nameAndType 5 11), (0, u "([C)V"), (0, .methodref 7 13), (0, .nameAndType 14 15), (0, u "valueOf"), (0, u "(C)Ljava/lang/String;"), (0, .class_ 17), (0, u "com/example/torbund/torbund/ConfigFile$Setting"), (0, .methodref 16 19), (0, .nameAndType 5 20), (0, u "(Ljava/lang/String;Ljava/lang/String;)V"), (0, .methodref 22 23), (0, .class_ 24), (0, .nameAndType 25 26), (0, u "com/example/torbund/torbund/ConfigFile"), (0, u "prefix"), (0, u "(Lcom/example/torbund/torbund/ConfigFile$Setting;)Ljava/lang/String;"), (0, .methodref 7 28), (0, .nameAndType 29 30), (0, u "length"), (0, u "()I"), (0, .methodref 7 32), (0, .nameAndType 33 34), (0, u "equals"), (0, u "(Ljava/lang/Object;)Z"), (0, .methodref 7 36), (0, .nameAndType 37 38), (0, u "charAt"), (0, u "(I)C"), (0, .class_ 40), (0, u "com/example/torbund/torbund/ConfigFilePrefixPinLaw"), (2, u "law"), (0, u "(IIIII)Z")] 8

def k1m0 : Method := { name := "<init>", desc := "()V", sig := { parameters := [], returnType := none }, accessFlags := 1, code := none }
def k1c1 : Code := { maxStack := 6, maxLocals := 13, code := code, exceptionTable := #[], attributes := #[] }
def k1m1 : Method := { name := "law", desc := "(IIIII)Z", sig := { parameters := [.int, .int, .int, .int, .int], returnType := some .boolean }, accessFlags := 9, code := some k1c1 }
/-- com/example/torbund/torbund/ConfigFilePrefixPinLaw -/
def k1 : Class := { plain "com/example/torbund/torbund/ConfigFilePrefixPinLaw" (some 0) with
  accessFlags := 49
  interfaces := #[]
  cf := some (fileOf pool1 39 #[] #[{ accessFlags := 1, nameIndex := 5, descriptorIndex := 6, attributes := #[] }, { accessFlags := 9, nameIndex := 43, descriptorIndex := 44, attributes := #[] }] 49 2 #[] #[])
  fields := #[]
  methods := #[k1m0, k1m1]
  instanceTypes := #[]
  staticTypes := #[]
  resolved := Array.replicate 53 none
  statics := none }

def pool2 : Array CpInfo := pool [(1, .class_ 2), (0, u "java/io/Serializable"), (0, .class_ 4), (0, u "java/lang/Object")] 2

/-- java/io/Serializable -/
def k2 : Class := { plain "java/io/Serializable" (some 0) with
  accessFlags := 1537
  interfaces := #[]
  cf := some (fileOf pool2 1 #[] #[] 1537 3 #[] #[])
  fields := #[]
  methods := #[]
  instanceTypes := #[]
  staticTypes := #[]
  resolved := Array.replicate 7 none
  statics := none }

def pool3 : Array CpInfo := pool [(1, .class_ 2), (0, u "java/lang/Comparable"), (0, .class_ 4), (0, u "java/lang/Object")] 7

/-- java/lang/Comparable -/
def k3 : Class := { plain "java/lang/Comparable" (some 0) with
  accessFlags := 1537
  interfaces := #[]
  cf := some (fileOf pool3 1 #[] #[] 1537 3 #[] #[])
  fields := #[]
  methods := #[]
  instanceTypes := #[]
  staticTypes := #[]
  resolved := Array.replicate 12 none
  statics := none }

def pool4 : Array CpInfo := pool [(2, .class_ 4), (1, u "java/lang/CharSequence"), (42, .class_ 48), (0, u "java/lang/CharSequence$1CodePointIterator"), (10, .class_ 60), (0, u "java/lang/CharSequence$1CharIterator"), (5, .class_ 67), (0, u "java/lang/Object")] 63

/-- java/lang/CharSequence -/
def k4 : Class := { plain "java/lang/CharSequence" (some 0) with
  accessFlags := 1537
  interfaces := #[]
  cf := some (fileOf pool4 2 #[.nestMembers #[47, 59]] #[] 1537 66 #[] #[])
  fields := #[]
  methods := #[]
  instanceTypes := #[]
  staticTypes := #[]
  resolved := Array.replicate 131 none
  statics := none }

def pool5 : Array CpInfo := pool [(1, .class_ 2), (0, u "java/lang/constant/Constable"), (0, .class_ 4), (0, u "java/lang/Object")] 6

/-- java/lang/constant/Constable -/
def k5 : Class := { plain "java/lang/constant/Constable" (some 0) with
  accessFlags := 1537
  interfaces := #[]
  cf := some (fileOf pool5 1 #[] #[] 1537 3 #[] #[])
  fields := #[]
  methods := #[]
  instanceTypes := #[]
  staticTypes := #[]
  resolved := Array.replicate 11 none
  statics := none }

def pool6 : Array CpInfo := pool [(1, .class_ 2), (0, u "java/lang/constant/ConstantDesc"), (0, .class_ 4), (0, u "java/lang/Object")] 32

/-- java/lang/constant/ConstantDesc -/
def k6 : Class := { plain "java/lang/constant/ConstantDesc" (some 0) with
  accessFlags := 1537
  interfaces := #[]
  cf := some (fileOf pool6 1 #[] #[] 1537 3 #[] #[])
  fields := #[]
  methods := #[]
  instanceTypes := #[]
  staticTypes := #[]
  resolved := Array.replicate 37 none
  statics := none }

def pool7 : Array CpInfo := pool [(1, .methodref 2 3), (0, .class_ 4), (0, .nameAndType 5 6), (0, u "java/lang/Object"), (0, u "<init>"), (0, u "()V"), (2, .fieldref 10 11), (0, .class_ 12), (0, .nameAndType 13 14), (0, u "java/lang/String"), (0, u "value"), (0, u "[B"), (0, .fieldref 10 16), (0, .nameAndType 17 18), (0, u "coder"), (0, u "B"), (2, u "hash"), (0, u "I"), (2, u "hashIsZero"), (0, u "Z"), (0, .methodref 10 28), (0, .nameAndType 5 29), (0, u "([CIILjava/lang/Void;)V"), (8, .fieldref 10 39), (0, .nameAndType 40 26), (0, u "COMPACT_STRINGS"), (1, .class_ 44), (1, u "java/lang/StringUTF16"), (0, u "compress"), (1, .methodref 42 48), (0, .nameAndType 49 50), (0, u "coderFromArrayLen"), (0, u "([BI)B"), (2, u "toBytes"), (53, .class_ 109), (1, u "java/lang/StringLatin1"), (32, u "()Z"), (34, .methodref 42 178), (0, .nameAndType 45 179), (0, u "([CII)[B"), (29, .methodref 10 210), (0, .nameAndType 5 211), (0, u "([BB)V"), (122, u "()I"), (0, .methodref 10 336), (0, .nameAndType 17 337), (0, u "()B"), (25, u "([BI)C"), (5, u "(C)Z"), (6, u "([BI[BII)I"), (14, u "(II)V"), (35, u "(I)C"), (64, .methodref 10 493), (0, .nameAndType 494 142), (0, u "isLatin1"), (0, .methodref 107 496), (0, .nameAndType 497 363), (0, u "charAt"), (3, u "checkIndex"), (3, .methodref 10 506), (0, .nameAndType 507 334), (0, u "length"), (35, u "equals"), (15, .class_ 561), (1, u "jdk/internal/util/ArraysSupport"), (0, u "mismatch"), (10, u "(Ljava/lang/Object;)Z"), (1, .class_ 576), (0, u "java/lang/CharSequence"), (22, u "CASE_INSENSITIVE_ORDER"), (0, u "Ljava/util/Comparator;"), (6, .methodref 559 608), (0, .nameAndType 562 376), (15, .methodref 10 625), (0, .nameAndType 626 627), (0, u "startsWith"), (0, u "(Ljava/lang/String;I)Z"), (154, u "valueOf"), (0, u "(C)Ljava/lang/String;"), (226, u "([C)V"), (4, .methodref 107 1016), (0, .nameAndType 1017 369), (0, u "canEncode"), (0, .methodref 107 1019), (0, .nameAndType 53 1020), (0, u "(C)[B"), (32, .fieldref 1054 1055), (0, .class_ 1056), (0, .nameAndType 1057 1058), (0, u "jdk/internal/util/Preconditions"), (0, u "SIOOBE_FORMATTER"), (0, u "Ljava/util/function/BiFunction;"), (0, .methodref 1054 1060), (0, .nameAndType 501 1061), (0, u "(IILjava/util/function/BiFunction;)I"), (39, u "serialPersistentFields"), (0, u "[Ljava/io/ObjectStreamField;"), (0, .class_ 1104), (0, u "java/lang/String$CaseInsensitiveComparator"), (1, .class_ 1107), (0, u "java/io/Serializable"), (0, .class_ 1109), (0, u "java/lang/Comparable"), (0, .class_ 1111), (0, u "java/lang/constant/Constable"), (0, .class_ 1113), (0, u "java/lang/constant/ConstantDesc"), (2, u "serialVersionUID"), (0, u "J"), (3, u "REPL"), (0, u "C"), (2, u "LATIN1"), (1, u "UTF16"), (129, u "(Ljava/lang/String;)Z")] 193

def k7m0 : Method := { name := "<init>", desc := "()V", sig := { parameters := [], returnType := none }, accessFlags := 1, code := none }
def k7c1 : Code := { maxStack := 5, maxLocals := 2, code := jdk_42_method_3_code, exceptionTable := #[], attributes := #[] }
def k7m1 : Method := { name := "<init>", desc := "([C)V", sig := { parameters := [(.array .char)], returnType := none }, accessFlags := 1, code := some k7c1 }
def k7c2 : Code := { maxStack := 2, maxLocals := 1, code := jdk_42_method_54_code, exceptionTable := #[], attributes := #[] }
def k7m2 : Method := { name := "length", desc := "()I", sig := { parameters := [], returnType := some .int }, accessFlags := 1, code := some k7c2 }
def k7c3 : Code := { maxStack := 2, maxLocals := 2, code := jdk_42_method_56_code, exceptionTable := #[], attributes := #[] }
def k7m3 : Method := { name := "charAt", desc := "(I)C", sig := { parameters := [.int], returnType := some .char }, accessFlags := 1, code := some k7c3 }
def k7c4 : Code := { maxStack := 2, maxLocals := 3, code := jdk_42_method_66_code, exceptionTable := #[], attributes := #[] }
def k7m4 : Method := { name := "equals", desc := "(Ljava/lang/Object;)Z", sig := { parameters := [(.object "java/lang/Object")], returnType := some .boolean }, accessFlags := 1, code := some k7c4 }
def k7c5 : Code := { maxStack := 5, maxLocals := 8, code := jdk_42_method_75_code, exceptionTable := #[], attributes := #[] }
def k7m5 : Method := { name := "startsWith", desc := "(Ljava/lang/String;I)Z", sig := { parameters := [(.object "java/lang/String"), .int], returnType := some .boolean }, accessFlags := 1, code := some k7c5 }
def k7c6 : Code := { maxStack := 3, maxLocals := 2, code := jdk_42_method_76_code, exceptionTable := #[], attributes := #[] }
def k7m6 : Method := { name := "startsWith", desc := "(Ljava/lang/String;)Z", sig := { parameters := [(.object "java/lang/String")], returnType := some .boolean }, accessFlags := 1, code := some k7c6 }
def k7c7 : Code := { maxStack := 4, maxLocals := 1, code := jdk_42_method_139_code, exceptionTable := #[], attributes := #[] }
def k7m7 : Method := { name := "valueOf", desc := "(C)Ljava/lang/String;", sig := { parameters := [.char], returnType := some (.object "java/lang/String") }, accessFlags := 9, code := some k7c7 }
def k7c8 : Code := { maxStack := 4, maxLocals := 6, code := jdk_42_method_149_code, exceptionTable := #[], attributes := #[] }
def k7m8 : Method := { name := "<init>", desc := "([CIILjava/lang/Void;)V", sig := { parameters := [(.array .char), .int, .int, (.object "java/lang/Void")], returnType := none }, accessFlags := 2, code := some k7c8 }
def k7c9 : Code := { maxStack := 2, maxLocals := 3, code := jdk_42_method_151_code, exceptionTable := #[], attributes := #[] }
def k7m9 : Method := { name := "<init>", desc := "([BB)V", sig := { parameters := [(.array .byte), .byte], returnType := none }, accessFlags := 0, code := some k7c9 }
def k7c10 : Code := { maxStack := 1, maxLocals := 1, code := jdk_42_method_152_code, exceptionTable := #[], attributes := #[] }
def k7m10 : Method := { name := "coder", desc := "()B", sig := { parameters := [], returnType := some .byte }, accessFlags := 0, code := some k7c10 }
def k7c11 : Code := { maxStack := 1, maxLocals := 1, code := jdk_42_method_154_code, exceptionTable := #[], attributes := #[] }
def k7m11 : Method := { name := "isLatin1", desc := "()Z", sig := { parameters := [], returnType := some .boolean }, accessFlags := 0, code := some k7c11 }
def k7c12 : Code := { maxStack := 3, maxLocals := 2, code := jdk_42_method_155_code, exceptionTable := #[], attributes := #[] }
def k7m12 : Method := { name := "checkIndex", desc := "(II)V", sig := { parameters := [.int, .int], returnType := none }, accessFlags := 8, code := some k7c12 }
/-- java/lang/String -/
def k7 : Class := { plain "java/lang/String" (some 0) with
  accessFlags := 49
  interfaces := #[2, 3, 4, 5, 6]
  cf := some (fileOf pool7 10 #[.nestMembers #[1103]] #[{ accessFlags := 1, nameIndex := 5, descriptorIndex := 6, attributes := #[] }, { accessFlags := 1, nameIndex := 5, descriptorIndex := 1010, attributes := #[] }, { accessFlags := 1, nameIndex := 507, descriptorIndex := 334, attributes := #[] }, { accessFlags := 1, nameIndex := 497, descriptorIndex := 427, attributes := #[] }, { accessFlags := 1, nameIndex := 543, descriptorIndex := 573, attributes := #[] }, { accessFlags := 1, nameIndex := 626, descriptorIndex := 627, attributes := #[] }, { accessFlags := 1, nameIndex := 626, descriptorIndex := 1257, attributes := #[] }, { accessFlags := 9, nameIndex := 782, descriptorIndex := 783, attributes := #[] }, { accessFlags := 2, nameIndex := 5, descriptorIndex := 29, attributes := #[] }, { accessFlags := 0, nameIndex := 5, descriptorIndex := 211, attributes := #[] }, { accessFlags := 0, nameIndex := 17, descriptorIndex := 337, attributes := #[] }, { accessFlags := 0, nameIndex := 494, descriptorIndex := 142, attributes := #[] }, { accessFlags := 8, nameIndex := 501, descriptorIndex := 391, attributes := #[] }] 49 2 #[1106, 1108, 575, 1110, 1112] #[{ accessFlags := 18, nameIndex := 13, descriptorIndex := 14, attributes := #[] }, { accessFlags := 18, nameIndex := 17, descriptorIndex := 18, attributes := #[] }, { accessFlags := 2, nameIndex := 21, descriptorIndex := 22, attributes := #[] }, { accessFlags := 2, nameIndex := 25, descriptorIndex := 26, attributes := #[] }, { accessFlags := 26, nameIndex := 1116, descriptorIndex := 1117, attributes := #[] }, { accessFlags := 24, nameIndex := 40, descriptorIndex := 26, attributes := #[] }, { accessFlags := 26, nameIndex := 1101, descriptorIndex := 1102, attributes := #[] }, { accessFlags := 26, nameIndex := 1121, descriptorIndex := 1122, attributes := #[] }, { accessFlags := 25, nameIndex := 599, descriptorIndex := 600, attributes := #[] }, { accessFlags := 24, nameIndex := 1125, descriptorIndex := 18, attributes := #[] }, { accessFlags := 24, nameIndex := 1127, descriptorIndex := 18, attributes := #[] }])
  fields := #[{ name := "value", type := (.array .byte), accessFlags := 18, slot := 0, constantValue := 0 }, { name := "coder", type := .byte, accessFlags := 18, slot := 1, constantValue := 0 }, { name := "hash", type := .int, accessFlags := 2, slot := 2, constantValue := 0 }, { name := "hashIsZero", type := .boolean, accessFlags := 2, slot := 3, constantValue := 0 }, { name := "serialVersionUID", type := .long, accessFlags := 26, slot := 0, constantValue := 0 }, { name := "COMPACT_STRINGS", type := .boolean, accessFlags := 24, slot := 1, constantValue := 0 }, { name := "serialPersistentFields", type := (.array (.object "java/io/ObjectStreamField")), accessFlags := 26, slot := 2, constantValue := 0 }, { name := "REPL", type := .char, accessFlags := 26, slot := 3, constantValue := 0 }, { name := "CASE_INSENSITIVE_ORDER", type := (.object "java/util/Comparator"), accessFlags := 25, slot := 4, constantValue := 0 }, { name := "LATIN1", type := .byte, accessFlags := 24, slot := 5, constantValue := 0 }, { name := "UTF16", type := .byte, accessFlags := 24, slot := 6, constantValue := 0 }]
  methods := #[k7m0, k7m1, k7m2, k7m3, k7m4, k7m5, k7m6, k7m7, k7m8, k7m9, k7m10, k7m11, k7m12]
  instanceTypes := #[(.array .byte), .byte, .int, .boolean]
  staticTypes := #[.long, .boolean, (.array (.object "java/io/ObjectStreamField")), .char, (.object "java/util/Comparator"), .byte, .byte]
  resolved := Array.replicate 1451 none
  statics := some 0 }

def pool8 : Array CpInfo := pool [(6, .class_ 8), (1, u "java/lang/Object"), (0, u "<init>"), (0, u "()V"), (1, .class_ 14), (1, u "java/lang/StringUTF16"), (31, u "$assertionsDisabled"), (0, u "Z"), (13, u "HI_BYTE_SHIFT"), (0, u "I"), (2, u "LO_BYTE_SHIFT"), (49, .methodref 12 116), (0, .nameAndType 117 118), (0, u "compress"), (0, u "([CI[BII)I"), (3, u "([CII)[B"), (138, u "coderFromArrayLen"), (0, u "([BI)B"), (106, .class_ 371), (1, u "java/lang/StringUTF16$LinesSpliterator"), (58, u "MAX_LENGTH"), (196, .class_ 628), (0, u "java/lang/StringUTF16$CodePointsSpliterator"), (0, .class_ 630), (0, u "java/lang/StringUTF16$CharsSpliterator")] 4

def k8m0 : Method := { name := "<init>", desc := "()V", sig := { parameters := [], returnType := none }, accessFlags := 0, code := none }
def k8c1 : Code := { maxStack := 2, maxLocals := 2, code := jdk_52_method_15_code, exceptionTable := #[], attributes := #[] }
def k8m1 : Method := { name := "coderFromArrayLen", desc := "([BI)B", sig := { parameters := [(.array .byte), .int], returnType := some .byte }, accessFlags := 8, code := some k8c1 }
def k8c2 : Code := { maxStack := 5, maxLocals := 6, code := jdk_52_method_16_code, exceptionTable := #[], attributes := #[] }
def k8m2 : Method := { name := "compress", desc := "([CII)[B", sig := { parameters := [(.array .char), .int, .int], returnType := some (.array .byte) }, accessFlags := 9, code := some k8c2 }
def k8c3 : Code := { maxStack := 3, maxLocals := 7, code := jdk_52_method_21_code, exceptionTable := #[], attributes := #[] }
def k8m3 : Method := { name := "compress", desc := "([CI[BII)I", sig := { parameters := [(.array .char), .int, (.array .byte), .int, .int], returnType := some .int }, accessFlags := 9, code := some k8c3 }
/-- java/lang/StringUTF16 -/
def k8 : Class := { plain "java/lang/StringUTF16" (some 0) with
  accessFlags := 48
  interfaces := #[]
  cf := some (fileOf pool8 12 #[.nestMembers #[627, 629, 369]] #[{ accessFlags := 0, nameIndex := 9, descriptorIndex := 10, attributes := #[] }, { accessFlags := 8, nameIndex := 261, descriptorIndex := 262, attributes := #[] }, { accessFlags := 9, nameIndex := 117, descriptorIndex := 122, attributes := #[] }, { accessFlags := 9, nameIndex := 117, descriptorIndex := 118, attributes := #[] }] 48 6 #[] #[{ accessFlags := 26, nameIndex := 61, descriptorIndex := 62, attributes := #[] }, { accessFlags := 26, nameIndex := 65, descriptorIndex := 62, attributes := #[] }, { accessFlags := 24, nameIndex := 430, descriptorIndex := 62, attributes := #[] }, { accessFlags := 4120, nameIndex := 46, descriptorIndex := 47, attributes := #[] }])
  fields := #[{ name := "HI_BYTE_SHIFT", type := .int, accessFlags := 26, slot := 0, constantValue := 0 }, { name := "LO_BYTE_SHIFT", type := .int, accessFlags := 26, slot := 1, constantValue := 0 }, { name := "MAX_LENGTH", type := .int, accessFlags := 24, slot := 2, constantValue := 0 }, { name := "$assertionsDisabled", type := .boolean, accessFlags := 4120, slot := 3, constantValue := 0 }]
  methods := #[k8m0, k8m1, k8m2, k8m3]
  instanceTypes := #[]
  staticTypes := #[.int, .int, .int, .boolean]
  resolved := Array.replicate 635 none
  statics := none }

def pool9 : Array CpInfo := pool [(1, .class_ 2), (0, u "java/lang/String"), (1, .class_ 6), (1, u "java/lang/Object"), (0, u "<init>"), (0, u "()V"), (0, .methodref 1 10), (0, .nameAndType 11 12), (0, u "checkIndex"), (0, u "(II)V"), (1, .class_ 16), (1, u "java/lang/StringLatin1"), (36, u "([BI)C"), (36, u "canEncode"), (14, u "(C)Z"), (15, u "$assertionsDisabled"), (0, u "Z"), (98, .class_ 223), (1, u "java/lang/StringLatin1$LinesSpliterator"), (28, u "charAt"), (127, u "toBytes"), (1, u "(C)[B"), (7, .class_ 391), (0, u "java/lang/StringLatin1$CharsSpliterator")] 3

def k9m0 : Method := { name := "<init>", desc := "()V", sig := { parameters := [], returnType := none }, accessFlags := 0, code := none }
def k9c1 : Code := { maxStack := 2, maxLocals := 2, code := jdk_43_method_2_code, exceptionTable := #[], attributes := #[] }
def k9m1 : Method := { name := "charAt", desc := "([BI)C", sig := { parameters := [(.array .byte), .int], returnType := some .char }, accessFlags := 9, code := some k9c1 }
def k9c2 : Code := { maxStack := 2, maxLocals := 1, code := jdk_43_method_3_code, exceptionTable := #[], attributes := #[] }
def k9m2 : Method := { name := "canEncode", desc := "(C)Z", sig := { parameters := [.char], returnType := some .boolean }, accessFlags := 9, code := some k9c2 }
def k9c3 : Code := { maxStack := 4, maxLocals := 1, code := jdk_43_method_46_code, exceptionTable := #[], attributes := #[] }
def k9m3 : Method := { name := "toBytes", desc := "(C)[B", sig := { parameters := [.char], returnType := some (.array .byte) }, accessFlags := 9, code := some k9c3 }
/-- java/lang/StringLatin1 -/
def k9 : Class := { plain "java/lang/StringLatin1" (some 0) with
  accessFlags := 48
  interfaces := #[]
  cf := some (fileOf pool9 14 #[.nestMembers #[390, 221]] #[{ accessFlags := 0, nameIndex := 7, descriptorIndex := 8, attributes := #[] }, { accessFlags := 9, nameIndex := 252, descriptorIndex := 53, attributes := #[] }, { accessFlags := 9, nameIndex := 90, descriptorIndex := 105, attributes := #[] }, { accessFlags := 9, nameIndex := 380, descriptorIndex := 382, attributes := #[] }] 48 4 #[] #[{ accessFlags := 4120, nameIndex := 121, descriptorIndex := 122, attributes := #[] }])
  fields := #[{ name := "$assertionsDisabled", type := .boolean, accessFlags := 4120, slot := 0, constantValue := 0 }]
  methods := #[k9m0, k9m1, k9m2, k9m3]
  instanceTypes := #[]
  staticTypes := #[.boolean]
  resolved := Array.replicate 395 none
  statics := none }

def pool10 : Array CpInfo := pool [(1, .methodref 2 3), (0, .class_ 4), (0, .nameAndType 5 6), (0, u "java/lang/Object"), (0, u "<init>"), (0, u "()V"), (0, .class_ 8), (0, u "java/lang/Record")] 13

def k10c0 : Code := { maxStack := 1, maxLocals := 1, code := jdk_30_method_1_code, exceptionTable := #[], attributes := #[] }
def k10m0 : Method := { name := "<init>", desc := "()V", sig := { parameters := [], returnType := none }, accessFlags := 4, code := some k10c0 }
/-- java/lang/Record -/
def k10 : Class := { plain "java/lang/Record" (some 0) with
  accessFlags := 1057
  interfaces := #[]
  cf := some (fileOf pool10 7 #[] #[{ accessFlags := 4, nameIndex := 5, descriptorIndex := 6, attributes := #[] }] 1057 2 #[] #[])
  fields := #[]
  methods := #[k10m0]
  instanceTypes := #[]
  staticTypes := #[]
  resolved := Array.replicate 22 none
  statics := none }

def pool11 : Array CpInfo := pool [(1, .methodref 2 3), (0, .class_ 4), (0, .nameAndType 5 6), (0, u "java/lang/Record"), (0, u "<init>"), (0, u "()V"), (0, .fieldref 8 9), (0, .class_ 10), (0, .nameAndType 11 12), (0, u "com/example/torbund/torbund/ConfigFile$Setting"), (0, u "value"), (0, u "Ljava/lang/String;"), (0, .fieldref 8 14), (0, .nameAndType 15 12), (0, u "source"), (12, u "(Ljava/lang/String;Ljava/lang/String;)V"), (3, u "()Ljava/lang/String;"), (5, .class_ 39), (0, u "com/example/torbund/torbund/ConfigFile")] 20

def k11c0 : Code := { maxStack := 2, maxLocals := 3, code := prog_4_method_1_code, exceptionTable := #[], attributes := #[] }
def k11m0 : Method := { name := "<init>", desc := "(Ljava/lang/String;Ljava/lang/String;)V", sig := { parameters := [(.object "java/lang/String"), (.object "java/lang/String")], returnType := none }, accessFlags := 0, code := some k11c0 }
def k11c1 : Code := { maxStack := 1, maxLocals := 1, code := prog_4_method_5_code, exceptionTable := #[], attributes := #[] }
def k11m1 : Method := { name := "value", desc := "()Ljava/lang/String;", sig := { parameters := [], returnType := some (.object "java/lang/String") }, accessFlags := 1, code := some k11c1 }
/-- com/example/torbund/torbund/ConfigFile$Setting -/
def k11 : Class := { plain "com/example/torbund/torbund/ConfigFile$Setting" (some 10) with
  accessFlags := 48
  interfaces := #[]
  cf := some (fileOf pool11 8 #[.nestHost 38] #[{ accessFlags := 0, nameIndex := 5, descriptorIndex := 28, attributes := #[] }, { accessFlags := 1, nameIndex := 11, descriptorIndex := 32, attributes := #[] }] 48 2 #[] #[{ accessFlags := 18, nameIndex := 11, descriptorIndex := 12, attributes := #[] }, { accessFlags := 18, nameIndex := 15, descriptorIndex := 12, attributes := #[] }])
  fields := #[{ name := "value", type := (.object "java/lang/String"), accessFlags := 18, slot := 0, constantValue := 0 }, { name := "source", type := (.object "java/lang/String"), accessFlags := 18, slot := 1, constantValue := 0 }]
  methods := #[k11m0, k11m1]
  instanceTypes := #[(.object "java/lang/String"), (.object "java/lang/String")]
  staticTypes := #[]
  resolved := Array.replicate 60 none
  statics := none }

def pool12 : Array CpInfo := pool [(2, .class_ 4), (1, u "java/lang/Object"), (3, .class_ 10), (1, u "com/example/torbund/torbund/ConfigFile"), (0, u "file"), (0, u "Ljava/nio/file/Path;"), (2, u "settings"), (0, u "Ljava/util/Map;"), (39, u "()Ljava/lang/String;"), (1, .class_ 60), (1, u "java/lang/String"), (45, .methodref 58 107), (0, .nameAndType 108 109), (0, u "startsWith"), (0, u "(Ljava/lang/String;)Z"), (25, .class_ 136), (0, u "com/example/torbund/torbund/ConfigFile$Setting"), (59, .methodref 135 197), (0, .nameAndType 198 56), (0, u "value"), (80, .string 280), (0, u "/"), (31, u "DURATION"), (0, u "Ljava/util/regex/Pattern;"), (47, u "LISTEN_HTTP"), (0, u "Ljava/lang/String;"), (3, u "LISTEN_HTTPS"), (33, u "prefix"), (0, u "(Lcom/example/torbund/torbund/ConfigFile$Setting;)Ljava/lang/String;")] 57

def k12c0 : Code := { maxStack := 4, maxLocals := 2, code := prog_3_method_14_code, exceptionTable := #[], attributes := #[] }
def k12m0 : Method := { name := "prefix", desc := "(Lcom/example/torbund/torbund/ConfigFile$Setting;)Ljava/lang/String;", sig := { parameters := [(.object "com/example/torbund/torbund/ConfigFile$Setting")], returnType := some (.object "java/lang/String") }, accessFlags := 8, code := some k12c0 }
/-- com/example/torbund/torbund/ConfigFile -/
def k12 : Class := { plain "com/example/torbund/torbund/ConfigFile" (some 0) with
  accessFlags := 48
  interfaces := #[]
  cf := some (fileOf pool12 8 #[.nestMembers #[135]] #[{ accessFlags := 8, nameIndex := 400, descriptorIndex := 401, attributes := #[] }] 48 2 #[] #[{ accessFlags := 24, nameIndex := 361, descriptorIndex := 362, attributes := #[] }, { accessFlags := 24, nameIndex := 366, descriptorIndex := 362, attributes := #[] }, { accessFlags := 26, nameIndex := 312, descriptorIndex := 313, attributes := #[] }, { accessFlags := 18, nameIndex := 11, descriptorIndex := 12, attributes := #[] }, { accessFlags := 18, nameIndex := 15, descriptorIndex := 16, attributes := #[] }])
  fields := #[{ name := "LISTEN_HTTP", type := (.object "java/lang/String"), accessFlags := 24, slot := 0, constantValue := 0 }, { name := "LISTEN_HTTPS", type := (.object "java/lang/String"), accessFlags := 24, slot := 1, constantValue := 0 }, { name := "DURATION", type := (.object "java/util/regex/Pattern"), accessFlags := 26, slot := 2, constantValue := 0 }, { name := "file", type := (.object "java/nio/file/Path"), accessFlags := 18, slot := 0, constantValue := 0 }, { name := "settings", type := (.object "java/util/Map"), accessFlags := 18, slot := 1, constantValue := 0 }]
  methods := #[k12m0]
  instanceTypes := #[(.object "java/nio/file/Path"), (.object "java/util/Map")]
  staticTypes := #[(.object "java/lang/String"), (.object "java/lang/String"), (.object "java/util/regex/Pattern")]
  resolved := Array.replicate 459 none
  statics := none }

def pool13 : Array CpInfo := pool [(9, u "<init>"), (6, .class_ 18), (1, u "java/lang/Object"), (0, u "()V"), (1, .class_ 23), (1, u "jdk/internal/util/ArraysSupport"), (0, u "LOG2_ARRAY_LONG_INDEX_SCALE"), (0, u "I"), (2, u "U"), (0, u "Ljdk/internal/misc/Unsafe;"), (8, u "BIG_ENDIAN"), (0, u "Z"), (8, u "LOG2_BYTE_BIT_SIZE"), (4, u "LOG2_ARRAY_INT_INDEX_SCALE"), (54, u "JLA"), (0, u "Ljdk/internal/access/JavaLangAccess;"), (11, u "LOG2_ARRAY_BOOLEAN_INDEX_SCALE"), (9, u "LOG2_ARRAY_BYTE_INDEX_SCALE"), (5, u "LOG2_ARRAY_CHAR_INDEX_SCALE"), (5, u "LOG2_ARRAY_SHORT_INDEX_SCALE"), (5, u "mismatch"), (12, u "LOG2_ARRAY_FLOAT_INDEX_SCALE"), (24, u "LOG2_ARRAY_DOUBLE_INDEX_SCALE"), (89, u "T_BOOLEAN"), (2, u "T_CHAR"), (1, u "T_FLOAT"), (1, u "T_DOUBLE"), (1, u "T_BYTE"), (1, u "T_SHORT"), (1, u "T_INT"), (1, u "T_LONG"), (1, u "SOFT_MAX_ARRAY_LENGTH"), (42, u "([BI[BII)I")] 40

def k13m0 : Method := { name := "<init>", desc := "()V", sig := { parameters := [], returnType := none }, accessFlags := 2, code := none }
def k13c1 : Code := { maxStack := 8, maxLocals := 8, code := jdk_48_method_14_code, exceptionTable := #[], attributes := #[] }
def k13m1 : Method := { name := "mismatch", desc := "([BI[BII)I", sig := { parameters := [(.array .byte), .int, (.array .byte), .int, .int], returnType := some .int }, accessFlags := 9, code := some k13c1 }
/-- jdk/internal/util/ArraysSupport -/
def k13 : Class := { plain "jdk/internal/util/ArraysSupport" (some 0) with
  accessFlags := 33
  interfaces := #[]
  cf := some (fileOf pool13 21 #[] #[{ accessFlags := 2, nameIndex := 9, descriptorIndex := 19, attributes := #[] }, { accessFlags := 9, nameIndex := 149, descriptorIndex := 337, attributes := #[] }] 33 16 #[] #[{ accessFlags := 24, nameIndex := 28, descriptorIndex := 29, attributes := #[] }, { accessFlags := 26, nameIndex := 38, descriptorIndex := 39, attributes := #[] }, { accessFlags := 25, nameIndex := 121, descriptorIndex := 25, attributes := #[] }, { accessFlags := 25, nameIndex := 131, descriptorIndex := 25, attributes := #[] }, { accessFlags := 25, nameIndex := 137, descriptorIndex := 25, attributes := #[] }, { accessFlags := 25, nameIndex := 143, descriptorIndex := 25, attributes := #[] }, { accessFlags := 25, nameIndex := 53, descriptorIndex := 25, attributes := #[] }, { accessFlags := 25, nameIndex := 24, descriptorIndex := 25, attributes := #[] }, { accessFlags := 25, nameIndex := 162, descriptorIndex := 25, attributes := #[] }, { accessFlags := 25, nameIndex := 187, descriptorIndex := 25, attributes := #[] }, { accessFlags := 26, nameIndex := 48, descriptorIndex := 25, attributes := #[] }, { accessFlags := 25, nameIndex := 277, descriptorIndex := 25, attributes := #[] }, { accessFlags := 25, nameIndex := 280, descriptorIndex := 25, attributes := #[] }, { accessFlags := 25, nameIndex := 282, descriptorIndex := 25, attributes := #[] }, { accessFlags := 25, nameIndex := 284, descriptorIndex := 25, attributes := #[] }, { accessFlags := 25, nameIndex := 286, descriptorIndex := 25, attributes := #[] }, { accessFlags := 25, nameIndex := 288, descriptorIndex := 25, attributes := #[] }, { accessFlags := 25, nameIndex := 290, descriptorIndex := 25, attributes := #[] }, { accessFlags := 25, nameIndex := 292, descriptorIndex := 25, attributes := #[] }, { accessFlags := 26, nameIndex := 108, descriptorIndex := 109, attributes := #[] }, { accessFlags := 25, nameIndex := 294, descriptorIndex := 25, attributes := #[] }])
  fields := #[{ name := "U", type := (.object "jdk/internal/misc/Unsafe"), accessFlags := 24, slot := 0, constantValue := 0 }, { name := "BIG_ENDIAN", type := .boolean, accessFlags := 26, slot := 1, constantValue := 0 }, { name := "LOG2_ARRAY_BOOLEAN_INDEX_SCALE", type := .int, accessFlags := 25, slot := 2, constantValue := 0 }, { name := "LOG2_ARRAY_BYTE_INDEX_SCALE", type := .int, accessFlags := 25, slot := 3, constantValue := 0 }, { name := "LOG2_ARRAY_CHAR_INDEX_SCALE", type := .int, accessFlags := 25, slot := 4, constantValue := 0 }, { name := "LOG2_ARRAY_SHORT_INDEX_SCALE", type := .int, accessFlags := 25, slot := 5, constantValue := 0 }, { name := "LOG2_ARRAY_INT_INDEX_SCALE", type := .int, accessFlags := 25, slot := 6, constantValue := 0 }, { name := "LOG2_ARRAY_LONG_INDEX_SCALE", type := .int, accessFlags := 25, slot := 7, constantValue := 0 }, { name := "LOG2_ARRAY_FLOAT_INDEX_SCALE", type := .int, accessFlags := 25, slot := 8, constantValue := 0 }, { name := "LOG2_ARRAY_DOUBLE_INDEX_SCALE", type := .int, accessFlags := 25, slot := 9, constantValue := 0 }, { name := "LOG2_BYTE_BIT_SIZE", type := .int, accessFlags := 26, slot := 10, constantValue := 0 }, { name := "T_BOOLEAN", type := .int, accessFlags := 25, slot := 11, constantValue := 0 }, { name := "T_CHAR", type := .int, accessFlags := 25, slot := 12, constantValue := 0 }, { name := "T_FLOAT", type := .int, accessFlags := 25, slot := 13, constantValue := 0 }, { name := "T_DOUBLE", type := .int, accessFlags := 25, slot := 14, constantValue := 0 }, { name := "T_BYTE", type := .int, accessFlags := 25, slot := 15, constantValue := 0 }, { name := "T_SHORT", type := .int, accessFlags := 25, slot := 16, constantValue := 0 }, { name := "T_INT", type := .int, accessFlags := 25, slot := 17, constantValue := 0 }, { name := "T_LONG", type := .int, accessFlags := 25, slot := 18, constantValue := 0 }, { name := "JLA", type := (.object "jdk/internal/access/JavaLangAccess"), accessFlags := 26, slot := 19, constantValue := 0 }, { name := "SOFT_MAX_ARRAY_LENGTH", type := .int, accessFlags := 25, slot := 20, constantValue := 0 }]
  methods := #[k13m0, k13m1]
  instanceTypes := #[]
  staticTypes := #[(.object "jdk/internal/misc/Unsafe"), .boolean, .int, .int, .int, .int, .int, .int, .int, .int, .int, .int, .int, .int, .int, .int, .int, .int, .int, (.object "jdk/internal/access/JavaLangAccess"), .int]
  resolved := Array.replicate 378 none
  statics := none }

def pool14 : Array CpInfo := pool [(2, .class_ 4), (1, u "java/lang/Object"), (0, u "<init>"), (0, u "()V"), (17, .class_ 26), (1, u "jdk/internal/util/Preconditions"), (6, u "checkIndex"), (21, .class_ 56), (0, u "jdk/internal/util/Preconditions$4"), (57, .class_ 115), (0, u "jdk/internal/util/Preconditions$1"), (7, u "SIOOBE_FORMATTER"), (0, u "Ljava/util/function/BiFunction;"), (0, .class_ 126), (0, u "jdk/internal/util/Preconditions$2"), (3, u "AIOOBE_FORMATTER"), (0, .class_ 132), (0, u "jdk/internal/util/Preconditions$3"), (3, u "IOOBE_FORMATTER"), (41, u "(IILjava/util/function/BiFunction;)I")] 15

def k14m0 : Method := { name := "<init>", desc := "()V", sig := { parameters := [], returnType := none }, accessFlags := 1, code := none }
def k14c1 : Code := { maxStack := 3, maxLocals := 3, code := jdk_41_method_11_code, exceptionTable := #[], attributes := #[] }
def k14m1 : Method := { name := "checkIndex", desc := "(IILjava/util/function/BiFunction;)I", sig := { parameters := [.int, .int, (.object "java/util/function/BiFunction")], returnType := some .int }, accessFlags := 9, code := some k14c1 }
/-- jdk/internal/util/Preconditions -/
def k14 : Class := { plain "jdk/internal/util/Preconditions" (some 0) with
  accessFlags := 33
  interfaces := #[]
  cf := some (fileOf pool14 24 #[.nestMembers #[55, 131, 125, 114]] #[{ accessFlags := 1, nameIndex := 5, descriptorIndex := 6, attributes := #[] }, { accessFlags := 9, nameIndex := 33, descriptorIndex := 178, attributes := #[] }] 33 2 #[] #[{ accessFlags := 25, nameIndex := 123, descriptorIndex := 124, attributes := #[] }, { accessFlags := 25, nameIndex := 130, descriptorIndex := 124, attributes := #[] }, { accessFlags := 25, nameIndex := 136, descriptorIndex := 124, attributes := #[] }])
  fields := #[{ name := "SIOOBE_FORMATTER", type := (.object "java/util/function/BiFunction"), accessFlags := 25, slot := 0, constantValue := 0 }, { name := "AIOOBE_FORMATTER", type := (.object "java/util/function/BiFunction"), accessFlags := 25, slot := 1, constantValue := 0 }, { name := "IOOBE_FORMATTER", type := (.object "java/util/function/BiFunction"), accessFlags := 25, slot := 2, constantValue := 0 }]
  methods := #[k14m0, k14m1]
  instanceTypes := #[]
  staticTypes := #[(.object "java/util/function/BiFunction"), (.object "java/util/function/BiFunction"), (.object "java/util/function/BiFunction")]
  resolved := Array.replicate 194 none
  statics := some 1 }

def pool15 : Array CpInfo := pool [(1, u "java/lang/Cloneable"), (0, .class_ 1), (0, u "java/lang/Object"), (0, .class_ 3)] 3

/-- java/lang/Cloneable -/
def k15 : Class := { plain "java/lang/Cloneable" (some 0) with
  accessFlags := 1537
  interfaces := #[]
  cf := some (fileOf pool15 2 #[] #[] 1537 4 #[] #[])
  fields := #[]
  methods := #[]
  instanceTypes := #[]
  staticTypes := #[]
  resolved := Array.replicate 8 none
  statics := none }

/-- the primitive byte -/
def k16 : Class := { plain "byte" none with kind := .primitive 'B', accessFlags := 0x411 }
/-- [B -/
def k17 : Class := { plain "[B" (some 0) with kind := .array 16 .byte, interfaces := #[15, 2], accessFlags := 1041 }

/-- the primitive char -/
def k18 : Class := { plain "char" none with kind := .primitive 'C', accessFlags := 0x411 }
/-- [C -/
def k19 : Class := { plain "[C" (some 0) with kind := .array 18 .char, interfaces := #[15, 2], accessFlags := 1041 }

/-- the primitive int -/
def k20 : Class := { plain "int" none with kind := .primitive 'I', accessFlags := 0x411 }
/-- [I -/
def k21 : Class := { plain "[I" (some 0) with kind := .array 20 .int, interfaces := #[15, 2], accessFlags := 1041 }

def heap : Heap := #[{ cls := 7, slots := #[.long 0, .int 1, .null, .int 0, .null, .int 0, .int 0], vm := .statics 7 },
  { cls := 14, slots := #[.null, .null, .null], vm := .statics 14 }]
def classes : Array Class := #[k0, k1, k2, k3, k4, k5, k6, k7, k8, k9, k10, k11, k12, k13, k14, k15, k16, k17, k18, k19, k20, k21]
def interned : List (Array UInt16 × Addr) := []
def slotsUsed : Nat := 10
def theMethod : MethodId := ⟨1, 1⟩
def args0 : Array Value := #[.int 0, .int 1, .int 2, .int 3, .int 4]
def aboutOver (below : List Frame) : State where
  vm := { classes := classes, interned := interned.toArray }
  heap := heap
  slotsUsed := slotsUsed
  threads := #[{ frames := .invoking theMethod args0 :: below }]
def below0 : List Frame := [.native { method := ⟨0, 0⟩, args := #[] }]
def about1 : State := aboutOver below0
def p0 : Program := .bare "" "" ""
def e0 : Env := launch0.env 0 0 0
theorem w_frames : about1.frames = Frame.invoking theMethod args0 :: below0 := rfl
set_option maxRecDepth 65536 in
theorem w_args : argsFit about1.vm theMethod args0 = true := by decide +kernel
set_option maxRecDepth 65536 in
theorem w_heap : heapFits about1 = true := by decide +kernel
set_option maxRecDepth 65536 in
theorem w_runnable : about1.curStatus? = some .runnable := by decide +kernel
set_option maxRecDepth 65536 in
theorem w_alone : about1.alone = true := by decide +kernel
set_option maxRecDepth 65536 in
theorem w_named : about1.methodNamed? x = some theMethod := by decide +kernel
set_option maxRecDepth 65536 in
theorem w_hears : about1.hears theMethod below0 = true := by decide +kernel
set_option maxRecDepth 65536 in
theorem w_ripe : about1.ripe theMethod args0 below0 = true := by decide +kernel
theorem w_running : about1.status = .running := rfl
set_option maxRecDepth 65536 in
theorem w_room : about1.hasRoom e0.platform room_1 = true :=
  launch0.hasRoom_least _ room_1 (by decide +kernel) (by decide +kernel) (by decide +kernel) (by decide +kernel) (by decide +kernel) (by decide +kernel)
theorem allAtoms_all (ts : List Jvm.Cond) (a : Array Jvm.Value) (st : Jvm.State) : (allAtoms ts).before a st = ts.all (fun c => c.before a st) := by
  induction ts with
  | nil => rfl
  | cons c t ih =>
    show (Jvm.Cond.and c (allAtoms t)).before a st = _
    rw [Jvm.Cond.before_and, ih, List.all_cons]
def words1 : List Jvm.Cond := Jvm.Cond.code x code maxLocals ret :: tables_1
/-- a 'code' word, met by the world's own term for the bytes: nothing is compared byte by byte -/
theorem code_word {y : MethodName} {bytes : ByteArray} {mx : Nat} {rt : Option FieldType} {a : Array Value} {s : State} {m : MethodId} {meth : Method} {c : Code} (h1 : s.methodNamed? y = some m) (h2 : s.vm.method? m = some meth) (h3 : meth.code = some c) (h4 : c.code = bytes)
    (h5 : (c.maxLocals == mx && c.exceptionTable.isEmpty && decide (c.maxStack ≤ mostOperands) && decide (meth.sig.returnType = rt) && !meth.locks && decide (parseMethodDescriptor y.desc = some meth.sig)) = true) : (Jvm.Cond.code y bytes mx rt).before a s = true := by
  simp only [Bool.and_eq_true, beq_iff_eq, Bool.not_eq_true', decide_eq_true_eq] at h5
  obtain ⟨⟨⟨⟨⟨g1, g2⟩, g3⟩, g4⟩, g5⟩, g6⟩ := h5
  simp [Cond.before, Cond.holds, Cond.value, h1, h2, h3, h4, g1, g2, g3, g4, g5, g6]
def isCode : Jvm.Cond → Bool
  | .code _ _ _ _ => true
  | _ => false
theorem all_split {L : List Jvm.Cond} {P : Jvm.Cond → Bool} (h1 : L.all (fun c => isCode c || P c) = true) (h2 : ∀ c ∈ L.filter isCode, P c = true) : L.all P = true := by
  refine List.all_eq_true.mpr fun c hc => ?_
  have h := List.all_eq_true.mp h1 c hc
  rcases Bool.eq_false_or_eq_true (isCode c) with hi | hi
  · exact h2 c (List.mem_filter.mpr ⟨hc, hi⟩)
  · simpa [hi] using h
set_option maxRecDepth 65536 in
theorem w_c0 : (Jvm.Cond.code x code maxLocals ret).before args0 about1 = true := code_word (m := ⟨1, 1⟩) (meth := k1m1) (c := k1c1) (by decide +kernel) rfl rfl rfl (by decide +kernel)
set_option maxRecDepth 65536 in
theorem w_c1 : (Jvm.Cond.code ({ cls := "java/lang/String", name := "<init>", desc := "([C)V" } : Jvm.MethodName) jdk_42_method_3_code (2 : Nat) (Option.none : Option Jvm.ClassFile.FieldType)).before args0 about1 = true := code_word (m := ⟨7, 1⟩) (meth := k7m1) (c := k7c1) (by decide +kernel) rfl rfl rfl (by decide +kernel)
set_option maxRecDepth 65536 in
theorem w_c2 : (Jvm.Cond.code ({ cls := "java/lang/String", name := "<init>", desc := "([CIILjava/lang/Void;)V" } : Jvm.MethodName) jdk_42_method_149_code (6 : Nat) (Option.none : Option Jvm.ClassFile.FieldType)).before args0 about1 = true := code_word (m := ⟨7, 8⟩) (meth := k7m8) (c := k7c8) (by decide +kernel) rfl rfl rfl (by decide +kernel)
set_option maxRecDepth 65536 in
theorem w_c3 : (Jvm.Cond.code ({ cls := "java/lang/Object", name := "<init>", desc := "()V" } : Jvm.MethodName) object_method_1_code (1 : Nat) (Option.none : Option Jvm.ClassFile.FieldType)).before args0 about1 = true := code_word (m := ⟨0, 0⟩) (meth := k0m0) (c := k0c0) (by decide +kernel) rfl rfl rfl (by decide +kernel)
set_option maxRecDepth 65536 in
theorem w_c4 : (Jvm.Cond.code ({ cls := "java/lang/StringUTF16", name := "compress", desc := "([CII)[B" } : Jvm.MethodName) jdk_52_method_16_code (6 : Nat) (Option.some (Jvm.ClassFile.FieldType.array Jvm.ClassFile.FieldType.byte))).before args0 about1 = true := code_word (m := ⟨8, 2⟩) (meth := k8m2) (c := k8c2) (by decide +kernel) rfl rfl rfl (by decide +kernel)
set_option maxRecDepth 65536 in
theorem w_c5 : (Jvm.Cond.code ({ cls := "java/lang/StringUTF16", name := "compress", desc := "([CI[BII)I" } : Jvm.MethodName) jdk_52_method_21_code (7 : Nat) (Option.some Jvm.ClassFile.FieldType.int)).before args0 about1 = true := code_word (m := ⟨8, 3⟩) (meth := k8m3) (c := k8c3) (by decide +kernel) rfl rfl rfl (by decide +kernel)
set_option maxRecDepth 65536 in
theorem w_c6 : (Jvm.Cond.code ({ cls := "java/lang/StringUTF16", name := "coderFromArrayLen", desc := "([BI)B" } : Jvm.MethodName) jdk_52_method_15_code (2 : Nat) (Option.some Jvm.ClassFile.FieldType.byte)).before args0 about1 = true := code_word (m := ⟨8, 1⟩) (meth := k8m1) (c := k8c1) (by decide +kernel) rfl rfl rfl (by decide +kernel)
set_option maxRecDepth 65536 in
theorem w_c7 : (Jvm.Cond.code ({ cls := "java/lang/String", name := "valueOf", desc := "(C)Ljava/lang/String;" } : Jvm.MethodName) jdk_42_method_139_code (1 : Nat) (Option.some (Jvm.ClassFile.FieldType.object "java/lang/String"))).before args0 about1 = true := code_word (m := ⟨7, 7⟩) (meth := k7m7) (c := k7c7) (by decide +kernel) rfl rfl rfl (by decide +kernel)
set_option maxRecDepth 65536 in
theorem w_c8 : (Jvm.Cond.code ({ cls := "java/lang/StringLatin1", name := "canEncode", desc := "(C)Z" } : Jvm.MethodName) jdk_43_method_3_code (1 : Nat) (Option.some Jvm.ClassFile.FieldType.boolean)).before args0 about1 = true := code_word (m := ⟨9, 2⟩) (meth := k9m2) (c := k9c2) (by decide +kernel) rfl rfl rfl (by decide +kernel)
set_option maxRecDepth 65536 in
theorem w_c9 : (Jvm.Cond.code ({ cls := "java/lang/StringLatin1", name := "toBytes", desc := "(C)[B" } : Jvm.MethodName) jdk_43_method_46_code (1 : Nat) (Option.some (Jvm.ClassFile.FieldType.array Jvm.ClassFile.FieldType.byte))).before args0 about1 = true := code_word (m := ⟨9, 3⟩) (meth := k9m3) (c := k9c3) (by decide +kernel) rfl rfl rfl (by decide +kernel)
set_option maxRecDepth 65536 in
theorem w_c10 : (Jvm.Cond.code ({ cls := "java/lang/String", name := "<init>", desc := "([BB)V" } : Jvm.MethodName) jdk_42_method_151_code (3 : Nat) (Option.none : Option Jvm.ClassFile.FieldType)).before args0 about1 = true := code_word (m := ⟨7, 9⟩) (meth := k7m9) (c := k7c9) (by decide +kernel) rfl rfl rfl (by decide +kernel)
set_option maxRecDepth 65536 in
theorem w_c11 : (Jvm.Cond.code ({ cls := "com/example/torbund/torbund/ConfigFile$Setting", name := "<init>", desc := "(Ljava/lang/String;Ljava/lang/String;)V" } : Jvm.MethodName) prog_4_method_1_code (3 : Nat) (Option.none : Option Jvm.ClassFile.FieldType)).before args0 about1 = true := code_word (m := ⟨11, 0⟩) (meth := k11m0) (c := k11c0) (by decide +kernel) rfl rfl rfl (by decide +kernel)
set_option maxRecDepth 65536 in
theorem w_c12 : (Jvm.Cond.code ({ cls := "java/lang/Record", name := "<init>", desc := "()V" } : Jvm.MethodName) jdk_30_method_1_code (1 : Nat) (Option.none : Option Jvm.ClassFile.FieldType)).before args0 about1 = true := code_word (m := ⟨10, 0⟩) (meth := k10m0) (c := k10c0) (by decide +kernel) rfl rfl rfl (by decide +kernel)
set_option maxRecDepth 65536 in
theorem w_c13 : (Jvm.Cond.code ({ cls := "com/example/torbund/torbund/ConfigFile", name := "prefix", desc := "(Lcom/example/torbund/torbund/ConfigFile$Setting;)Ljava/lang/String;" } : Jvm.MethodName) prog_3_method_14_code (2 : Nat) (Option.some (Jvm.ClassFile.FieldType.object "java/lang/String"))).before args0 about1 = true := code_word (m := ⟨12, 0⟩) (meth := k12m0) (c := k12c0) (by decide +kernel) rfl rfl rfl (by decide +kernel)
set_option maxRecDepth 65536 in
theorem w_c14 : (Jvm.Cond.code ({ cls := "com/example/torbund/torbund/ConfigFile$Setting", name := "value", desc := "()Ljava/lang/String;" } : Jvm.MethodName) prog_4_method_5_code (1 : Nat) (Option.some (Jvm.ClassFile.FieldType.object "java/lang/String"))).before args0 about1 = true := code_word (m := ⟨11, 1⟩) (meth := k11m1) (c := k11c1) (by decide +kernel) rfl rfl rfl (by decide +kernel)
set_option maxRecDepth 65536 in
theorem w_c15 : (Jvm.Cond.code ({ cls := "java/lang/String", name := "startsWith", desc := "(Ljava/lang/String;)Z" } : Jvm.MethodName) jdk_42_method_76_code (2 : Nat) (Option.some Jvm.ClassFile.FieldType.boolean)).before args0 about1 = true := code_word (m := ⟨7, 6⟩) (meth := k7m6) (c := k7c6) (by decide +kernel) rfl rfl rfl (by decide +kernel)
set_option maxRecDepth 65536 in
theorem w_c16 : (Jvm.Cond.code ({ cls := "java/lang/String", name := "startsWith", desc := "(Ljava/lang/String;I)Z" } : Jvm.MethodName) jdk_42_method_75_code (8 : Nat) (Option.some Jvm.ClassFile.FieldType.boolean)).before args0 about1 = true := code_word (m := ⟨7, 5⟩) (meth := k7m5) (c := k7c5) (by decide +kernel) rfl rfl rfl (by decide +kernel)
set_option maxRecDepth 65536 in
theorem w_c17 : (Jvm.Cond.code ({ cls := "java/lang/String", name := "length", desc := "()I" } : Jvm.MethodName) jdk_42_method_54_code (1 : Nat) (Option.some Jvm.ClassFile.FieldType.int)).before args0 about1 = true := code_word (m := ⟨7, 2⟩) (meth := k7m2) (c := k7c2) (by decide +kernel) rfl rfl rfl (by decide +kernel)
set_option maxRecDepth 65536 in
theorem w_c18 : (Jvm.Cond.code ({ cls := "java/lang/String", name := "coder", desc := "()B" } : Jvm.MethodName) jdk_42_method_152_code (1 : Nat) (Option.some Jvm.ClassFile.FieldType.byte)).before args0 about1 = true := code_word (m := ⟨7, 10⟩) (meth := k7m10) (c := k7c10) (by decide +kernel) rfl rfl rfl (by decide +kernel)
set_option maxRecDepth 65536 in
theorem w_c19 : (Jvm.Cond.code ({ cls := "jdk/internal/util/ArraysSupport", name := "mismatch", desc := "([BI[BII)I" } : Jvm.MethodName) jdk_48_method_14_code (8 : Nat) (Option.some Jvm.ClassFile.FieldType.int)).before args0 about1 = true := code_word (m := ⟨13, 1⟩) (meth := k13m1) (c := k13c1) (by decide +kernel) rfl rfl rfl (by decide +kernel)
set_option maxRecDepth 65536 in
theorem w_c20 : (Jvm.Cond.code ({ cls := "java/lang/String", name := "equals", desc := "(Ljava/lang/Object;)Z" } : Jvm.MethodName) jdk_42_method_66_code (3 : Nat) (Option.some Jvm.ClassFile.FieldType.boolean)).before args0 about1 = true := code_word (m := ⟨7, 4⟩) (meth := k7m4) (c := k7c4) (by decide +kernel) rfl rfl rfl (by decide +kernel)
set_option maxRecDepth 65536 in
theorem w_c21 : (Jvm.Cond.code ({ cls := "java/lang/String", name := "charAt", desc := "(I)C" } : Jvm.MethodName) jdk_42_method_56_code (2 : Nat) (Option.some Jvm.ClassFile.FieldType.char)).before args0 about1 = true := code_word (m := ⟨7, 3⟩) (meth := k7m3) (c := k7c3) (by decide +kernel) rfl rfl rfl (by decide +kernel)
set_option maxRecDepth 65536 in
theorem w_c22 : (Jvm.Cond.code ({ cls := "java/lang/String", name := "isLatin1", desc := "()Z" } : Jvm.MethodName) jdk_42_method_154_code (1 : Nat) (Option.some Jvm.ClassFile.FieldType.boolean)).before args0 about1 = true := code_word (m := ⟨7, 11⟩) (meth := k7m11) (c := k7c11) (by decide +kernel) rfl rfl rfl (by decide +kernel)
set_option maxRecDepth 65536 in
theorem w_c23 : (Jvm.Cond.code ({ cls := "java/lang/StringLatin1", name := "charAt", desc := "([BI)C" } : Jvm.MethodName) jdk_43_method_2_code (2 : Nat) (Option.some Jvm.ClassFile.FieldType.char)).before args0 about1 = true := code_word (m := ⟨9, 1⟩) (meth := k9m1) (c := k9c1) (by decide +kernel) rfl rfl rfl (by decide +kernel)
set_option maxRecDepth 65536 in
theorem w_c24 : (Jvm.Cond.code ({ cls := "java/lang/String", name := "checkIndex", desc := "(II)V" } : Jvm.MethodName) jdk_42_method_155_code (2 : Nat) (Option.none : Option Jvm.ClassFile.FieldType)).before args0 about1 = true := code_word (m := ⟨7, 12⟩) (meth := k7m12) (c := k7c12) (by decide +kernel) rfl rfl rfl (by decide +kernel)
set_option maxRecDepth 65536 in
theorem w_c25 : (Jvm.Cond.code ({ cls := "jdk/internal/util/Preconditions", name := "checkIndex", desc := "(IILjava/util/function/BiFunction;)I" } : Jvm.MethodName) jdk_41_method_11_code (3 : Nat) (Option.some Jvm.ClassFile.FieldType.int)).before args0 about1 = true := code_word (m := ⟨14, 1⟩) (meth := k14m1) (c := k14c1) (by decide +kernel) rfl rfl rfl (by decide +kernel)
def codes1 : List Jvm.Cond := [Jvm.Cond.code x code maxLocals ret, Jvm.Cond.code ({ cls := "java/lang/String", name := "<init>", desc := "([C)V" } : Jvm.MethodName) jdk_42_method_3_code (2 : Nat) (Option.none : Option Jvm.ClassFile.FieldType), Jvm.Cond.code ({ cls := "java/lang/String", name := "<init>", desc := "([CIILjava/lang/Void;)V" } : Jvm.MethodName) jdk_42_method_149_code (6 : Nat) (Option.none : Option Jvm.ClassFile.FieldType), Jvm.Cond.code ({ cls := "java/lang/Object", name := "<init>", desc := "()V" } : Jvm.MethodName) object_method_1_code (1 : Nat) (Option.none : Option Jvm.ClassFile.FieldType), Jvm.Cond.code ({ cls := "java/lang/StringUTF16", name := "compress", desc := "([CII)[B" } : Jvm.MethodName) jdk_52_method_16_code (6 : Nat) (Option.some (Jvm.ClassFile.FieldType.array Jvm.ClassFile.FieldType.byte)), Jvm.Cond.code ({ cls := "java/lang/StringUTF16", name := "compress", desc := "([CI[BII)I" } : Jvm.MethodName) jdk_52_method_21_code (7 : Nat) (Option.some Jvm.ClassFile.FieldType.int), Jvm.Cond.code ({ cls := "java/lang/StringUTF16", name := "coderFromArrayLen", desc := "([BI)B" } : Jvm.MethodName) jdk_52_method_15_code (2 : Nat) (Option.some Jvm.ClassFile.FieldType.byte), Jvm.Cond.code ({ cls := "java/lang/String", name := "valueOf", desc := "(C)Ljava/lang/String;" } : Jvm.MethodName) jdk_42_method_139_code (1 : Nat) (Option.some (Jvm.ClassFile.FieldType.object "java/lang/String")), Jvm.Cond.code ({ cls := "java/lang/StringLatin1", name := "canEncode", desc := "(C)Z" } : Jvm.MethodName) jdk_43_method_3_code (1 : Nat) (Option.some Jvm.ClassFile.FieldType.boolean), Jvm.Cond.code ({ cls := "java/lang/StringLatin1", name := "toBytes", desc := "(C)[B" } : Jvm.MethodName) jdk_43_method_46_code (1 : Nat) (Option.some (Jvm.ClassFile.FieldType.array Jvm.ClassFile.FieldType.byte)), Jvm.Cond.code ({ cls := "java/lang/String", name := "<init>", desc := "([BB)V" } : Jvm.MethodName) jdk_42_method_151_code (3 : Nat) (Option.none : Option Jvm.ClassFile.FieldType), Jvm.Cond.code ({ cls := "com/example/torbund/torbund/ConfigFile$Setting", name := "<init>", desc := "(Ljava/lang/String;Ljava/lang/String;)V" } : Jvm.MethodName) prog_4_method_1_code (3 : Nat) (Option.none : Option Jvm.ClassFile.FieldType), Jvm.Cond.code ({ cls := "java/lang/Record", name := "<init>", desc := "()V" } : Jvm.MethodName) jdk_30_method_1_code (1 : Nat) (Option.none : Option Jvm.ClassFile.FieldType), Jvm.Cond.code ({ cls := "com/example/torbund/torbund/ConfigFile", name := "prefix", desc := "(Lcom/example/torbund/torbund/ConfigFile$Setting;)Ljava/lang/String;" } : Jvm.MethodName) prog_3_method_14_code (2 : Nat) (Option.some (Jvm.ClassFile.FieldType.object "java/lang/String")), Jvm.Cond.code ({ cls := "com/example/torbund/torbund/ConfigFile$Setting", name := "value", desc := "()Ljava/lang/String;" } : Jvm.MethodName) prog_4_method_5_code (1 : Nat) (Option.some (Jvm.ClassFile.FieldType.object "java/lang/String")), Jvm.Cond.code ({ cls := "java/lang/String", name := "startsWith", desc := "(Ljava/lang/String;)Z" } : Jvm.MethodName) jdk_42_method_76_code (2 : Nat) (Option.some Jvm.ClassFile.FieldType.boolean), Jvm.Cond.code ({ cls := "java/lang/String", name := "startsWith", desc := "(Ljava/lang/String;I)Z" } : Jvm.MethodName) jdk_42_method_75_code (8 : Nat) (Option.some Jvm.ClassFile.FieldType.boolean), Jvm.Cond.code ({ cls := "java/lang/String", name := "length", desc := "()I" } : Jvm.MethodName) jdk_42_method_54_code (1 : Nat) (Option.some Jvm.ClassFile.FieldType.int), Jvm.Cond.code ({ cls := "java/lang/String", name := "coder", desc := "()B" } : Jvm.MethodName) jdk_42_method_152_code (1 : Nat) (Option.some Jvm.ClassFile.FieldType.byte), Jvm.Cond.code ({ cls := "jdk/internal/util/ArraysSupport", name := "mismatch", desc := "([BI[BII)I" } : Jvm.MethodName) jdk_48_method_14_code (8 : Nat) (Option.some Jvm.ClassFile.FieldType.int), Jvm.Cond.code ({ cls := "java/lang/String", name := "equals", desc := "(Ljava/lang/Object;)Z" } : Jvm.MethodName) jdk_42_method_66_code (3 : Nat) (Option.some Jvm.ClassFile.FieldType.boolean), Jvm.Cond.code ({ cls := "java/lang/String", name := "charAt", desc := "(I)C" } : Jvm.MethodName) jdk_42_method_56_code (2 : Nat) (Option.some Jvm.ClassFile.FieldType.char), Jvm.Cond.code ({ cls := "java/lang/String", name := "isLatin1", desc := "()Z" } : Jvm.MethodName) jdk_42_method_154_code (1 : Nat) (Option.some Jvm.ClassFile.FieldType.boolean), Jvm.Cond.code ({ cls := "java/lang/StringLatin1", name := "charAt", desc := "([BI)C" } : Jvm.MethodName) jdk_43_method_2_code (2 : Nat) (Option.some Jvm.ClassFile.FieldType.char), Jvm.Cond.code ({ cls := "java/lang/String", name := "checkIndex", desc := "(II)V" } : Jvm.MethodName) jdk_42_method_155_code (2 : Nat) (Option.none : Option Jvm.ClassFile.FieldType), Jvm.Cond.code ({ cls := "jdk/internal/util/Preconditions", name := "checkIndex", desc := "(IILjava/util/function/BiFunction;)I" } : Jvm.MethodName) jdk_41_method_11_code (3 : Nat) (Option.some Jvm.ClassFile.FieldType.int)]
set_option maxRecDepth 65536 in
theorem codes_eq : words1.filter isCode = codes1 := rfl
theorem w_codes : ∀ c ∈ words1.filter isCode, c.before args0 about1 = true := by
  rw [codes_eq]
  intro c hc
  simp only [codes1, List.mem_cons, List.not_mem_nil, or_false] at hc
  rcases hc with rfl | rfl | rfl | rfl | rfl | rfl | rfl | rfl | rfl | rfl | rfl | rfl | rfl | rfl | rfl | rfl | rfl | rfl | rfl | rfl | rfl | rfl | rfl | rfl | rfl | rfl
  · exact w_c0
  · exact w_c1
  · exact w_c2
  · exact w_c3
  · exact w_c4
  · exact w_c5
  · exact w_c6
  · exact w_c7
  · exact w_c8
  · exact w_c9
  · exact w_c10
  · exact w_c11
  · exact w_c12
  · exact w_c13
  · exact w_c14
  · exact w_c15
  · exact w_c16
  · exact w_c17
  · exact w_c18
  · exact w_c19
  · exact w_c20
  · exact w_c21
  · exact w_c22
  · exact w_c23
  · exact w_c24
  · exact w_c25
set_option maxRecDepth 65536 in
theorem w_t1 : (words1.take 24).all (fun c => isCode c || c.before args0 about1) = true := by decide +kernel
set_option maxRecDepth 65536 in
theorem w_t2 : ((words1.drop 24).take 24).all (fun c => isCode c || c.before args0 about1) = true := by decide +kernel
set_option maxRecDepth 65536 in
theorem w_t3 : (((words1.drop 24).drop 24).take 24).all (fun c => isCode c || c.before args0 about1) = true := by decide +kernel
set_option maxRecDepth 65536 in
theorem w_t4 : ((((words1.drop 24).drop 24).drop 24).take 24).all (fun c => isCode c || c.before args0 about1) = true := by decide +kernel
set_option maxRecDepth 65536 in
theorem w_t5 : (((((words1.drop 24).drop 24).drop 24).drop 24).take 24).all (fun c => isCode c || c.before args0 about1) = true := by decide +kernel
set_option maxRecDepth 65536 in
theorem w_t6 : (((((words1.drop 24).drop 24).drop 24).drop 24).drop 24).all (fun c => isCode c || c.before args0 about1) = true := by decide +kernel
theorem w_tables : (allAtoms (Jvm.Cond.code x code maxLocals ret :: tables_1)).before args0 about1 = true := by
  rw [allAtoms_all]
  show words1.all (fun c => c.before args0 about1) = true
  refine all_split ?_ w_codes
  rw [← List.take_append_drop 24 words1, List.all_append, w_t1, ← List.take_append_drop 24 (words1.drop 24), List.all_append, w_t2, ← List.take_append_drop 24 ((words1.drop 24).drop 24), List.all_append, w_t3, ← List.take_append_drop 24 (((words1.drop 24).drop 24).drop 24), List.all_append, w_t4, ← List.take_append_drop 24 ((((words1.drop 24).drop 24).drop 24).drop 24), List.all_append, w_t5, w_t6]
  rfl
set_option maxRecDepth 65536 in
theorem w_rest : rest_1_c.before args0 about1 = true := by decide +kernel
set_option maxRecDepth 65536 in
theorem w_case : (Jvm.Cond.and given_1 narrow_1).before args0 about1 = true := by decide +kernel
set_option maxRecDepth 65536 in
theorem w_consts : constsHeld consts_1 about1 := Jvm.Lit.constsHeldB_iff.mp (by decide +kernel)
theorem w_applies : (headSpec (Jvm.Cond.code x code maxLocals ret :: tables_1) room_1).applies x e0.platform about1 = true :=
  (Spec.applies_iff w_frames).mpr ⟨w_running, w_runnable, w_alone, w_named, w_hears, w_ripe, w_room, w_tables⟩
theorem atStart : AtStart classFile x code maxLocals ret World_1 tables_1 room_1 Calls_1 rest_1 Pre_1 launch0 p0 e0 about1 theMethod args0 below0 :=
  ⟨lists_1, trivial, launch0.admits_env _ _ _, launch0.least_env, fairChoices_fair.cas, fairChoices_fair.clock, w_frames, w_args, w_heap, w_applies, ⟨w_consts, trivial⟩, w_rest, w_case⟩
end start1
theorem witness_1 : WitnessClaimed_1 := ⟨start1.p0, start1.e0, start1.about1, start1.theMethod, start1.args0, start1.below0, start1.atStart⟩
end Jvm.Pilot.@@N@@
