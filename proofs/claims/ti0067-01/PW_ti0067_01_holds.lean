import PyProof.Rows.All
import Wide.All
import OpenK.AllK
import Wide.FinOn
import PySem.Challenge.RW_ti0067_01
set_option Elab.async false
set_option backward.eqns.nonrecursive false
set_option tactic.hygienic false
set_option bootstrap.genMatcherCode false
set_option linter.unusedSimpArgs false
set_option linter.unusedVariables false
namespace Mine
theorem ns.{u} {α:Type u} {a:α} {P:Prop} (h:none=some a):P:=nomatch h
theorem sn.{u} {α:Type u} {a:α} {P:Prop} (h:some a=none):P:=nomatch h
theorem ff {P:Prop} (h:false=true):P:=nomatch h
theorem tf {P:Prop} (h:true=false):P:=nomatch h
theorem nl.{u} {α:Type u} {a:α} {l:List α} {P:Prop} (h:[]=a::l):P:=nomatch h
theorem ln.{u} {α:Type u} {a:α} {l:List α} {P:Prop} (h:a::l=[]):P:=nomatch h
theorem iteE.{u} {α:Sort u} {c:Prop} [hc:Decidable c] {a b x:α} {P:Prop} (h:(if c then a else b)=x) (k1:c→a=x→P) (k2:¬ c→b=x→P):P:=
  match hc,h with
  | .isTrue q,h=>k1 q h
  | .isFalse q,h=>k2 q h
theorem q3k {P0 P1 P2:Prop} {G:Prop} (h:P0∧P1∧P2) (k:P0→P1→P2→G):G:=k h.1 h.2.1 h.2.2
theorem q9i {P0 P1 P2 P3:Prop} {G:Prop} (h:P0∧P1∧P2∧P3) (k:P0→P1→P2→P3→G):G:=k h.1 h.2.1 h.2.2.1 h.2.2.2
theorem q4n {P0 P1 P2 P3 P4:Prop} {G:Prop} (h:P0∧P1∧P2∧P3∧P4) (k:P0→P1→P2→P3→P4→G):G:=k h.1 h.2.1 h.2.2.1 h.2.2.2.1 h.2.2.2.2
theorem w2n {P0 P1 P2 P3 P4 P5:Prop} {G:Prop} (h:P0∧P1∧P2∧P3∧P4∧P5) (k:P0→P1→P2→P3→P4→P5→G):G:=k h.1 h.2.1 h.2.2.1 h.2.2.2.1 h.2.2.2.2.1 h.2.2.2.2.2
theorem q0a.{u0} {A0:Sort u0} {P0 P1:A0→Prop} {G:Prop} (h:∃ a0,P0 a0∧P1 a0) (k:∀ a0,P0 a0→P1 a0→G):G:=h.elim fun a0 h=>k a0 h.1 h.2
theorem q6e.{u0} {A0:Sort u0} {P0 P1 P2:A0→Prop} {G:Prop} (h:∃ a0,P0 a0∧P1 a0∧P2 a0) (k:∀ a0,P0 a0→P1 a0→P2 a0→G):G:=h.elim fun a0 h=>k a0 h.1 h.2.1 h.2.2
theorem z1u.{u0} {A0:Sort u0} {P0 P1 P2 P3:A0→Prop} {G:Prop} (h:∃ a0,P0 a0∧P1 a0∧P2 a0∧P3 a0) (k:∀ a0,P0 a0→P1 a0→P2 a0→P3 a0→G):G:=h.elim fun a0 h=>k a0 h.1 h.2.1 h.2.2.1 h.2.2.2
theorem q3i.{u0,u1} {A0:Sort u0} {A1:Sort u1} {P0:A0→A1→Prop} {G:Prop} (h:∃ a0,∃ a1,P0 a0 a1) (k:∀ a0 a1,P0 a0 a1→G):G:=h.elim fun a0 h=>h.elim fun a1 h=>k a0 a1 h
theorem q3l.{u0,u1} {A0:Sort u0} {A1:Sort u1} {P0 P1:A0→A1→Prop} {G:Prop} (h:∃ a0,∃ a1,P0 a0 a1∧P1 a0 a1) (k:∀ a0 a1,P0 a0 a1→P1 a0 a1→G):G:=h.elim fun a0 h=>h.elim fun a1 h=>k a0 a1 h.1 h.2
theorem q1g.{u0,u1} {A0:Sort u0} {A1:Sort u1} {P0 P1 P2:A0→A1→Prop} {G:Prop} (h:∃ a0,∃ a1,P0 a0 a1∧P1 a0 a1∧P2 a0 a1) (k:∀ a0 a1,P0 a0 a1→P1 a0 a1→P2 a0 a1→G):G:=h.elim fun a0 h=>h.elim fun a1 h=>k a0 a1 h.1 h.2.1 h.2.2
theorem q2x.{u0,u1} {A0:Sort u0} {A1:Sort u1} {P0 P1 P2 P3:A0→A1→Prop} {G:Prop} (h:∃ a0,∃ a1,P0 a0 a1∧P1 a0 a1∧P2 a0 a1∧P3 a0 a1) (k:∀ a0 a1,P0 a0 a1→P1 a0 a1→P2 a0 a1→P3 a0 a1→G):G:=h.elim fun a0 h=>h.elim fun a1 h=>k a0 a1 h.1 h.2.1 h.2.2.1 h.2.2.2
theorem k0t.{u0,u1,u2} {A0:Sort u0} {A1:Sort u1} {A2:Sort u2} {P0:A0→A1→A2→Prop} {G:Prop} (h:∃ a0,∃ a1,∃ a2,P0 a0 a1 a2) (k:∀ a0 a1 a2,P0 a0 a1 a2→G):G:=h.elim fun a0 h=>h.elim fun a1 h=>h.elim fun a2 h=>k a0 a1 a2 h
theorem z9m.{u0,u1,u2} {A0:Sort u0} {A1:Sort u1} {A2:Sort u2} {P0 P1:A0→A1→A2→Prop} {G:Prop} (h:∃ a0,∃ a1,∃ a2,P0 a0 a1 a2∧P1 a0 a1 a2) (k:∀ a0 a1 a2,P0 a0 a1 a2→P1 a0 a1 a2→G):G:=h.elim fun a0 h=>h.elim fun a1 h=>h.elim fun a2 h=>k a0 a1 a2 h.1 h.2
theorem k0u.{u0,u1,u2} {A0:Sort u0} {A1:Sort u1} {A2:Sort u2} {P0 P1 P2:A0→A1→A2→Prop} {G:Prop} (h:∃ a0,∃ a1,∃ a2,P0 a0 a1 a2∧P1 a0 a1 a2∧P2 a0 a1 a2) (k:∀ a0 a1 a2,P0 a0 a1 a2→P1 a0 a1 a2→P2 a0 a1 a2→G):G:=h.elim fun a0 h=>h.elim fun a1 h=>h.elim fun a2 h=>k a0 a1 a2 h.1 h.2.1 h.2.2
theorem k0v.{u0,u1,u2} {A0:Sort u0} {A1:Sort u1} {A2:Sort u2} {P0 P1 P2 P3:A0→A1→A2→Prop} {G:Prop} (h:∃ a0,∃ a1,∃ a2,P0 a0 a1 a2∧P1 a0 a1 a2∧P2 a0 a1 a2∧P3 a0 a1 a2) (k:∀ a0 a1 a2,P0 a0 a1 a2→P1 a0 a1 a2→P2 a0 a1 a2→P3 a0 a1 a2→G):G:=h.elim fun a0 h=>h.elim fun a1 h=>h.elim fun a2 h=>k a0 a1 a2 h.1 h.2.1 h.2.2.1 h.2.2.2
theorem w2o.{u0,u1,u2} {A0:Sort u0} {A1:Sort u1} {A2:Sort u2} {P0 P1 P2 P3 P4:A0→A1→A2→Prop} {G:Prop} (h:∃ a0,∃ a1,∃ a2,P0 a0 a1 a2∧P1 a0 a1 a2∧P2 a0 a1 a2∧P3 a0 a1 a2∧P4 a0 a1 a2) (k:∀ a0 a1 a2,P0 a0 a1 a2→P1 a0 a1 a2→P2 a0 a1 a2→P3 a0 a1 a2→P4 a0 a1 a2→G):G:=h.elim fun a0 h=>h.elim fun a1 h=>h.elim fun a2 h=>k a0 a1 a2 h.1 h.2.1 h.2.2.1 h.2.2.2.1 h.2.2.2.2
theorem k0w.{u0,u1,u2} {A0:Sort u0} {A1:Sort u1} {A2:Sort u2} {P0 P1 P2 P3 P4 P5 P6:A0→A1→A2→Prop} {G:Prop} (h:∃ a0,∃ a1,∃ a2,P0 a0 a1 a2∧P1 a0 a1 a2∧P2 a0 a1 a2∧P3 a0 a1 a2∧P4 a0 a1 a2∧P5 a0 a1 a2∧P6 a0 a1 a2) (k:∀ a0 a1 a2,P0 a0 a1 a2→P1 a0 a1 a2→P2 a0 a1 a2→P3 a0 a1 a2→P4 a0 a1 a2→P5 a0 a1 a2→P6 a0 a1 a2→G):G:=h.elim fun a0 h=>h.elim fun a1 h=>h.elim fun a2 h=>k a0 a1 a2 h.1 h.2.1 h.2.2.1 h.2.2.2.1 h.2.2.2.2.1 h.2.2.2.2.2.1 h.2.2.2.2.2.2
theorem k8g.{u0,u1,u2,u3} {A0:Sort u0} {A1:Sort u1} {A2:Sort u2} {A3:Sort u3} {P0 P1:A0→A1→A2→A3→Prop} {G:Prop} (h:∃ a0,∃ a1,∃ a2,∃ a3,P0 a0 a1 a2 a3∧P1 a0 a1 a2 a3) (k:∀ a0 a1 a2 a3,P0 a0 a1 a2 a3→P1 a0 a1 a2 a3→G):G:=h.elim fun a0 h=>h.elim fun a1 h=>h.elim fun a2 h=>h.elim fun a3 h=>k a0 a1 a2 a3 h.1 h.2
theorem k0x.{u0,u1,u2,u3} {A0:Sort u0} {A1:Sort u1} {A2:Sort u2} {A3:Sort u3} {P0 P1 P2:A0→A1→A2→A3→Prop} {G:Prop} (h:∃ a0,∃ a1,∃ a2,∃ a3,P0 a0 a1 a2 a3∧P1 a0 a1 a2 a3∧P2 a0 a1 a2 a3) (k:∀ a0 a1 a2 a3,P0 a0 a1 a2 a3→P1 a0 a1 a2 a3→P2 a0 a1 a2 a3→G):G:=h.elim fun a0 h=>h.elim fun a1 h=>h.elim fun a2 h=>h.elim fun a3 h=>k a0 a1 a2 a3 h.1 h.2.1 h.2.2
theorem k8h.{u0,u1,u2,u3} {A0:Sort u0} {A1:Sort u1} {A2:Sort u2} {A3:Sort u3} {P0 P1 P2 P3 P4:A0→A1→A2→A3→Prop} {G:Prop} (h:∃ a0,∃ a1,∃ a2,∃ a3,P0 a0 a1 a2 a3∧P1 a0 a1 a2 a3∧P2 a0 a1 a2 a3∧P3 a0 a1 a2 a3∧P4 a0 a1 a2 a3) (k:∀ a0 a1 a2 a3,P0 a0 a1 a2 a3→P1 a0 a1 a2 a3→P2 a0 a1 a2 a3→P3 a0 a1 a2 a3→P4 a0 a1 a2 a3→G):G:=h.elim fun a0 h=>h.elim fun a1 h=>h.elim fun a2 h=>h.elim fun a3 h=>k a0 a1 a2 a3 h.1 h.2.1 h.2.2.1 h.2.2.2.1 h.2.2.2.2
theorem z9n.{u0,u1,u2,u3,u4} {A0:Sort u0} {A1:Sort u1} {A2:Sort u2} {A3:Sort u3} {A4:Sort u4} {P0:A0→A1→A2→A3→A4→Prop} {G:Prop} (h:∃ a0,∃ a1,∃ a2,∃ a3,∃ a4,P0 a0 a1 a2 a3 a4) (k:∀ a0 a1 a2 a3 a4,P0 a0 a1 a2 a3 a4→G):G:=h.elim fun a0 h=>h.elim fun a1 h=>h.elim fun a2 h=>h.elim fun a3 h=>h.elim fun a4 h=>k a0 a1 a2 a3 a4 h
theorem q9j.{u0,u1,u2,u3,u4} {A0:Sort u0} {A1:Sort u1} {A2:Sort u2} {A3:Sort u3} {A4:Sort u4} {P0 P1 P2 P3 P4:A0→A1→A2→A3→A4→Prop} {G:Prop} (h:∃ a0,∃ a1,∃ a2,∃ a3,∃ a4,P0 a0 a1 a2 a3 a4∧P1 a0 a1 a2 a3 a4∧P2 a0 a1 a2 a3 a4∧P3 a0 a1 a2 a3 a4∧P4 a0 a1 a2 a3 a4) (k:∀ a0 a1 a2 a3 a4,P0 a0 a1 a2 a3 a4→P1 a0 a1 a2 a3 a4→P2 a0 a1 a2 a3 a4→P3 a0 a1 a2 a3 a4→P4 a0 a1 a2 a3 a4→G):G:=h.elim fun a0 h=>h.elim fun a1 h=>h.elim fun a2 h=>h.elim fun a3 h=>h.elim fun a4 h=>k a0 a1 a2 a3 a4 h.1 h.2.1 h.2.2.1 h.2.2.2.1 h.2.2.2.2
theorem k0y.{u0,u1,u2,u3,u4,u5} {A0:Sort u0} {A1:Sort u1} {A2:Sort u2} {A3:Sort u3} {A4:Sort u4} {A5:Sort u5} {P0:A0→A1→A2→A3→A4→A5→Prop} {G:Prop} (h:∃ a0,∃ a1,∃ a2,∃ a3,∃ a4,∃ a5,P0 a0 a1 a2 a3 a4 a5) (k:∀ a0 a1 a2 a3 a4 a5,P0 a0 a1 a2 a3 a4 a5→G):G:=h.elim fun a0 h=>h.elim fun a1 h=>h.elim fun a2 h=>h.elim fun a3 h=>h.elim fun a4 h=>h.elim fun a5 h=>k a0 a1 a2 a3 a4 a5 h
theorem z9o.{u0,u1,u2,u3,u4,u5} {A0:Sort u0} {A1:Sort u1} {A2:Sort u2} {A3:Sort u3} {A4:Sort u4} {A5:Sort u5} {P0 P1 P2 P3:A0→A1→A2→A3→A4→A5→Prop} {G:Prop} (h:∃ a0,∃ a1,∃ a2,∃ a3,∃ a4,∃ a5,P0 a0 a1 a2 a3 a4 a5∧P1 a0 a1 a2 a3 a4 a5∧P2 a0 a1 a2 a3 a4 a5∧P3 a0 a1 a2 a3 a4 a5) (k:∀ a0 a1 a2 a3 a4 a5,P0 a0 a1 a2 a3 a4 a5→P1 a0 a1 a2 a3 a4 a5→P2 a0 a1 a2 a3 a4 a5→P3 a0 a1 a2 a3 a4 a5→G):G:=h.elim fun a0 h=>h.elim fun a1 h=>h.elim fun a2 h=>h.elim fun a3 h=>h.elim fun a4 h=>h.elim fun a5 h=>k a0 a1 a2 a3 a4 a5 h.1 h.2.1 h.2.2.1 h.2.2.2
theorem q0d {P:Prop} (h:(P→False)→False):P:=Classical.byContradiction h
theorem q0w.{u} {α:Type u} {P:α→Prop} {a x:α} (h:some a=some x) (p:P a):P x:=Option.some.inj h▸p
theorem tq2.{u,v} {α:Type u} {β:Type v} {P:α→β→Prop} {a x:α} {b y:β} (h:(a,b)=(x,y)) (p:P a b):P x y:=by cases h;exact p
theorem tq3.{u,v,w} {α:Type u} {β:Type v} {γ:Type w} {P:α→β→γ→Prop} {a x:α} {b y:β} {c z:γ} (h:(a,b,c)=(x,y,z)) (p:P a b c):P x y z:=by cases h;exact p
theorem q6p.{u,v} {α:Type u} {β:Type v} {P:α→β→Prop} {a x:α} {b y:β} (h:some (a,b)=some (x,y)) (p:P a b):P x y:=tq2 (Option.some.inj h) p
theorem z0k.{u,v,w} {α:Type u} {β:Type v} {γ:Type w} {P:α→β→γ→Prop} {a x:α} {b y:β} {c z:γ} (h:some (a,b,c)=some (x,y,z)) (p:P a b c):P x y z:=tq3 (Option.some.inj h) p
theorem q1w.{u} {α:Sort u} {P:α→Prop} {a x:α} (h:a=x) (p:P a):P x:=h▸p
theorem q0g.{u} {α:Sort u} {P:α→Prop} {a x:α} (h:x=a) (p:P a):P x:=h▸p
theorem oC.{u} {α:Type u} {motive:Option α→Prop} (t:Option α) (none:motive none) (some:∀ val,motive (some val)):motive t:=Option.casesOn t none some
theorem q1h.{u} {α:Type u} {motive:List α→Prop} (t:List α) (nil:motive []) (cons:∀ head tail,motive (head::tail)):motive t:=List.casesOn t nil cons
theorem q2i {motive:Bool→Prop} (t:Bool) (false:motive false) (true:motive true):motive t:=Bool.casesOn t false true
theorem j5f {motive:Nat→Prop} (t:Nat) (zero:motive 0) (succ:∀ n,motive (n+1)):motive t:=Nat.casesOn t zero succ
end Mine
open PySem PySem.W PyProof.Rows
namespace Mine
open PySem PySem.W PySem.Calls PyProof.Rows
section
variable {p:Program} {w:World}
theorem q7c {s s':Shared} {t:Thread} {f:Flow} (hc:t.calm=true) (h:step (denote table) p w s t=.halt (.done f) s'):through t=true:=by
  have hl:t.loud=false:=by rw [Thread.calm_eq] at hc;exact (Bool.not_eq_true' _).mp (Bool.and_eq_true_iff.mp hc).1
  have e:=(stepK_forget (denote table) p w s t).trans (congrArg Step.forget h)
  have k:∃ s2,stepK (denote table) p w s t=.halt (.done f) s2:=by
    revert e;generalize stepK (denote table) p w s t=x;intro e
    induction x using Step.casesOn with
    | go=>exact nomatch e
    | halt o s2=>injection e with e1;exact ⟨s2,e1▸rfl⟩
  refine k.elim fun s2 k=>?_
  have a:=step_halt_result (M:=model p w) (t:=t.cur) (c:=t.code) (p:=t.pos) (st:=t.stack) (r:=.ok f) ((Model.step_quiet (M:=model p w) hl).trans k)
  unfold through;rw [a.1,a.2.1];rfl
theorem q6f:∀ {n:Nat} {s s':Shared} {t:Thread} {f:Flow},runN (denote table) p w n s t=.halted (.done f) s'→
    (∀ k s₁ t₁,runN (denote table) p w k s t=.running s₁ t₁→t₁.calm=true)→s.asleep→
    ∃ m t',schedN (denote table) p w m (.single s t)=.running (.single s' t')∧through t'=true
  | 0,_,_,_,_,h,_,_=>by cases h
  | n+1,s,s',t,f,h,hc,hz=>by
    have e:=sstep_single (denote table) p w s t (hc 0 s t rfl) hz
    dsimp only [runN] at h
    cases hs:step (denote table) p w s t with
    | go s₂ t₂=>
      rw [hs] at h e
      rcases e with e | e
      · refine q3l (q6f h (fun k s₁ t₁ q=>hc (k+1) s₁ t₁ (by simp only [runN,hs];exact q)) (Shared.asleep_of_life (step_life (denote table) p w s s₂ t t₂ hs) hz)) ?_;intro m t' a b
        exact ⟨m+1,t',by simp only [schedN,e,Step.lift];exact a,b⟩
      · cases e
    | halt o₂ s₂=>
      rw [hs] at h
      cases h
      obtain rfl:=step_halt_same (denote table) p w s s' t _ hs
      exact ⟨0,t,rfl,q7c (hc 0 _ _ rfl) hs⟩
theorem z9p {t:Sem Fin} {s:Shared} {R:Shared→Prop} (hz:s.asleep)
    (h:wpAny (model p w) callerA t (fun fin s'=>fin=.done (.ret .none)∧R s'∧s'.gens=#[]) (fun zz zz=>False) s) :
    ∃ s',(∃ n t',schedN (denote table) p w n (.single s ⟨t,.builtin "claim.caller" {},default,[]⟩)=.running (.single s' t')∧through t'=true)∧s'.heap.life=s.heap.life∧R s'∧s'.gens=#[]:=by
  have h':=wp_of_wpAny_done (R:=fun r s'=>(r=.ok (.ret .none)∧R s'∧s'.gens=#[])∧leftWithCleanup s'.gens=false) caller_in
    (wpAny_mono h (fun _ s' ⟨e,a,b⟩=>⟨.ret .none,e,⟨rfl,a,b⟩,by rw [b];decide +kernel⟩) fun zz zz x=>x.elim) default
  refine z9m ((wp_iff_halts (M:=model p w) (R:=fun r s'=>r=.ok (.ret .none)∧R s'∧s'.gens=#[]) ..).mp h') ?_;intro n r s₁ hn zw4;rcases zw4 with ⟨rfl,hR,hg⟩
  apply q0d;intro hG;rcases runNI_real _ _ _ hn (outcomeOf_ends _) with ⟨s₂,hr,hf,hc⟩;apply hG;clear hG
  obtain rfl:s₂=s₁:=Shared.eq_of_forget_eq hf hg
  apply q0d;intro hG;rcases q6f (f:=.ret .none) hr hc hz with ⟨m,t',a,b⟩;apply hG;clear hG
  exact ⟨s₂,⟨m,t',a,b⟩,runN_life _ _ _ hr,hR,hg⟩
end
theorem q2n {h:Heap} {m} (hn:h.Ns mainGlobals m) (x:Str):globalOf h x=m x:=by
  apply q0d;intro hG;rcases hn with ⟨o,es,ep,ho,hd,_,hm⟩;apply hG;clear hG
  unfold globalOf
  rw [show mainNs=mainGlobals from rfl,ho]
  dsimp only
  rw [hd]
  exact hm x
theorem z1v {h:Heap} {m} (hn:h.Ns builtinsNs m) (x:Str):builtinOf h x=m x:=by
  apply q0d;intro hG;rcases hn with ⟨o,es,ep,ho,hd,_,hm⟩;apply hG;clear hG
  unfold builtinOf
  rw [ho]
  dsimp only
  rw [hd]
  exact hm x
theorem q4d {h:Heap} {m} (hn:h.Ns cStatics m) (x:Str):staticOf h x=m x:=by
  apply q0d;intro hG;rcases hn with ⟨o,es,ep,ho,hd,_,hm⟩;apply hG;clear hG
  unfold staticOf
  rw [ho]
  dsimp only
  rw [hd]
  exact hm x
theorem q8x {h:Heap} {a:Addr} {m} (hn:h.Ns a m):keysAreStrs h a:=by
  apply q0d;intro hG;rcases hn with ⟨o,es,ep,ho,hd,hk,hm⟩;apply hG;clear hG
  exact ⟨o,es,ep,ho,hd,hk⟩
structure k1r (q:Program) (s:Shared):Prop where
  left:∃ c Pl mb mg,BootLeft9 q s.heap mb mg c Pl
  gens:s.gens=#[]
theorem z7q (q:Program) (w:World) (hb:q.main.body=[]) (hmore:q.main.more=[]) :
    (∃ s,AfterRun q w s)∧∀ s,AfterRun q w s→k1r q s∧s.asleep:=by
  have hB:BodyOk9 q w (k1r q):=by
    intro hp tk mb mg c Pl F hL
    rw [hb]
    refine codeAny_body rfl rfl (wpAny_execs_nil ?_)
    exact ⟨⟨_,rfl⟩,.of hL.toBootLeft (fun zz zz zz zz e=>e) hL.g,⟨⟨c,Pl,mb,mg,hL⟩,rfl⟩,rfl⟩
  obtain ⟨h1,h2⟩:=AfterImport.of_body9 hB hmore
  exact ⟨h1,fun s hs=>⟨h2 s hs,AfterImport.life hs⟩⟩
noncomputable abbrev TopWalk (p:Program) (w:World) (T:Heap→(Str→Option Value)→Prop):Prop:=
  ∀ (s:Shared) (mg mb:Str→Option Value) (c Pl F:Addr) (A:Around) (Q:Flow→Shared→Prop),A.handled=none→A.depth<2+claimMargin+1→A.units<100→
    s.heap.Main mg c Pl #[]→s.heap.Ns builtinsNs mb→(∀ x:Str,x≠"__name__"→mb x=bootBuiltins x)→s.heap.Ns cStatics (fun zz=>none)→(∀ x,x∉bootMainNames→mg x=none)→s.gens=#[]→
    (∀ h' mg' ps' tk,h'.Main mg' c Pl ps'→(∀ b o,b≠Pl→b≠mainGlobals→s.heap.get? b=some o→h'.get? b=some o)→
      (∀ x,x∉p.boundNames→mg' x=mg x)→T h' mg'→Q .next { s with heap:=h',toks:=tk })→
    wpAny (model p w) A (execs (behindTheImports p) (mainEnv p c F)) Q (fun zz zz=>False) s
structure j5h (p:Program) (T:Heap→(Str→Option Value)→Prop) (s:Shared):Prop where
  g:∃ mg,s.heap.Ns mainGlobals mg∧T s.heap mg
  b:∃ mb,s.heap.Ns builtinsNs mb∧(∀ x:Str,x≠"__name__"→mb x=bootBuiltins x)
  st:s.heap.Ns cStatics (fun zz=>none)
  gens:s.gens=#[]
  asleep:s.asleep
theorem k1s {p:Program} {w:World} {T:Heap→(Str→Option Value)→Prop} {q:Program} {s:Shared} (hq:k1r q s) (hz:s.asleep) (walk:TopWalk p w T)
    (hann:hasAnns (behindTheImports p)=false) (hdoc:docOf (behindTheImports p)=none) (hn:(laidNames.all fun x=>!p.boundNames.contains x)=true) :
    ∃ s₁,TopRan p w s s₁∧j5h p T s₁:=by
  obtain ⟨⟨c0,Pl0,mb,mg,L⟩,hg⟩:=hq
  have hglt:mainGlobals<s.heap.objs.size:=L.g.lt
  have core:wpAny (model p w) callerA (topStub p).cur (fun fin s'=>fin=.done (.ret .none)∧
      (s'.os=s.os∧(∀ b o,s.heap.get? b=some o→b≠mainGlobals→s'.heap.get? b=some o)∧∃ mg' bm o,s'.heap.Ns mainGlobals mg'∧(∀ x,x∉p.boundNames→mg' x=mg x)∧T s'.heap mg'∧
        mg' "__builtins__"=some (.ref bm)∧s'.heap.get? bm=some o∧o.cls=.type "module"∧o.dict=some builtinsNs)∧s'.gens=#[]) (fun zz zz=>False) s:=by
    refine wpAny_bind (wpAny_moduleCode fun c Pl h₁ tk₁ hk hc hP hcode=>?_)
    refine wpAny_bind (wpAny_bind (wpAny_nsGet (L.g.keeps hk) (wpAny_alloc ?_)))
    generalize hfo:({ cls:=.type "frame",slots:=_ }:Obj)=fo
    have keep0:∀ b o,s.heap.get? b=some o→(h₁.push fo).get? b=some o:=fun b o e=>Heap.get?_push_of_some _ (hk b o e)
    have hM:(h₁.push fo).Main mg c Pl #[]:=by
      refine ⟨L.g.keeps keep0,hcode.push _,⟨Nat.lt_of_lt_of_le hglt hc,Nat.lt_of_lt_of_le hglt hP⟩,?_⟩
      apply q0d;intro hG;rcases L.bmod with ⟨bm,o,h1,h2,h3,_,h5,h6⟩;apply hG;clear hG
      exact ⟨bm,o,h1,h2,h3,Nat.ne_of_lt (Nat.lt_of_lt_of_le (Heap.lt_size h5) hP),keep0 _ _ h5,h6⟩
    refine wpAny_bind (wpAny_run (codeAny_body (env:=mainEnv p c h₁.objs.size) hann hdoc ?_))
    refine wpAny_mono (walk { s with heap:=h₁.push fo,toks:=tk₁ } mg mb c Pl h₁.objs.size _ _ rfl ?_ ?_ hM (L.b.keeps keep0) L.builtins (L.statics.keeps keep0) L.others hg
      (fun h' mg' ps' tk hM' hk' hmg' hT=>?_)) (fun zz zz x=>x) fun zz zz x=>x.elim
    · show (callerA.mark none).depth+1<2+claimMargin+1;decide
    · show (callerA.mark none).units+3<100;decide
    · refine wpAny_pure ⟨rfl,⟨rfl,fun b o e hb=>?_,?_⟩,hg⟩
      · exact hk' b o (Nat.ne_of_lt (Nat.lt_of_lt_of_le (Heap.lt_size e) hP)) hb (keep0 _ _ e)
      · apply q0d;intro hG;rcases hM'.bmod with ⟨bm,o,h1,h2,h3,h4,h5,h6,h7,_⟩;apply hG;clear hG
        exact ⟨mg',bm,o,hM'.g,hmg',hT,h1,h5,h6,h7⟩
  refine z1u (z9p (p:=p) (w:=w) hz core) ?_;intro s' hrun hlife zw3 hgens;rcases zw3 with ⟨hos,hkeep,mg',bm,ob,hg',hmg',hT,b1,b2,b3,b4⟩
  have kb:s'.heap.Ns builtinsNs mb:=by
    apply q0d;intro hG;rcases L.b with ⟨o,es,ep,e,r⟩;apply hG;clear hG
    exact ⟨o,es,ep,hkeep _ _ e (by decide),r⟩
  have kc:s'.heap.Ns cStatics (fun zz=>none):=by
    apply q0d;intro hG;rcases L.statics with ⟨o,es,ep,e,r⟩;apply hG;clear hG
    exact ⟨o,es,ep,hkeep _ _ e (by decide),r⟩
  refine ⟨s',⟨hrun,hlife,Shared.rest_eq hos,fun b o e hb=>hkeep b o e (fun x=>hb (.inl x)),?_,?_,q8x hg',?_,?_,?_,?_,?_⟩,⟨⟨mg',hg',hT⟩,⟨mb,kb,L.builtins⟩,kc,hgens,Shared.asleep_of_life hlife hz⟩⟩
  · intro key v hv
    rw [q4d kc] at hv;exact Mine.ns hv
  · intro key
    rw [q4d kc,q4d L.statics];exact .inl rfl
  · intro x hx
    rw [z1v kb,L.builtins x hx];rfl
  · exact ⟨bm,ob,(q2n hg' _).trans b1,b2,b3,b4⟩
  · intro g hgm;rw [hgens] at hgm;simp at hgm
  · intro x v hv
    rw [q2n hg'] at hv
    by_cases hx:x∈p.boundNames
    · exact .inr hx
    · rw [hmg' x hx] at hv
      by_cases hb:x∈bootMainNames
      · exact .inl hb
      · rw [L.others x hb] at hv;exact Mine.ns hv
  · intro x hx
    rw [q2n hg',q2n L.g]
    refine hmg' x fun hb=>?_
    have:=List.all_eq_true.mp hn x hx
    simp [hb] at this
theorem q9k {R:WRecords}:∀ {xs:List WData},WShape.hasItems R xs .int=true→∃ ns:List Int,xs=ns.map .int
  | [],_=>⟨[],rfl⟩
  | x::xs,h=>by
    rw [WShape.hasItems,Bool.and_eq_true] at h
    obtain ⟨ns,rfl⟩:=q9k h.2
    have h1:=h.1
    induction x using PySem.W.WData.casesOn<;>first | exact ff h1 | exact ⟨_::ns,rfl⟩
theorem q9l {R:WRecords} {cl:Str→Option Addr} {h:Heap}:∀ {vs:List Value} {ns:List Int} {as:List Addr},ReadsAllW R cl h vs (ns.map .int) as→IntsAre vs ns
  | _,[],_,.nil=>.nil
  | _,n::ns,_,.cons r rs=>by
    cases r
    exact .cons _ _ (q9l rs)
noncomputable abbrev LawCall (p:Program) (name:Str) (T:World→Heap→(Str→Option Value)→Prop):Prop:=
  ∀ (w:World) (s:Shared) (mg mb:Str→Option Value),s.heap.Ns mainGlobals mg→T w s.heap mg→s.heap.Ns builtinsNs mb→(∀ x:Str,x≠"__name__"→mb x=bootBuiltins x)→
    s.heap.Ns cStatics (fun zz=>none)→s.gens=#[]→∀ (a:Addr) (items:Array Value) (ns:List Int),s.heap.IsList a items→IntsAre items.toList ns→ns.length≤63→
    ∃ f,mg name=some f∧wpAny (model p w) callerA (PySem.call f [.ref a]) (fun r s'=>r=.bool true∧(∀ b o,s.heap.get? b=some o→s'.heap.get? b=some o)∧s'.os=s.os∧AllBare s'.gens) (fun zz zz=>False) s
theorem z9q {R:WRecords} {args:List WData} (h:WShape.hasAll R args [.list .int]=true):∃ ns:List Int,args=[.list (ns.map .int)]:=by
  refine q1g (hasAllW_cons h) ?_;intro d r zw2 hd hr;rcases zw2 with rfl
  obtain rfl:=hasAllW_nil hr
  refine q0a (hasW_list hd) ?_;intro xs zw1 hxs;rcases zw1 with rfl
  obtain ⟨ns,rfl⟩:=q9k hxs
  exact ⟨ns,rfl⟩
theorem j5i:WShape.has [] (WData.bool true) .bool=true:=by kernel_rfl
theorem z9r {a:List WData}:(WShape.has [] (WData.bool true) .bool&&(WTm.eq .res (.lit (.bool true))).holds [] { args:=a,res:=some (.bool true),after:=a })=true:=by
  rw [j5i]
  simp [WTm.holds,WTm.value,same]
theorem z4b {R:WRecords} {cl:Str→Option Addr} {h:Heap} {vs:List Value} {ns:List Int} {as:List Addr} (r:ReadsAllW R cl h vs [.list (ns.map .int)] as):∃ a items,vs=[.ref a]∧h.IsList a items∧IntsAre items.toList ns:=by
  have one:∀ {v:Value} {as:List Addr},ReadsW R cl h v (.list (ns.map .int)) as→∃ a items,v=.ref a∧h.IsList a items∧IntsAre items.toList ns:=fun r=>by
    cases r with
    | list ho hc hdt hall=>exact ⟨_,_,rfl,⟨_,ho,hc,_,hdt⟩,q9l hall⟩
  cases r with
  | cons r1 r2=>
    cases r2
    refine q3l (one r1) ?_;intro a items e q
    exact ⟨a,items,congrArg (·::[]) e,q⟩
theorem j5j {l:OpenLaw} (hmost:l.most=some 63) {ns:List Int} (h:l.pre.holds [] { args:=[WData.list (ns.map .int)] }=true):ns.length≤63:=by
  rw [OpenLaw.pre,hmost] at h
  by_cases hle:ns.length≤63
  · exact hle
  · have hlt:(63:Int)<(ns.length:Int):=by omega
    simp [WTm.holds,WTm.value,less?,Num.less?,hlt] at h
theorem k1t {l:OpenLaw} {T:World→Heap→(Str→Option Value)→Prop} {name:Str} (hname:l.name=name) (hmost:l.most=some 63) (hbound:l.bound=none) (hwr:l.writes=false)
    (said:l.row.wellSaid=true) (hp:l.row.promised) (hbare:l.prog.bare) (hopen:opensWell l.prog=true)
    (hb:(opening l.prog).main.body=[]) (hmore:(opening l.prog).main.more=[]) (hf:∀ s,fenceModules? l.prog s=some s)
    (hann:hasAnns (behindTheImports l.prog)=false) (hdoc:docOf (behindTheImports l.prog)=none) (hn:(laidNames.all fun x=>!l.prog.boundNames.contains x)=true)
    (hdefs:∀ w h mg,h.Ns mainGlobals mg→T w h mg→isTheDefsW l.prog h name)
    (hT:∀ w h h' mg,T w h mg→(∀ b o,h.get? b=some o→h'.get? b=some o)→T w h' mg)
    (walk:∀ w,TopWalk l.prog w (T w)) (call:LawCall l.prog name T):l.row.Holds:=by
  have hpre0:l.row.toRowW.promised:=hp
  obtain ⟨wa,wp1,wp2⟩:=hp
  refine ⟨said,hpre0,⟨hbare,hopen,rfl⟩,⟨wa,wp1,(Bool.and_eq_true_iff.mp wp2).1⟩,fun w=>?_⟩
  obtain ⟨b1,b2⟩:=z7q (opening l.prog) w hb hmore
  refine ⟨b1,fun s hs=>⟨s,hf s,(b2 s hs).1.gens,?_⟩⟩
  obtain ⟨s₁,hran,F⟩:=k1s (b2 s hs).1 (b2 s hs).2 (walk w) hann hdoc hn
  apply q0d;intro hG;rcases F with ⟨⟨mg,hg,hTs⟩,⟨mb,hmb,hbt⟩,hst,hgens,hz⟩;apply hG;clear hG
  refine ⟨s₁,hran,?_,(fun x hx=>nomatch hx),(fun x hx=>nomatch hx),?_⟩
  · intro n hn
    have:n=name:=(List.mem_singleton.mp hn).trans hname
    exact this▸hdefs _ _ _ hg hTs
  have stub:callStub l.row.name=fun vs=>⟨do match ← nsGet mainNs name with
      | some f=>do ret (← PySem.call f vs)
      | none=>unsupported "claim.caller:no-such-global",.builtin "claim.caller" {},default,[]⟩:=by
    funext vs
    show callStub l.name vs=_
    rw [hname];rfl
  rw [stub]
  refine ClaimW.callFrom_of_specG (c:=l.row.toRowW.claim) (tree:=fun vs=>do match ← nsGet mainNs name with
      | some f=>do ret (← PySem.call f vs)
      | none=>unsupported "claim.caller:no-such-global") hz hgens fun args hpre hlay ord hord=>?_
  have hsplit:=pre_splitW (r:=l.row.toRowW) hpre
  refine q0d fun hn=>?_
  obtain ⟨ns,rfl⟩:=z9q hsplit.1
  have hcl:∀ c,((l.row.toRowW.claim.records.fields? c).isSome=true)→(classAt s₁.heap c).isSome=true:=fun c hc=>by exact Mine.ff hc
  obtain ⟨⟨vs,s₂⟩,hlaid⟩:=Option.isSome_iff_exists.mp (layAllW_isSome (R:=l.row.toRowW.claim.records) (cl:=classAt s₁.heap) (P:=w.params) (ord:=ord) hcl [WData.list (ns.map .int)] l.row.toRowW.args s₁ hsplit.1)
  have keeps:=layAllW_keeps _ _ _ hlaid
  have hal:=layAllW_rest _ _ _ hlaid
  refine q6e (reads_layAllW hord _ _ _ hlaid hlay s₂.heap (fun zz zz e=>e)) ?_;intro as hrd hin hold
  refine hn ?_
  have L:Laid l.row.toRowW.records w s₁ s₂ [WData.list (ns.map .int)] vs as:=⟨⟨ord,hord,hlaid⟩,hrd,hin,hold,keeps,hal.1.trans hgens,hal.2.2.1⟩
  refine ⟨vs,s₂,hlaid,?_⟩
  refine q1g (z4b hrd) ?_;intro a items hvs hl hints
  subst hvs
  obtain ⟨f,hfm,hcall⟩:=call w s₂ mg mb (hg.keeps keeps) (hT _ _ _ _ hTs keeps) (hmb.keeps keeps) hbt (hst.keeps keeps) L.gens a items ns hl hints (j5j hmost hsplit.2)
  refine wpAny_bind (wpAny_nsGet (a:=mainNs) (hg.keeps keeps) ?_)
  rw [hfm]
  refine wpAny_bind (wpAny_mono hcall (fun v s' hv=>wpAny_pure ?_) fun zz zz x=>x.elim)
  refine q9i hv ?_;clear hv;intro zw0 hk hos hbr;rcases zw0 with rfl
  have hpost:l.row.toRowW.claim.post [WData.list (List.map WData.int ns)] (WData.bool true) [WData.list (List.map WData.int ns)]=true:=by
    exact z9r
  have g:GoodWG l.row.toRowW.claim (classAt s₁.heap) (ExcName.means s₁.heap) [WData.list (ns.map .int)] s₂ (.ok (.ret (.bool true))) s':=
    ⟨.inl ⟨.bool true,.bool true,[],rfl,fun cls=>rfl,.bool _,hpost,fun zz=>⟨List.nodup_nil,fun a ha=>nomatch ha⟩⟩,OldK.of_keep hk,hos,hbr⟩
  have z:=g.laid (c:=l.row.toRowW.claim) (w:=w) rfl rfl (ident_freeW (r:=l.row.toRowW) rfl rfl rfl) L
  exact ⟨_,rfl,z.1,z.2.1,z.2.2,fun q=>by
    have:l.writes=true:=q
    rw [hwr] at this;exact Mine.ff this⟩
section
variable {prog:Program} {w:World} {K:Type} [DecidableEq K] {knd:KeyKind prog w K} {A:Around} {E:Value→Shared→Prop} {s:Shared}
theorem z0l {d:Addr} {kvs:List (K × Value)} {k:K} {key v:Value} {Q:Unit→Shared→Prop} (hkey:knd.is k key=true) (hm:s.heap.DictOf knd d kvs)
    (hQ:∀ h',h'.DictOf knd d (stored kvs k v)→Heap.SameBut d s.heap h'→Q () { s with heap:=h' })
    (hsz:kvs.length≤sizeLine) :
    wpAny (model prog w) A (dictPut d (knd.hash k) key v) Q E s:=by
  apply q0d;intro hG;rcases hm with ⟨o,es,ep,ho,hc,hd,hk,hp,hn⟩;apply hG;clear hG
  have hes:es.size≤sizeLine:=by
                                      have e1:=hp.length;have e2:es.toList.length=es.size:=by rfl
                                      omega
  refine wpAny_bind (wpAny_dictFind_of hkey ho hd hk ?_)
  have hidx:(es.findIdx? fun e=>knd.is k e.key)=kvs.findIdx? fun kv=>decide (kv.1=k):=by
    rw [← hp.findIdx k];obtain ⟨l⟩:=es;simp
  induction hi:es.findIdx? fun e=>knd.is k e.key using Mine.oC with
  | some i=>
    refine wpAny_updateDict ho hd (hQ _ ⟨_,_,ep,Heap.get?_update_self _ ho (Obj.isFreed_of_dict (Obj.data_mapDict hd _)),
      hc.mapDict _,Obj.data_mapDict hd _,hk.modify _ _,?_,?_⟩ (Heap.SameBut.update ..))
    · rw [stored,if_pos (any_of_findIdx_some (hidx▸hi))]
      have hl:(es.toList.findIdx? fun e=>knd.is k e.key)=some i:=by rw [← hi];obtain ⟨l⟩:=es;simp
      have:=hp.modify hn hl v
      obtain ⟨l⟩:=es
      simpa using this
    · rw [stored,if_pos (any_of_findIdx_some (hidx▸hi)),keys_map_store];exact hn
  | none=>
    have hnot:k∉kvs.map (·.1):=not_mem_of_findIdx_none (hidx▸hi)
    have hany:¬ (kvs.any fun kv=>decide (kv.1=k))=true:=by
      rw [List.any_eq_true];rintro ⟨kv,hkv,he⟩
      exact hnot (List.mem_map.mpr ⟨kv,hkv,of_decide_eq_true he⟩)
    refine wpAny_updateDictKeys (hz:=hes) ho hd (hQ _ ⟨_,_,ep+1,Heap.get?_update_self _ ho (Obj.isFreed_of_dict (Obj.data_mapDictKeys hd _)),
      hc.mapDictKeys _,Obj.data_mapDictKeys hd _,hk.push hkey _,?_,?_⟩ (Heap.SameBut.update ..))
    · rw [stored,if_neg hany]
      have:=hp.append hkey (knd.hash k) v
      obtain ⟨l⟩:=es
      simpa using this
    · rw [stored,if_neg hany,List.map_append,List.nodup_append]
      refine ⟨hn,by simp,?_⟩
      intro a ha b hb
      simp only [List.map_cons,List.map_nil,List.mem_singleton] at hb
      apply q0g hb
      exact fun e=>hnot (e▸ha)
theorem q4o {d o:Addr} {kvs more:List (K × Value)} {Q:Unit→Shared→Prop} (hdo:d≠o) (hoS:(o==sysModules)=false) (hne:kvs≠[])
    (hd:s.heap.DictOf knd d kvs) (ho:s.heap.DictOf knd o more)
    (hQ:∀ h',h'.DictOf knd d (merged kvs more)→Heap.SameBut d s.heap h'→Q () { s with heap:=h' })
    (hsz:kvs.length+more.length≤sizeLine) :
    wpAny (model prog w) A (mergeMapping d (.ref o) false) Q E s:=by
  refine q0d fun hn=>?_
  rcases id hd with ⟨od,esd,epd,hod,hcd,hdd,hkd,hpd,hnd⟩
  rcases id ho with ⟨oo,eso,epo,hoo,hco,hdo',hko,hpo,hno⟩
  refine hn ?_
  refine wpAny_bind (wpAny_isInstance ho.typeIs isSubtype_dict_dict ?_)
  refine wpAny_bind (wpAny_specialOf ho.typeIs F.slot_dict_iter.lookup ?_)
  rw [beq_self_eq_true]
  refine wpAny_bind (wpAny_pure ?_)
  dsimp only
  rw [if_neg (by rw [hoS];exact Bool.false_ne_true)]
  have hlen:more.length=eso.size:=by rw [← hpo.length];rfl
  refine wpAny_bind (wpAny_dictEntries hod hdd ?_)
  have hesd:esd.isEmpty=false:=by
    induction he:esd.isEmpty using q2i with
    | false=>rfl
    | true=>
      have h0:esd=#[]:=Array.isEmpty_iff.mp he
      have:=hpd.length
      rw [h0] at this
      exact absurd (List.length_eq_zero_iff.mp (this.symm)) hne
  rw [hesd]
  rw [if_neg Bool.false_ne_true]
  refine wpAny_bind (wpAny_dictEntries hoo hdo' ?_)
  refine wpAny_bind (wpAny_dictEpoch hoo hdo' ?_)
  refine wpAny_bind ?_
  refine wpAny_forIn_list _
      (fun rest zz s'=>∃ h' i,s'={ s with heap:=h' }∧rest=List.range' i (eso.size - i)∧i≤eso.size∧h'.DictOf knd d (merged kvs (more.take i))∧h'.get? o=some oo∧Heap.SameBut d s.heap h')
      _ ?_ ?_ _ _ ⟨s.heap,0,rfl,by simp [List.range_eq_range'],Nat.zero_le _,hd,hoo,Heap.SameBut.refl _ _⟩
  · rintro x rest b s' hh
    apply q0d;intro hG;rcases hh with ⟨h',i,rfl,hr,hi,hd',hoo',hs'⟩;apply hG;clear hG
    have hlt:i<eso.size:=by
      rcases Nat.lt_or_ge i eso.size with h | h
      · exact h
      · rw [Nat.sub_eq_zero_of_le h] at hr;exact Mine.ln hr
    obtain ⟨rfl,hrest⟩:x=i∧rest=List.range' (i+1) (eso.size - (i+1)):=by
      have e:eso.size - i=(eso.size - (i+1))+1:=by omega
      rw [e] at hr
      injection hr with h1 h2
      exact ⟨h1,h2⟩
    refine wpAny_bind (wpAny_dictEntries hoo' hdo' ?_)
    rw [Array.getElem?_eq_getElem hlt]
    refine q0d fun hn=>?_
    obtain ⟨kv,hkv⟩:∃ kv,more[x]?=some kv:=⟨more[x]'(by rw [hlen];exact hlt),List.getElem?_eq_getElem _⟩
    obtain ⟨k,v⟩:=kv
    obtain ⟨hkey,hval⟩:=hpo.get? (e:=eso[x]) (by simp [hlt]) hkv
    obtain ⟨k',hkey',hhash⟩:=hko eso[x] (Array.getElem_mem hlt)
    refine hn ?_
    obtain rfl:k'=k:=knd.inj _ _ _ hkey' hkey
    dsimp only
    rw [hhash,hval]
    have hmx:(merged kvs (more.take x)).length≤sizeLine:=by
      have e1:=merged_length_le kvs (more.take x)
      have e2:(more.take x).length≤more.length:=by rw [List.length_take];omega
      omega
    refine wpAny_bind (wpAny_holding (z0l (hsz:=hmx) hkey hd' fun h'' hd'' hs''=>?_))
    have hoo'':h''.get? o=some oo:=(hs''.2 o (Ne.symm hdo)).trans hoo'
    refine wpAny_bind (wpAny_dictEpoch hoo'' hdo' ?_)
    rw [if_neg (by simp)]
    exact wpAny_pure ⟨h'',x+1,rfl,hrest,hlt,by rw [merged_take_succ kvs more x (k',v) hkv];exact hd'',hoo'',hs'.trans hs''⟩
  · rintro b s' hh
    apply q0d;intro hG;rcases hh with ⟨h',i,rfl,hr,hi,hd',hoo',hs'⟩;apply hG;clear hG
    have hin:i=eso.size:=by
      rcases Nat.lt_or_ge i eso.size with h | h
      · have e:eso.size - i=(eso.size - (i+1))+1:=by omega
        rw [e] at hr;exact nomatch hr
      · exact Nat.le_antisymm hi h
    refine wpAny_pure (hQ h' ?_ hs')
    rw [hin,← hlen,List.take_length] at hd';exact hd'
end
section
variable {prog:Program} {w:World} {K:Type} [DecidableEq K] {knd:KeyKind prog w K} {A:Around} {E:Value→Shared→Prop} {s:Shared}
noncomputable abbrev Kept (h₀ h:Heap):Prop:=∀ b o,h₀.get? b=some o→h.get? b=some o
noncomputable def EvP (prog:Program) (w:World) (A:Around) (h₀:Heap) (R:Value→Prop) (t:Sem Value):Prop:=
  ∀ (E:Value→Shared→Prop) (s:Shared) (Q:Value→Shared→Prop),Kept h₀ s.heap→(∀ v tk,R v→Q v { s with toks:=tk })→wpAny (model prog w) A t Q E s
noncomputable def PairOk (knd:KeyKind prog w K) (A:Around) (h₀:Heap) (p:Sem Value × Sem Value) (sp:K × (Value→Prop)):Prop:=
  EvP prog w A h₀ (fun v=>knd.is sp.1 v=true) p.1∧EvP prog w A h₀ sp.2 p.2
inductive q0y (knd:KeyKind prog w K) (A:Around) (h₀:Heap):List (Sem Value × Sem Value)→List (K × (Value→Prop))→Prop
  | nil:q0y knd A h₀ [] []
  | cons {p sp ps sps}:PairOk knd A h₀ p sp→q0y knd A h₀ ps sps→q0y knd A h₀ (p::ps) (sp::sps)
inductive q7d:List (K × Value)→List (K × (Value→Prop))→Prop
  | nil:q7d [] []
  | cons {k v R kvs sps}:R v→q7d kvs sps→q7d ((k,v)::kvs) ((k,R)::sps)
omit [DecidableEq K] in
theorem q7d.keys {kvs:List (K × Value)} {sps} (f:q7d kvs sps):kvs.map (·.1)=sps.map (·.1):=by
  induction f with
  | nil=>rfl
  | cons _ _ ih=>exact congrArg (_::·) ih
omit [DecidableEq K] in
theorem q7d.append {kvs:List (K × Value)} {sps kvs' sps'} (f:q7d kvs sps) (g:q7d kvs' sps'):q7d (kvs++kvs') (sps++sps'):=by
  induction f with
  | nil=>exact g
  | cons a _ ih=>exact .cons a ih
omit [DecidableEq K] in
theorem q7d.length {kvs:List (K × Value)} {sps} (f:q7d kvs sps):kvs.length=sps.length:=by
  have:=congrArg List.length f.keys;simpa using this
theorem q0y.length {ps} {sps:List (K × (Value→Prop))} {h₀} (f:q0y knd A h₀ ps sps):ps.length=sps.length:=by
  induction f with
  | nil=>rfl
  | cons _ _ ih=>exact congrArg Nat.succ ih
theorem q0y.append {ps} {sps:List (K × (Value→Prop))} {h₀ ps' sps'} (f:q0y knd A h₀ ps sps) (g:q0y knd A h₀ ps' sps'):q0y knd A h₀ (ps++ps') (sps++sps'):=by
  induction f with
  | nil=>exact g
  | cons a _ ih=>exact .cons a ih
theorem z1w {kvs:List (K × Value)} {k:K} {v:Value} (h:k∉kvs.map (·.1)):stored kvs k v=kvs++[(k,v)]:=by
  have:¬ (kvs.any fun x=>decide (x.1=k))=true:=by
    rw [List.any_eq_true];rintro ⟨x,hx,he⟩
    exact h (List.mem_map.mpr ⟨x,hx,of_decide_eq_true he⟩)
  rw [stored,if_neg this]
theorem z1x {h₀:Heap} {ps} {sps:List (K × (Value→Prop))} (s:Shared) (Q:List (Value × Value)→Shared→Prop) (f:q0y knd A h₀ ps sps) (hk:Kept h₀ s.heap)
    (h:∀ vs kvs tk,Carries knd vs kvs→q7d kvs sps→Q vs { s with toks:=tk }):wpAny (model prog w) A (evalPairs ps) Q E s:=by
  induction f generalizing s Q with
  | nil=>exact evalPairs_nil (h [] [] s.toks trivial .nil)
  | @cons p sp ps sps a r ih=>
    refine evalPairs_cons (a.1 E s _ hk fun kv tk₁ hkv=>a.2 E _ _ hk fun vv tk₂ hvv=>?_)
    exact ih _ _ hk fun vs kvs tk hc hf=>h ((kv,vv)::vs) ((sp.1,vv)::kvs) tk ⟨hkv,rfl,hc⟩ (.cons hvv hf)
theorem z9s {h₀:Heap} {d:Addr} (hd₀:h₀.objs.size≤d) {ps} {sps:List (K × (Value→Prop))} (acc:List (K × Value)) (s:Shared) (Q:PUnit→Shared→Prop) (f:q0y knd A h₀ ps sps) (hk:Kept h₀ s.heap)
    (hm:s.heap.DictOf knd d acc) (hn:((acc.map (·.1))++sps.map (·.1)).Nodup) (hsz:acc.length+sps.length≤sizeLine)
    (h:∀ h' tk kvs,q7d kvs sps→h'.DictOf knd d (acc++kvs)→Heap.SameBut d s.heap h'→Q PUnit.unit { s with heap:=h',toks:=tk }) :
    wpAny (model prog w) A (forIn ps PUnit.unit fun (x:Sem Value × Sem Value) (_:PUnit)=>(do
      let kv ← x.1
      let vv ← holding [kv] x.2
      holding [kv,vv] (dictSet d kv vv)
      pure (ForInStep.yield PUnit.unit):Sem (ForInStep PUnit))) Q E s:=by
  induction f generalizing acc s Q with
  | nil=>
    rw [List.forIn_nil]
    exact wpAny_pure (h s.heap s.toks [] .nil ((List.append_nil acc).symm▸hm) (Heap.SameBut.refl _ _))
  | @cons p sp ps sps a r ih=>
    have hfresh:sp.1∉acc.map (·.1):=fun hx=>(List.nodup_append.mp hn).2.2 _ hx _ List.mem_cons_self rfl
    rw [List.length_cons] at hsz
    rw [List.forIn_cons]
    refine wpAny_bind (wpAny_bind (a.1 E s _ hk fun kv tk₁ hkv=>?_))
    refine wpAny_bind (wpAny_holding (a.2 E { s with toks:=tk₁ } _ hk fun vv tk₂ hvv=>?_))
    refine wpAny_bind (wpAny_holding (wpAny_dictSet_pairs (hsz:=by omega) hkv hm fun h₁ hm₁ hs₁=>wpAny_pure ?_))
    rw [z1w hfresh] at hm₁
    refine ih (acc++[(sp.1,vv)]) _ Q (fun b o e=>(hs₁.2 b (Nat.ne_of_lt (Nat.lt_of_lt_of_le (Heap.lt_size e) hd₀))).trans (hk b o e)) hm₁ (by simpa using hn) (by simp;omega) fun h' tk kvs hf hm' hs'=>?_
    exact h h' tk ((sp.1,vv)::kvs) (.cons hvv hf) (by simpa using hm') (hs₁.trans hs')
theorem q7e {h₀:Heap} {ps} {sps:List (K × (Value→Prop))} {Q:Addr→Shared→Prop} (hp:q0y knd A h₀ ps sps) (hk:Kept h₀ s.heap) (hz:h₀.objs.size≤s.heap.objs.size) (hn:(sps.map (·.1)).Nodup) (hsz:sps.length≤sizeLine)
    (h:∀ h' tk kvs,q7d kvs sps→h'.DictOf knd s.heap.objs.size kvs→Kept s.heap h'→s.heap.objs.size<h'.objs.size→Q s.heap.objs.size { s with heap:=h',toks:=tk }) :
    wpAny (model prog w) A (subDict ps) Q E s:=by
  by_cases hlen:ps.length≤15
  · refine wpAny_subDict (knd:=knd) hlen (z1x (s:=_) _ hp (fun b o e=>Heap.get?_push_of_some _ (hk b o e)) fun vs kvs tk hc hf=>?_)
    refine ⟨kvs,hc,Heap.DictOf.new _,fun h' hm hs=>?_⟩
    rw [merged_nil_of_nodup kvs (by rw [hf.keys];exact hn)] at hm
    refine h h' _ kvs hf hm (fun b o e=>(hs.2 b (Nat.ne_of_lt (Heap.lt_size e))).trans (Heap.get?_push_of_some _ e)) ?_
    rw [hs.1,Heap.size_push];exact Nat.lt_succ_self _
  · skip
    refine wpAny_bind (wpAny_alloc (wpAny_bind (wpAny_holding ?_)))
    rw [if_neg hlen]
    refine wpAny_bind (wpAny_rule (wpAny_bind ?_))
    refine z9s (knd:=knd) (h₀:=h₀) hz [] _ _ hp (fun b o e=>Heap.get?_push_of_some _ (hk b o e)) (Heap.DictOf.new _) (hn) (by simpa using hsz) fun h' tk kvs hf hm hs=>wpAny_pure (wpAny_pure ?_)
    refine h h' tk kvs hf (hm) (fun b o e=>(hs.2 b (Nat.ne_of_lt (Heap.lt_size e))).trans (Heap.get?_push_of_some _ e)) ?_
    rw [hs.1,Heap.size_push];exact Nat.lt_succ_self _
end
section
variable {prog:Program} {w:World} {K:Type} [DecidableEq K] {knd:KeyKind prog w K} {A:Around} {E:Value→Shared→Prop} {s:Shared}
noncomputable def Disp (knd:KeyKind prog w K) (h₁ h:Heap) (main:Option Addr) (done:List (K × (Value→Prop))):Prop:=
  (main=none∧done=[])∨∃ d kvs,main=some d∧h₁.objs.size≤d∧(d==sysModules)=false∧h.DictOf knd d kvs∧q7d kvs done∧kvs≠[]
theorem z5x {h₁:Heap} {run} {sr done:List (K × (Value→Prop))} {main:Option Addr} {Q:Option Addr→Shared→Prop} (hz:2≤h₁.objs.size) (hp:q0y knd A h₁ run sr) (hr:run≠[]) (hk:Kept h₁ s.heap) (hsz:h₁.objs.size≤s.heap.objs.size)
    (hD:Disp knd h₁ s.heap main done) (hn:((done++sr).map (·.1)).Nodup) (hlen:(done++sr).length≤sizeLine)
    (h:∀ main' h' tk,Disp knd h₁ h' main' (done++sr)→Kept h₁ h'→h₁.objs.size≤h'.objs.size→Q main' { s with heap:=h',toks:=tk }) :
    wpAny (model prog w) A (match main with
      | none=>do return some (← subDict run)
      | some d=>do
        let sub ← holding [.ref d] (subDict run)
        (holding [.ref d,.ref sub] (mergeMapping d (.ref sub) false)).onRaise fun x=>do let _ ← holding [.ref d,x] (runValue (.builtin "proto.let_go" {}))
        return some d) Q E s:=by
  have hn2:(sr.map (·.1)).Nodup:=by rw [List.map_append,List.nodup_append] at hn;exact hn.2.1
  have hl2:sr.length≤sizeLine:=by rw [List.length_append] at hlen;omega
  have hne:∀ kvs:List (K × Value),q7d kvs sr→kvs≠[]:=fun kvs f e=>by
    have e1:=f.length;have e2:=hp.length
    rw [e] at e1
    exact hr (List.length_eq_zero_iff.mp (by rw [e2,← e1];rfl))
  rcases hD with ⟨rfl,rfl⟩ | ⟨d,kvs,rfl,hd1,hd2,hd3,hd4,hd5⟩
  · refine wpAny_bind (q7e hp hk hsz hn2 hl2 fun h' tk kvs hf hm hkp hlt=>wpAny_pure ?_)
    refine h _ h' tk (.inr ⟨_,kvs,rfl,hsz,?_,hm,hf,hne kvs hf⟩) (fun b o e=>hkp b o (hk b o e)) (Nat.le_of_lt (Nat.lt_of_le_of_lt hsz hlt))
    have:s.heap.objs.size≠sysModules:=by unfold sysModules;omega
    simpa using this
  · refine wpAny_bind (wpAny_holding (q7e hp hk hsz hn2 hl2 fun h' tk more hf hm hkp hlt=>?_))
    have hlt2:d<s.heap.objs.size:=let ⟨_,_,_,e,_⟩:=hd3;Heap.lt_size e
    have hdo:d≠s.heap.objs.size:=Nat.ne_of_lt hlt2
    have hS:(s.heap.objs.size==sysModules)=false:=by
      have:s.heap.objs.size≠sysModules:=by unfold sysModules;omega
      simpa using this
    have hnm:((kvs++more).map (·.1)).Nodup:=by rw [(hd4.append hf).keys];exact hn
    have hsz2:kvs.length+more.length≤sizeLine:=by
      have e1:=hd4.length;have e2:=hf.length
      rw [List.length_append] at hlen;omega
    refine wpAny_bind (wpAny_onRaise (wpAny_holding (q4o (s:={ s with heap:=h',toks:=tk }) hdo hS hd5 (hd3.keep hkp) hm (fun h'' hm'' hs''=>wpAny_pure ?_) hsz2)))
    rw [merged_append_of_fresh kvs more hnm] at hm''
    refine h _ h'' tk (.inr ⟨d,kvs++more,rfl,hd1,hd2,hm'',hd4.append hf,by simp [hd5]⟩) (fun b o e=>(hs''.2 b (Nat.ne_of_lt (Nat.lt_of_lt_of_le (Heap.lt_size e) hd1))).trans (hkp b o (hk b o e))) ?_
    have e0:=hs''.1
    show _≤h''.objs.size
    rw [e0];exact Nat.le_of_lt (Nat.lt_of_le_of_lt hsz hlt)
structure k8i (knd:KeyKind prog w K) (A:Around) (s:Shared) (sps:List (K × (Value→Prop))) (l:List (Option (Sem Value) × Sem Value)) (main:Option Addr) (run:List (Sem Value × Sem Value)) (s':Shared) (h':Heap) (tk:Nat) (rest:List (Sem Value × Sem Value)) (done sr sl:List (K × (Value→Prop))):Prop where
  st:s'={ s with heap:=h',toks:=tk }
  left:l=rest.map (fun p=>(some p.1,p.2))
  pr:q0y knd A s.heap run sr
  pl:q0y knd A s.heap rest sl
  all:sps=done++sr++sl
  few:run.length<17
  disp:Disp knd s.heap h' main done
  keep:Kept s.heap h'
  size:s.heap.objs.size≤h'.objs.size
  last:rest=[]→run≠[]∨main≠none
noncomputable def DispJ (knd:KeyKind prog w K) (A:Around) (s:Shared) (sps:List (K × (Value→Prop))) (l:List (Option (Sem Value) × Sem Value)) (b:Option Addr × List (Sem Value × Sem Value)) (s':Shared):Prop:=∃ h' tk rest done sr sl,k8i knd A s sps l b.1 b.2 s' h' tk rest done sr sl
theorem Disp.some {h₁ h':Heap} {main:Option Addr} {done:List (K × (Value→Prop))} (hD:Disp knd h₁ h' main done) (h:done≠[]):main≠none:=fun e=>hD.elim (fun q=>h q.2) fun q=>q.elim fun zz q=>q.elim fun zz q=>sn (q.1.symm.trans e)
set_option tactic.hygienic true in
theorem q7f {ps} {sps:List (K × (Value→Prop))} {Q:Value→Shared→Prop} (hz:2≤s.heap.objs.size) (hp:q0y knd A s.heap ps sps) (h0:ps≠[]) (hn:(sps.map (·.1)).Nodup) (hlen:sps.length≤sizeLine)
    (h:∀ d h' tk kvs,q7d kvs sps→h'.DictOf knd d kvs→s.heap.objs.size≤d→(d==sysModules)=false→Kept s.heap h'→Q (.ref d) { s with heap:=h',toks:=tk }) :
    wpAny (model prog w) A (dictDisplay (ps.map fun p=>(some p.1,p.2))) Q E s:=by
  have fin:∀ main' h'' tk',Disp knd s.heap h'' main' sps→Kept s.heap h''→main'≠none→wpAny (model prog w) A (match main' with | some d=>pure (.ref d) | none=>newDict) Q E { s with heap:=h'',toks:=tk' }:=by
    intro main' h'' tk' hD' hk' hne
    rcases hD' with ⟨rfl,_⟩ | ⟨d,kvs,rfl,a,b,c,e,_⟩
    · exact absurd rfl hne
    · exact wpAny_pure (h d h'' tk' kvs e c a b hk')
  refine wpAny_bind ?_
  refine wpAny_forIn_list _ (DispJ knd A s sps) _ ?_ ?_ _ _ ⟨s.heap,s.toks,ps,[],[],sps,rfl,rfl,.nil,hp,rfl,by decide,.inl ⟨rfl,rfl⟩,fun zz zz e=>e,Nat.le_refl _,fun e=>absurd e h0⟩
  · rintro x l ⟨main,run⟩ s' hh
    apply q0d;intro hG;rcases hh with ⟨h',tk,rest,done,sr,sl,at0⟩;apply hG;clear hG
    obtain hq18:=at0.st
    apply q0g hq18
    induction rest using q1h with
    | nil=>exact ln at0.left
    | cons p rest=>
      have hl:=at0.left
      injection hl with hx hl
      apply q0g hx
      have hrest:=at0.pl
      cases hrest with
      | cons hp1 hrest=>
        rename_i sp sps'
        have hrun:q0y knd A s.heap (run++[(p.1,p.2)]) (sr++[sp]):=at0.pr.append (.cons hp1 .nil)
        have hsp:sps=done++(sr++[sp])++sps':=by rw [at0.all];simp
        dsimp only
        by_cases h17:((run++[(p.1,p.2)]).length==17)=true
        · rw [if_pos h17]
          have hne:(run++[(p.1,p.2)]).isEmpty=false:=by simp
          rw [hne]
          have hnn:((done++(sr++[sp])).map (·.1)).Nodup:=by rw [hsp,List.map_append,List.nodup_append] at hn;exact hn.1
          have hll:(done++(sr++[sp])).length≤sizeLine:=by rw [hsp,List.length_append] at hlen;exact Nat.le_trans (Nat.le_add_right _ _) hlen
          refine wpAny_bind (z5x (s:={ s with heap:=h',toks:=tk }) hz hrun (by simp) at0.keep at0.size at0.disp hnn hll fun main' h'' tk' hD' hk' hs'=>wpAny_pure ?_)
          exact ⟨h'',tk',rest,done++(sr++[sp]),[],sps',rfl,hl,.nil,hrest,by rw [hsp];simp,(by show (0:Nat)<17;decide),hD',hk',hs',fun zz=>.inr (hD'.some (by simp))⟩
        · rw [if_neg h17]
          have:(run++[(p.1,p.2)]).length≠17:=by simpa using h17
          exact wpAny_pure ⟨h',tk,rest,done,sr++[sp],sps',rfl,hl,hrun,hrest,hsp,Nat.lt_of_le_of_ne (by rw [List.length_append];exact at0.few) this,at0.disp,at0.keep,at0.size,fun zz=>.inl (by simp)⟩
  · rintro ⟨main,run⟩ s' hh
    apply q0d;intro hG;rcases hh with ⟨h',tk,rest,done,sr,sl,at0⟩;apply hG;clear hG
    obtain hq88:=at0.st
    apply q0g hq88
    have hr0:rest=[]:=List.map_eq_nil_iff.mp at0.left.symm
    subst hr0
    have hsl:=at0.pl
    cases hsl
    have hsp:sps=done++sr:=at0.all.trans (List.append_nil _)
    rw [hsp] at hn hlen fin
    dsimp only
    by_cases hr:run=[]
    · subst hr
      have hsr:=at0.pr
      cases hsr
      refine wpAny_bind (wpAny_pure (fin main h' tk ?_ at0.keep ((at0.last rfl).resolve_left fun q=>q rfl)))
      rw [List.append_nil];exact at0.disp
    · have hne:run.isEmpty=false:=by simpa using hr
      rw [hne]
      refine wpAny_bind (z5x (s:={ s with heap:=h',toks:=tk }) hz at0.pr hr at0.keep at0.size at0.disp hn hlen fun main' h'' tk' hD' hk' hs'=>?_)
      refine fin main' h'' tk' hD' hk' (hD'.some fun e=>hr (List.length_eq_zero_iff.mp ?_))
      rw [at0.pr.length,(List.append_eq_nil_iff.mp e).2];rfl
end
noncomputable def intC1:Expr→Option Int
  | .Constant k _ _=>(match k with
    | .int i=>some i
    | _=>none)
  | _=>none
noncomputable def intConsts:List Expr→Option (List Int)
  | []=>some []
  | e::es=>(intC1 e).bind fun i=>(intConsts es).map (i::·)
set_option tactic.hygienic true in
theorem z9t {e:Expr} {i:Int} (h:intC1 e=some i):∃ k p,e=.Constant (.int i) k p:=by
  induction e using PySem.Expr.casesOn<;>first | exact ns h | skip
  rename_i c k p
  cases c<;>first | exact ns h | exact ⟨k,p,congrArg (fun i=>Expr.Constant (.int i) k p) (Option.some.inj h)⟩
section
variable {M:Model} {A:Around} {E:Value→Shared→Prop} {env:Env}
theorem z1y {pos:Pos} {es:List Expr} {ns:List Int} (s:Shared) (Q:List Value→Shared→Prop) (he:intConsts es=some ns) (h:∀ vs tk,IntsAre vs ns→Q vs { s with toks:=tk }) :
    wpAny M A (spliced (backTo pos (starEach es env))) Q E s:=by
  induction es generalizing ns s Q with
  | nil=>
    replace he:=Option.some.inj he;subst he
    exact args_nil (h [] s.toks .nil)
  | cons e es ih=>
    obtain ⟨i,h1,he⟩:=Option.bind_eq_some_iff.mp he
    refine q0a (Option.map_eq_some_iff.mp he) ?_;intro ms hm hms
    refine q3i (z9t h1) ?_;intro k p hp
    rw [← hms] at h
    apply q0g hp
    exact args_cons (wpAny_Constant_int (ih _ _ hm fun vs tk hv=>h _ tk (.cons _ _ hv)))
theorem z4c {vs:List Value} {ns:List Int} {ws:List Value} {ms:List Int} (f:IntsAre vs ns) (g:IntsAre ws ms):IntsAre (vs++ws) (ns++ms):=by
  induction f with
  | nil=>exact g
  | cons n t _ ih=>exact .cons n t ih
end
noncomputable def plainE:Expr→Bool
  | .Starred ..=>false
  | _=>true
theorem q0t {e:Expr} {rest:List Expr} {env:Env} (h:plainE e=true):starEach (e::rest) env=(false,eval e env)::starEach rest env:=by
  induction e using PySem.Expr.casesOn<;>first | rfl | exact Mine.ff h
theorem q2d {pos:Pos} {env:Env}:∀ {es:List Expr},es.all plainE=true→(backTo pos (starEach es env)).any (·.1)=false
  | [],_=>rfl
  | e::es,h=>by
    simp only [List.all_cons,Bool.and_eq_true] at h
    rw [q0t h.1]
    show (false||(backTo pos (starEach es env)).any (·.1))=false
    rw [q2d h.2];rfl
section
variable {prog:Program} {w:World} {A:Around} {E:Value→Shared→Prop} {s:Shared}
noncomputable def rangeI (a:Int):Nat→List Int
  | 0=>[]
  | n+1=>a::rangeI (a+1) n
theorem z0m {a n}:rangeI a (n+1)=a::rangeI (a+1) n:=rfl
theorem q2j (a:Int):∀ n,(rangeI a n).length=n
  | 0=>rfl
  | n+1=>by simp [z0m,q2j]
theorem z7r (a:Int):∀ n i,i<n→(rangeI a n)[i]?=some (a+i)
  | 0,_,h=>by omega
  | n+1,0,_=>by simp [z0m]
  | n+1,i+1,h=>by
    have:=z7r (a+1) n i (by omega)
    simp only [z0m,List.getElem?_cons_succ,this]
    congr 1;omega
theorem z0n {vs:List Value} {a:Int} {n:Nat} (hlen:vs.length=n) (h:∀ (i:Nat) (v:Value),vs[i]?=some v→∃ t,v=Value.int (a+i) t):IntsAre vs (rangeI a n):=by
  induction n generalizing vs a with
  | zero=>obtain rfl:=List.length_eq_zero_iff.mp hlen;exact .nil
  | succ n ih=>
    induction vs using q1h with
    | nil=>cases hlen
    | cons v vs=>
      obtain ⟨t,rfl⟩:=h 0 v rfl
      have:=ih (vs:=vs) (a:=a+1) (by simpa using hlen) fun i w hw=>by
        obtain ⟨t,ht⟩:=h (i+1) w hw
        exact ⟨t,by rw [ht];congr 1;push_cast;omega⟩
      simp only [Int.natCast_zero,Int.add_zero]
      exact IntsAre.cons a t this
theorem q6q {acc:Array Value} {n:Nat} {a:Int} (h:ItemsOf (fun i v=>∃ t,v=.int (a+i*1) t) acc n):IntsAre acc.toList (rangeI a n):=by
  refine z0n (h.1) fun i v hv=>?_
  obtain ⟨t,ht⟩:=h.2 i v (by simpa using hv)
  exact ⟨t,by rw [ht,Int.mul_one]⟩
theorem q8y (l:List Int):(List.range l.length).map (fun i=>l.getD i 0)=l:=by
  apply List.ext_getElem (by simp)
  intro i h1 h2
  simp [h2]
set_option maxHeartbeats 2000000 in
theorem z4d {c F:Addr} {mg mb:Str→Option Value} {es:List Expr} {ns:List Int} {a b:Int} {n:Nat} {p1 p2 p3 p4 p5 p6 p7 p8:Pos} {k1 k2:Nat} {q1 q2:Pos} {Q:Value→Shared→Prop}
    (hh:A.handled=none) (hk:prog.main.scope.kind=.module) (hg:s.heap.Ns mainGlobals mg) (hb:s.heap.Ns builtinsNs mb)
    (g1:mg "set"=none) (g2:mg "list"=none) (g3:mg "range"=none)
    (b1:mb "set"=some (.type "set")) (b2:mb "list"=some (.type "list")) (b3:mb "range"=some (.type "range"))
    (he:intConsts es=some ns) (hn:Builtin.Range.rangeSize a b 1=(n:Int)) (hsmall:Builtin.Range.small a b 1=true) (hlen:ns.length+n+1<scanBound) (hn2:n≤2 ^ 24)
    (h:∀ d h' tk,h'.SetOf (intKind prog w) d (fun k=>(ns++rangeI a n).any (·==k)) (firstMet (fun i=>(ns++rangeI a n).getD i 0) (ns.length+n)).length→s.heap.objs.size≤d→Kept s.heap h'→Q (.ref d) { s with heap:=h',toks:=tk }) :
    wpAny (model prog w) A (eval (.Call (.Name "set" p1) [.BinOp (.List es p2) .Add (.Call (.Name "list" p3) [.Call (.Name "range" p4) [.Constant (.int a) k1 q1,.Constant (.int b) k2 q2] [] p5] [] p6) p7] [] p8) (mainEnv prog c F)) Q E s:=by
  have hle:sizeLine=2 ^ 24:=rfl
  have hsb:scanBound=4096:=rfl
  refine Call_ (Name_module (env:=mainEnv prog c F) hk rfl (loadGlobal_builtin (env:=mainEnv prog c F) hg g1 hb b1 (callWith_type1 (args_cons ?_))))
  refine wpAny_BinOp (List_ (z1y s _ he fun vs tk hv=>wpAny_newObj_type ?_ (by show vs.toArray.size≤sizeLine;rw [List.size_toArray,hv.length];omega)))
  have k1':Kept s.heap (s.heap.push { cls:=.type "list",data:=.seq vs.toArray }):=fun b o e=>Heap.get?_push_of_some _ e
  generalize hh1:s.heap.push { cls:=.type "list",data:=.seq vs.toArray }=h1 at k1'
  have hl1:h1.get? s.heap.objs.size=some { cls:=.type "list",data:=.seq vs.toArray }:=by rw [← hh1];exact Heap.get?_push_size _ rfl
  have hz1:s.heap.objs.size<h1.objs.size:=Heap.lt_size hl1
  refine Call_ (Name_module (env:=mainEnv prog c F) hk rfl (loadGlobal_builtin (env:=mainEnv prog c F) (hg.keeps k1') g2 (hb.keeps k1') b2 (callWith_type1 (args_cons ?_))))
  refine Call_ (Name_module (env:=mainEnv prog c F) hk rfl (loadGlobal_builtin (env:=mainEnv prog c F) (hg.keeps k1') g3 (hb.keeps k1') b3 (callWith_type1 (hplain:=q2d rfl) (args_cons ?_))))
  refine wpAny_Constant_int ?_
  refine args_cons ?_
  refine wpAny_Constant_int ?_
  refine args_nil ?_
  refine call_range_2 ?_
  dsimp only
  refine args_nil ?_
  have hR:IsRange (h1.push { cls:=.type "range",data:=.fields #[.int a tk,.int b (tk+1),.int 1 (tk+1+1)] }) h1.objs.size a b 1 tk (tk+1) (tk+1+1):=IsRange.new ..
  refine call_list_range (s:={ s with heap:=h1.push { cls:=.type "range",data:=.fields #[.int a tk,.int b (tk+1),.int 1 (tk+1+1)] },toks:=tk+1+1+1 }) hh hR hsmall hn hn2 fun h2 tk2 acc c' hk2 hl2 hit=>?_
  have k2':Kept h1 h2:=fun b o e=>hk2 b o (Heap.get?_push_of_some _ e)
  have hints:IntsAre acc.toList (rangeI a n):=q6q hit
  generalize hr:(h1.push { cls:=.type "range",data:=.fields #[.int a tk,.int b (tk+1),.int 1 (tk+1+1)] }).objs.size=r2 at hl2
  have hz2:r2<h2.objs.size:=Heap.lt_size hl2
  have hr2:h1.objs.size≤r2:=by rw [← hr,Heap.size_push];exact Nat.le_succ _
  have lvs:vs.length=ns.length:=hv.length
  have lacc:acc.toList.length=n:=by rw [hints.length,q2j]
  refine concat_meets (s:={ s with heap:=h2,toks:=tk2 }) ⟨_,k2' _ _ hl1,rfl⟩ ⟨_,hl2,rfl⟩ noFill_list_add seq_list_add PySem.F.slot_list_add PySem.F.entry_list_add (PySem.F.args_list_add_2 _ _)
    (list_addW s.heap.objs.size r2 vs.toArray acc 0 c' none none #[] #[] (by
                                                                             show vs.toArray.size+acc.size≤sizeLine;rw [List.size_toArray];have:acc.size=n:=lacc
                                                                             omega)) ⟨k2' _ _ hl1,hl2,?_⟩
  refine args_nil ?_
  have hl3:(h2.push { cls:=.type "list",data:=.seq (vs.toArray++acc) }).get? h2.objs.size=some { cls:=.type "list",data:=.seq (vs.toArray++acc) }:=Heap.get?_push_size _ rfl
  have hi3:IntsAre (vs.toArray++acc).toList (ns++rangeI a n):=by
    have:(vs.toArray++acc).toList=vs++acc.toList:=by simp
    rw [this];exact z4c hv hints
  have hsz3:(vs.toArray++acc).size=ns.length+n:=by
    have:=hi3.length
    simp only [Array.length_toList,List.length_append,q2j] at this
    exact this
  refine call_set_list (s:={ s with heap:=h2.push { cls:=.type "list",data:=.seq (vs.toArray++acc) },toks:=tk2 }) hh ⟨_,hl3,rfl,0,rfl⟩ hi3 (by rw [hsz3];assumption) fun h4 tk4 hS hk4=>?_
  rw [hsz3] at hS
  have kk:Kept s.heap h4:=fun b o e=>by
    have e1:=k2' _ _ (k1' b o e)
    exact hk4 b o (Nat.lt_of_lt_of_le (Heap.lt_size e1) (by rw [Heap.size_push];exact Nat.le_succ _)) (Heap.get?_push_of_some _ e1)
  refine h _ h4 tk4 ?_ ?_ kk
  · have e:(fun k'=>(firstMet (fun i=>(ns++rangeI a n).getD i 0) (ns.length+n)).any (·==k'))=fun k=>(ns++rangeI a n).any (·==k):=by
      funext k
      rw [firstMet_any]
      rw [show ns.length+n=(ns++rangeI a n).length by simp [q2j],q8y]
    rw [e] at hS;exact hS
  · show s.heap.objs.size≤(h2.push _).objs.size
    rw [Heap.size_push];omega
end
structure q2y where
  x:Str
  P:Addr→Heap→Value→Prop
  stable:∀ Pl h h' v,(∀ b o,b≠Pl→b≠mainGlobals→h.get? b=some o→h'.get? b=some o)→P Pl h v→P Pl h' v
noncomputable def q2y.Is (f:q2y) (Pl:Addr) (h:Heap) (mg:Str→Option Value):Prop:=∃ v,mg f.x=some v∧f.P Pl h v
noncomputable def intFact (x:Str) (i:Int):q2y:=⟨x,fun zz zz v=>∃ t,v=.int i t,fun zz zz zz zz zz h=>h⟩
noncomputable def fnFact (d:DefItem):q2y:=⟨d.name,fun Pl h v=>∃ a c' o pm doc,v=.ref a∧h.get? a=some o∧o.data=.func (docDef d.name d.params d.body d.scope pm (.ref c') doc)∧h.CodeRec (.ref c') d.name∧Pl<a∧Pl<c'∧mainGlobals<a∧mainGlobals<c',
  fun Pl h h' v hk hx=>by
    apply q0d;intro hG;rcases hx with ⟨a,c',o,pm,doc,e,ho,hd,hc,l1,l2,l3,l4⟩;apply hG;clear hG
    exact ⟨a,c',o,pm,doc,e,hk _ _ (Nat.ne_of_gt l1) (Nat.ne_of_gt l3) ho,hd,hc.at fun o=>hk _ o (Nat.ne_of_gt l2) (Nat.ne_of_gt l4),l1,l2,l3,l4⟩⟩
noncomputable def setFact (prog:Program) (w:World) (x:Str) (ns:List Int) (n:Nat):q2y:=⟨x,fun Pl h v=>∃ d,v=.ref d∧d≠Pl∧d≠mainGlobals∧h.SetOf (intKind prog w) d (fun k=>ns.any (·==k)) n,
  fun Pl h h' v hk hx=>by
    refine z1u hx ?_;clear hx;intro d e n1 n2 q
    apply q0d;intro hG;rcases q with ⟨o,es,ep,t,ho,r⟩;apply hG;clear hG
    exact ⟨d,e,n1,n2,o,es,ep,t,hk _ _ n1 n2 ho,r⟩⟩
noncomputable def tabFact {prog:Program} {w:World} {K:Type} [DecidableEq K] (knd:PySem.KeyKind prog w K) (x:Str) (sps:List (K × (Value→Prop))):q2y:=⟨x,fun Pl h v=>∃ d kvs,v=.ref d∧d≠Pl∧d≠mainGlobals∧(d==sysModules)=false∧h.DictOf knd d kvs∧q7d kvs sps,
  fun Pl h h' v hk hx=>by
    apply q0d;intro hG;rcases hx with ⟨d,kvs,e,n1,n2,n3,q,f⟩;apply hG;clear hG
    apply q0d;intro hG;rcases q with ⟨o,es,ep,ho,r⟩;apply hG;clear hG
    exact ⟨d,kvs,e,n1,n2,n3,⟨o,es,ep,hk _ _ n1 n2 ho,r⟩,f⟩⟩
noncomputable def factOf:Stmt→Option q2y
  | .Assign [.Name x _] (.Constant (.int i) _ _) _=>some (intFact x i)
  | .FunctionDef name params body _ _ _ scope _ _ pos=>some (fnFact ⟨name,params,body,scope,pos⟩)
  | _=>none
noncomputable def nameOfSt:Stmt→List Str
  | .Assign [.Name x _] _ _=>[x]
  | .FunctionDef name _ _ _ _ _ _ _ _ _=>[name]
  | _=>[]
noncomputable def linesOf:Stmt→List (Nat × Nat)
  | .FunctionDef _ _ _ _ _ _ _ _ _ pos=>[(pos.line,pos.col)]
  | _=>[]
theorem anH {a b:Bool} (h:(a&&b)=true):a=true∧b=true:=by
  induction a using q2i
  · exact ff h
  · exact ⟨rfl,h⟩
noncomputable def bareArgs (a:Arguments):Bool:=a.posonlyargs.isEmpty&&(a.vararg.isNone&&(a.kwonlyargs.isEmpty&&(a.kw_defaults.isEmpty&&(a.kwarg.isNone&&(a.defaults.isEmpty&&a.args.all fun a=>a.annotation.isNone)))))
theorem z9u {a:Arguments} (h:bareArgs a=true):a=⟨[],a.args,none,[],[],none,[]⟩∧(a.args.all fun a=>a.annotation.isNone)=true:=by
  refine q0d fun hn=>?_
  rcases a with ⟨po,as,va,ko,kd,kw,ds⟩
  obtain ⟨h1,h⟩:=anH h
  obtain ⟨h2,h⟩:=anH h
  obtain ⟨h3,h⟩:=anH h
  obtain ⟨h4,h⟩:=anH h
  obtain ⟨h5,h⟩:=anH h
  obtain ⟨h6,h⟩:=anH h
  refine hn ?_
  refine ⟨?_,h⟩
  rw [show po=[] from List.isEmpty_iff.mp h1,show va=none from Option.isNone_iff_eq_none.mp h2,show ko=[] from List.isEmpty_iff.mp h3,show kd=[] from List.isEmpty_iff.mp h4,show kw=none from Option.isNone_iff_eq_none.mp h5,show ds=[] from List.isEmpty_iff.mp h6]
noncomputable def okNm (p:Program) (names:List Str) (x:Str):Bool:=decide (p.main.scope.names.lookup x=some .local)&&!(x=="__builtins__")&&!names.contains x
noncomputable def okFn (p:Program) (lines:List (Nat × Nat)) (names:List Str) (name bind:Str) (params:Arguments) (scope:Scope) (pos:Pos):Bool:=(name==bind)&&bareArgs params&&(scope.names.all fun x=>x.2 !=.free)&&decide (p.main.scope.names.lookup name=some .local)&&!(name=="__builtins__")&&!names.contains name&&!lines.contains (pos.line,pos.col)
noncomputable def litC:Const→Bool
  | .str _ | .int _=>true
  | _=>false
noncomputable def okVal:Expr→Bool
  | .Constant v _ _=>litC v
  | _=>false
noncomputable def okSt (p:Program) (lines:List (Nat × Nat)) (names:List Str) (st:Stmt):Bool:=match st with
  | .Assign ts e _=>(match ts with
    | []=>false
    | t::ts=>(match ts with
      | []=>(match t with
        | .Name x _=>okVal e&&okNm p names x
        | _=>false)
      | _::_=>false))
  | .FunctionDef name params _ ds rs tps scope ts bind pos=>ds.isEmpty&&(rs.isNone&&(tps.isEmpty&&(ts.isNone&&okFn p lines names name bind params scope pos)))
  | _=>false
inductive z5y (p:Program) (lines:List (Nat × Nat)) (names:List Str):Stmt→Prop
  | str {x p1 v k p2 pos} (h:okNm p names x=true):z5y p lines names (.Assign [.Name x p1] (.Constant (.str v) k p2) pos)
  | int {x p1 v k p2 pos} (h:okNm p names x=true):z5y p lines names (.Assign [.Name x p1] (.Constant (.int v) k p2) pos)
  | fn {name params body scope bind pos} (h:okFn p lines names name bind params scope pos=true):z5y p lines names (.FunctionDef name params body [] none [] scope none bind pos)
set_option tactic.hygienic true in
theorem z4e {p:Program} {lines:List (Nat × Nat)} {names:List Str} {st:Stmt} (h:okSt p lines names st=true):z5y p lines names st:=by
  induction st using PySem.Stmt.casesOn<;>first | exact ff h | skip
  case FunctionDef name params body ds rs tps scope ts bind pos=>
    refine q0d fun hn=>?_
    obtain ⟨h1,h⟩:=anH h
    obtain ⟨h2,h⟩:=anH h
    obtain ⟨h3,h⟩:=anH h
    obtain ⟨h4,h⟩:=anH h
    refine hn ?_
    rw [List.isEmpty_iff.mp h1,Option.isNone_iff_eq_none.mp h2,List.isEmpty_iff.mp h3,Option.isNone_iff_eq_none.mp h4]
    exact .fn h
  case Assign ts e pos=>
    induction ts using q1h with
    | nil=>exact ff h
    | cons t ts=>
      induction ts using q1h with
      | cons _ _=>exact ff h
      | nil=>
        induction t using PySem.Expr.casesOn<;>first | exact ff h | skip
        obtain ⟨h1,h⟩:=anH h
        induction e using PySem.Expr.casesOn<;>first | exact ff h1 | skip
        rename_i v _ _
        cases v<;>first | exact ff h1 | exact .str h | exact .int h
noncomputable def okSts (p:Program):List (Nat × Nat)→List Str→List Stmt→Bool
  | _,_,[]=>true
  | lines,names,st::sts=>okSt p lines names st&&okSts p (lines++linesOf st) (names++((factOf st).toList.map (·.x))) sts
theorem k1u {p l n st r}:okSts p l n (st::r)=(okSt p l n st&&okSts p (l++linesOf st) (n++((factOf st).toList.map (·.x))) r):=rfl
theorem q2z:∀ {as:List Arg} {env:Env},(as.all fun a=>a.annotation.isNone)=true→annotationsOf as env=[]
  | [],_,_=>rfl
  | ⟨n,none,p⟩::as,env,h=>by
    show annotationsOf as env=[];exact q2z (as:=as) (env:=env) h
  | ⟨n,some e,p⟩::as,env,h=>by exact Mine.ff h
theorem q4p {params:Arguments} {env:Env} (h:bareArgs params=true):annTrees params none env=[]∧params.kwonlyargs=[]∧params.kw_defaults=[]∧params.defaults=[]:=by
  obtain ⟨e,h⟩:=z9u h
  rw [e]
  refine ⟨?_,rfl,rfl,rfl⟩
  show (annotationsOf (params.args++[]++[]++[]++[]) env++_)=_
  simp only [List.append_nil]
  rw [q2z h];rfl
structure q7g (h₀:Heap) (c Pl:Addr) (h:Heap) (mg₀ mg:Str→Option Value) (lines:List (Nat × Nat)) (written:List Str) (fs:List q2y):Prop where
  main:∃ l:List (Pos × Addr),h.Main mg c Pl (triples l).toArray∧l.map (fun q=>(q.1.line,q.1.col))=lines
  keep:∀ b o,b≠Pl→b≠mainGlobals→h₀.get? b=some o→h.get? b=some o
  same:∀ x,x∉written→mg x=mg₀ x
  facts:∀ f∈fs,f.Is Pl h mg
section
variable {p:Program} {w:World} {A:Around} {E:Value→Shared→Prop} {h₀:Heap} {c Pl F:Addr} {mg₀ mg:Str→Option Value}
  {lines:List (Nat × Nat)} {written:List Str} {fs:List q2y} {s:Shared}
theorem q7g.bind {h':Heap} {x:Str} {v:Value} (X:q7g h₀ c Pl s.heap mg₀ mg lines written fs) (hfresh:x∉fs.map (·.x)) (hnb:x≠"__builtins__")
    {h₁:Heap} (hk₁:∀ b o,b≠Pl→b≠mainGlobals→s.heap.get? b=some o→h₁.get? b=some o) (hm₁:∃ l:List (Pos × Addr),h₁.Main mg c Pl (triples l).toArray∧l.map (fun q=>(q.1.line,q.1.col))=lines)
    (hg:h'.Ns mainGlobals (fun y=>if y=x then some v else mg y)) (hs:Heap.SameBut mainGlobals h₁ h'):q7g h₀ c Pl h' mg₀ (fun y=>if y=x then some v else mg y) lines (written++[x]) fs:=by
  have hk:∀ b o,b≠Pl→b≠mainGlobals→s.heap.get? b=some o→h'.get? b=some o:=fun b o h1 h2 e=>(hs.2 _ h2).trans (hk₁ b o h1 h2 e)
  refine ⟨?_,fun b o h1 h2 e=>hk b o h1 h2 (X.keep b o h1 h2 e),fun y hy=>?_,fun f hf=>?_⟩
  · refine q0a hm₁ ?_;clear hm₁;intro l hm hl
    apply q0d;intro hG;rcases hm.bmod with ⟨bm,o,hbm,hne0,hneG,hneP,hbo,hrest⟩;apply hG;clear hG
    exact ⟨l,⟨hg,hm.code.sameBut hs (Nat.ne_of_gt hm.low.1) (Nat.ne_of_gt hm.low.2),hm.low,
      ⟨bm,o,by simp only [Ne.symm hnb,if_false];exact hbm,hne0,hneG,hneP,(hs.2 _ hneG).trans hbo,hrest⟩⟩,hl⟩
  · simp only [List.mem_append,List.mem_singleton,not_or] at hy
    show (if y=x then some v else mg y)=_
    rw [if_neg hy.2];exact X.same y hy.1
  · obtain ⟨u,hu,hP⟩:=X.facts f hf
    have ne:f.x≠x:=fun e=>hfresh (List.mem_map.mpr ⟨f,hf,e⟩)
    refine ⟨u,?_,f.stable Pl _ _ u hk hP⟩
    show (if f.x=x then some v else mg f.x)=_
    rw [if_neg ne];exact hu
theorem q7g.add {h:Heap} {f:q2y} (X:q7g h₀ c Pl h mg₀ mg lines written fs) (hf:f.Is Pl h mg):q7g h₀ c Pl h mg₀ mg lines written (fs++[f]):=
  ⟨X.main,X.keep,X.same,fun g hg=>by
    rcases List.mem_append.mp hg with h1 | h1
    · exact X.facts g h1
    · obtain rfl:=List.mem_singleton.mp h1;exact hf⟩
theorem q3u {x:Str} {pos' pos:Pos} {value:Expr} {Q:Flow→Shared→Prop} (X:q7g h₀ c Pl s.heap mg₀ mg lines written fs)
    (hmod:p.main.scope.kind=.module) (hloc:p.main.scope.names.lookup x=some .local) (hfresh:x∉fs.map (·.x)) (hnb:x≠"__builtins__")
    (hs:swapsWith value (some (.Name x pos')) pos.line (mainEnv p c F)=pure false)
    (hval:wpAny (model p w) A (eval value (mainEnv p c F)) (fun v s₁=>(∃ h₁ tk,s₁={ s with heap:=h₁,toks:=tk }∧Kept s.heap h₁)∧
      ∀ h' tk,Heap.SameBut mainGlobals s₁.heap h'→q7g h₀ c Pl h' mg₀ (fun y=>if y=x then some v else mg y) lines (written++[x]) fs→Q .next { s with heap:=h',toks:=tk }) E s) :
    wpAny (model p w) A (exec (.Assign [.Name x pos'] value pos) (mainEnv p c F)) Q E s:=by
  refine wpAny_Assign_Name (wpAny_mono hval (fun v s₁ h=>?_) fun zz zz e=>e) hs
  refine q0d fun hn=>?_
  obtain ⟨⟨h₁,tk,rfl,hk⟩,hq⟩:=h
  refine q0a X.main ?_;intro l hm hl
  refine hn ?_
  have hm₁:h₁.Main mg c Pl (triples l).toArray:=hm.keeps hk
  refine wpAny_storeName_local (env:=mainEnv p c F) hloc hm₁.g (fun h' hg' hs'=>?_)
    (by show (p.main.scope.kind==.class||(p.main.scope.kind==.module&&mainGlobals !=mainGlobals))=false;rw [hmod];rfl)
  exact hq h' _ hs' (X.bind (h₁:=h₁) hfresh hnb (fun b o zz zz e=>hk b o e) ⟨l,hm₁,hl⟩ hg' hs')
set_option tactic.hygienic true in
theorem q3a (hmod:p.main.scope.kind=.module):∀ (sts:List Stmt) (lines:List (Nat × Nat)) (written:List Str) (fs:List q2y) (s:Shared) (mg:Str→Option Value) (Q:Flow→Shared→Prop),
    okSts p lines (fs.map (·.x)) sts=true→q7g h₀ c Pl s.heap mg₀ mg lines written fs→
    (∀ h' mg' tk,q7g h₀ c Pl h' mg₀ mg' (lines++sts.flatMap linesOf) (written++sts.flatMap nameOfSt) (fs++sts.filterMap factOf)→Q .next { s with heap:=h',toks:=tk })→
    wpAny (model p w) A (execs sts (mainEnv p c F)) Q E s
  | [],lines,written,fs,s,mg,Q,_,X,h=>by
    refine wpAny_execs_nil ?_
    exact h s.heap mg s.toks (by simpa using X)
  | st::sts,lines,written,fs,s,mg,Q,hok,X,h=>by
    rw [k1u,Bool.and_eq_true] at hok
    obtain ⟨h1,h2⟩:=hok
    refine wpAny_execs_cons ?_
    have next:∀ h' mg' tk,q7g h₀ c Pl h' mg₀ mg' (lines++linesOf st) (written++nameOfSt st) (fs++(factOf st).toList)→wpAny (model p w) A (execs sts (mainEnv p c F)) Q E { s with heap:=h',toks:=tk }:=by
      intro h' mg' tk X'
      refine q3a hmod sts _ _ _ { s with heap:=h',toks:=tk } mg' Q (by simpa using h2) X' fun h'' mg'' tk' X''=>?_
      refine h h'' mg'' tk' ?_
      have e:(st::sts).filterMap factOf=(factOf st).toList++sts.filterMap factOf:=by cases hf:factOf st<;>simp [hf]
      simpa [e,List.append_assoc] using X''
    have hs:=z4e h1
    clear h1
    cases hs
    · rename_i x p1 x1 k1 p2 pos hq
      simp only [okNm,Bool.and_eq_true,decide_eq_true_eq,Bool.not_eq_true',beq_eq_false_iff_ne,List.contains_eq_mem,decide_eq_false_iff_not] at hq
      obtain ⟨⟨a1,a2⟩,a3⟩:=hq
      refine q3u X hmod a1 a3 a2 rfl (wpAny_Constant_str ⟨⟨s.heap,_,rfl,fun zz zz e=>e⟩,fun h' tk hs' X'=>?_⟩)
      exact next h' (fun y=>if y=x then some (.str x1 s.toks) else mg y) tk (by simpa [linesOf,nameOfSt,factOf] using X')
    · rename_i x p1 i k1 p2 pos hq
      simp only [okNm,Bool.and_eq_true,decide_eq_true_eq,Bool.not_eq_true',beq_eq_false_iff_ne,List.contains_eq_mem,decide_eq_false_iff_not] at hq
      obtain ⟨⟨a1,a2⟩,a3⟩:=hq
      refine q3u X hmod a1 a3 a2 rfl (wpAny_Constant_int ⟨⟨s.heap,_,rfl,fun zz zz e=>e⟩,fun h' tk hs' X'=>?_⟩)
      refine next h' (fun y=>if y=x then some (.int i s.toks) else mg y) tk ?_
      have:=X'.add (f:=intFact x i) ⟨.int i s.toks,if_pos rfl,_,rfl⟩
      simpa [linesOf,nameOfSt,factOf] using this
    · rename_i name params body scope bind pos hq
      simp only [okFn,Bool.and_eq_true,decide_eq_true_eq,Bool.not_eq_true',beq_eq_false_iff_ne,List.contains_eq_mem,decide_eq_false_iff_not,beq_iff_eq] at hq
      refine q0d fun hn=>?_
      obtain ⟨⟨⟨⟨⟨⟨rfl,a1⟩,a2⟩,a3⟩,a4⟩,a5⟩,a6⟩:=hq
      refine q9i (q4p (env:=mainEnv p c F) a1) ?_;intro b1 b2 b3 b4
      refine q0a X.main ?_;intro l hm hl
      refine hn ?_
      have hPl:Pl<s.heap.objs.size:=hm.code.lt.2
      have hG:mainGlobals<s.heap.objs.size:=hm.g.lt
      have hnf:codeAmong pos (triples l).toArray.toList=none:=by
        refine codeAmong_triples pos l fun q hq he=>a6 ?_
        rw [← hl]
        exact List.mem_map.mpr ⟨q,hq,by rw [he.1,he.2]⟩
      have hfree:∀ x∈scope.names,x.2≠.free:=fun x hx e=>by
        have:=List.all_eq_true.mp a2 x hx
        rw [e] at this;revert this;decide
      have hqual:qualnameIn { scope:=p.main.scope,locals:=mainGlobals,globals:=mainGlobals,cells:=[] } name name=name:=by
        unfold qualnameIn Env.kindOf
        rw [a3]
        show (if (some NameKind.local==some NameKind.globalExplicit)=true then name else Str.empty++name)=name
        exact Str.empty_append name
      refine wpAny_defStmt0N b2 b3 (by rw [b4];simp) b1 hfree a3 hqual hm (fun a c' doc dV vs h' tk ha hM hobj hcv hdef hcd htb hk=>?_) a4 hmod hnf
      refine next h' (fun x=>if x=name then some (.ref a) else mg x) tk ?_
      have hdV:dV=.none:=by
        rw [b4] at hcv
        induction vs using q1h with
        | nil=>
                 rcases hdef with h0 | ⟨h0,_⟩
                 · exact h0.2
                 · exact absurd rfl h0
        | cons _ _=>exact hcv.elim
      subst hdV
      have X':q7g h₀ c Pl h' mg₀ (fun x=>if x=name then some (.ref a) else mg x) (lines++[(pos.line,pos.col)]) (written++[name]) fs:=by
        refine ⟨⟨l++[(pos,c')],?_,by simp [hl]⟩,fun b o n1 n2 e=>hk b o n1 n2 (X.keep b o n1 n2 e),fun y hy=>?_,fun f hf=>?_⟩
        · rw [triples_append];simpa using hM
        · simp only [List.mem_append,List.mem_singleton,not_or] at hy
          show (if y=name then _ else mg y)=_
          rw [if_neg hy.2];exact X.same y hy.1
        · obtain ⟨u,hu,hP⟩:=X.facts f hf
          have ne:f.x≠name:=fun e=>a5 (List.mem_map.mpr ⟨f,hf,e⟩)
          refine ⟨u,?_,f.stable Pl _ _ u hk hP⟩
          show (if f.x=name then _ else mg f.x)=_
          rw [if_neg ne];exact hu
      have:=X'.add (f:=fnFact ⟨name,params,body,scope,pos⟩) ⟨.ref a,if_pos rfl,a,c',_,_,doc,rfl,hobj,rfl,hcd.2,Nat.lt_of_lt_of_le hPl ha,Nat.lt_of_lt_of_le hPl hcd.1,Nat.lt_of_lt_of_le hG ha,Nat.lt_of_lt_of_le hG hcd.1⟩
      exact this
end
noncomputable def intC:Expr→Option Int
  | .Constant c _ _=>(match c with
    | .int i=>some i
    | _=>none)
  | _=>none
noncomputable def strC:Expr→Option Str
  | .Constant c _ _=>(match c with
    | .str x=>some x
    | _=>none)
  | _=>none
noncomputable def nmC:Expr→Option Str
  | .Name x _=>some x
  | _=>none
set_option tactic.hygienic true in
theorem z9v {e:Expr} {i:Int} (h:intC e=some i):∃ k p,e=.Constant (.int i) k p:=by
  induction e using PySem.Expr.casesOn<;>first | exact ns h | skip
  rename_i c k p
  cases c<;>first | exact ns h | exact ⟨k,p,Option.some.inj h▸rfl⟩
set_option tactic.hygienic true in
theorem z9w {e:Expr} {x:Str} (h:strC e=some x):∃ k p,e=.Constant (.str x) k p:=by
  induction e using PySem.Expr.casesOn<;>first | exact ns h | skip
  rename_i c k p
  cases c<;>first | exact ns h | exact ⟨k,p,Option.some.inj h▸rfl⟩
theorem k0z {e:Expr} {x:Str} (h:nmC e=some x):∃ p,e=.Name x p:=by
  induction e using PySem.Expr.casesOn<;>first | exact ns h | (apply q0w h;exact ⟨_,rfl⟩)
noncomputable def pairsBy {α β:Type} (f:Expr→Option α) (g:Expr→Option β):List (Option Expr)→List Expr→Option (List (α × β))
  | [],vs=>(match vs with
    | []=>some []
    | _::_=>none)
  | k::ks,vs=>(match vs with
    | []=>none
    | v::vs=>k.bind fun k=>(f k).bind fun a=>(g v).bind fun b=>(pairsBy f g ks vs).map ((a,b)::·))
noncomputable abbrev intStrs:=pairsBy intC strC
noncomputable def strNames (I:List (Str × Int)):=pairsBy strC fun e=>(nmC e).bind fun n=>I.lookup n
theorem q7h {α β:Type} {f:Expr→Option α} {g:Expr→Option β} {k:Option Expr} {ks:List (Option Expr)} {vs:List Expr} {D:List (α × β)} (h:pairsBy f g (k::ks) vs=some D) :
    ∃ e v vs' a b D',k=some e∧vs=v::vs'∧f e=some a∧g v=some b∧pairsBy f g ks vs'=some D'∧D=(a,b)::D':=by
  induction vs using q1h with
  | nil=>exact ns h
  | cons v vs=>
    refine q0d fun hn=>?_
    obtain ⟨e,h1,h⟩:=Option.bind_eq_some_iff.mp h
    refine q0a (Option.bind_eq_some_iff.mp h) ?_;intro a h2 h
    refine q0a (Option.bind_eq_some_iff.mp h) ?_;intro b h3 h
    refine q0a (Option.map_eq_some_iff.mp h) ?_;intro D' h4 h
    refine hn ?_
    exact ⟨e,v,vs,a,b,D',h1,rfl,h2,h3,h4,h.symm⟩
theorem q7i {α β:Type} {f:Expr→Option α} {g:Expr→Option β}:∀ {ks:List (Option Expr)} {vs:List Expr} {D:List (α × β)},pairsBy f g ks vs=some D→ks.all (·.isSome)=true∧ks.length=vs.length∧D.length=ks.length:=by
  intro ks
  induction ks with
  | nil=>
    intro vs D h
    induction vs using q1h with
    | nil=>exact Option.some.inj h▸⟨rfl,rfl,rfl⟩
    | cons _ _=>exact ns h
  | cons k ks ih=>
    intro vs D h
    refine q0d fun hn=>?_
    apply q0d;intro hG;rcases q7h h with ⟨e,v,vs',a,b,D',rfl,rfl,_,_,h4,rfl⟩;apply hG;clear hG
    refine q3k (ih h4) ?_;intro q1 q2 q3
    refine hn ?_
    exact ⟨q1,congrArg (·+1) q2,congrArg (·+1) q3⟩
noncomputable def strVal (x:Str):Value→Prop:=fun v=>∃ t,v=.str x t
noncomputable def intVal (i:Int):Value→Prop:=fun v=>∃ t,v=.int i t
section
variable {p:Program} {w:World} {A:Around} {E:Value→Shared→Prop} {env:Env}
theorem v3m {h₀:Heap} {i:Int} {k:Nat} {q:Pos}:EvP p w A h₀ (intVal i) (eval (.Constant (.int i) k q) env):=fun E s Q zz h=>wpAny_Constant_int (h _ _ ⟨_,rfl⟩)
theorem k1v {h₀:Heap} {x:Str} {k:Nat} {q:Pos}:EvP p w A h₀ (strVal x) (eval (.Constant (.str x) k q) env):=fun E s Q zz h=>wpAny_Constant_str (h _ _ ⟨_,rfl⟩)
theorem z1z {h₀:Heap} {R:Value→Prop} {t:Sem Value} {q:Pos} (h:EvP p w A h₀ R t):EvP p w A h₀ R (do let x ← t;standAt q;pure x):=
  fun E s Q hk hq=>wpAny_bind (h E s _ hk fun v tk hv=>wpAny_bind (wpAny_standAt (wpAny_pure (hq v tk hv))))
theorem z0o {ks:List (Option Expr)} {vs:List Expr} {D:List (Int × Str)} (h:intStrs ks vs=some D):ks.all (·.isSome)=true∧ks.length=vs.length∧D.length=ks.length:=q7i h
theorem z7s {h₀:Heap} {q:Pos}:∀ {ks:List (Option Expr)} {vs:List Expr} {D:List (Int × Str)},intStrs ks vs=some D→
    q0y (intKind p w) A h₀ (pairTrees ks vs env q) (D.map fun x=>(x.1,strVal x.2)):=by
  intro ks
  induction ks with
  | nil=>
    intro vs D h
    induction vs using q1h with
    | nil=>exact Option.some.inj h▸.nil
    | cons _ _=>exact ns h
  | cons k ks ih=>
    intro vs D h
    apply q0d;intro hG;rcases q7h h with ⟨e,v,vs',a,b,D',rfl,rfl,h2,h3,h4,rfl⟩;apply hG;clear hG
    refine q3i (z9v h2) ?_;intro zw0 zw1 zw2;rcases zw2 with rfl
    refine q3i (z9w h3) ?_;intro zw0 zw1 zw2;rcases zw2 with rfl
    refine .cons ⟨fun E s Q hk hq=>?_,z1z k1v⟩ (ih h4)
    dsimp only at hq ⊢
    exact wpAny_Constant_int (hq _ _ (intKind_is ..))
theorem q8z {I:List (Str × Int)} {ks:List (Option Expr)} {vs:List Expr} {D:List (Str × Int)} (h:strNames I ks vs=some D):ks.all (·.isSome)=true∧ks.length=vs.length∧D.length=ks.length:=q7i h
theorem z4f {c F:Addr} {mg:Str→Option Value} {h₀:Heap} {q:Pos} {I:List (Str × Int)} (hmod:p.main.scope.kind=.module) (hg:h₀.Ns mainGlobals mg) (hI:∀ n i,(n,i)∈I→∃ t,mg n=some (.int i t)) (hd:∀ n i,(n,i)∈I→(n==("__debug__":Str))=false) :
    ∀ {ks:List (Option Expr)} {vs:List Expr} {D:List (Str × Int)},strNames I ks vs=some D→
    q0y (strKind p w) A h₀ (pairTrees ks vs (mainEnv p c F) q) (D.map fun x=>(x.1,intVal x.2)):=by
  intro ks
  induction ks with
  | nil=>
    intro vs D h
    induction vs using q1h with
    | nil=>exact Option.some.inj h▸.nil
    | cons _ _=>exact ns h
  | cons k ks ih=>
    intro vs D h
    refine q0d fun hn=>?_
    apply q0d;intro hG;rcases q7h h with ⟨e,v,vs',a,b,D',rfl,rfl,h2,h3,h4,rfl⟩;apply hG;clear hG
    refine q3i (z9w h2) ?_;intro zw0 zw1 zw2;rcases zw2 with rfl
    refine q0a (Option.bind_eq_some_iff.mp h3) ?_;intro x h3 hl
    obtain ⟨_,rfl⟩:=k0z h3
    have hm:=mem_lookup hl
    obtain ⟨t,ht⟩:=hI _ _ hm
    refine hn ?_
    refine .cons ⟨fun E s Q hk hq=>?_,z1z fun E s Q hk hq=>?_⟩ (ih h4)
    · dsimp only at hq ⊢
      exact wpAny_Constant_str (hq _ _ (strKind_is ..))
    dsimp only at hq ⊢
    exact Name_module (env:=mainEnv p c F) hmod rfl (loadGlobal_global (env:=mainEnv p c F) (hg.keeps hk) ht (hq (.int b t) s.toks ⟨t,rfl⟩)) (hd _ _ hm)
variable {s:Shared} {c F:Addr}
theorem z9x {K:Type} [DecidableEq K] {knd:PySem.KeyKind p w K} {ks:List (Option Expr)} {vs:List Expr} {q:Pos} {sps:List (K × (Value→Prop))} {Q:Value→Shared→Prop}
    (hall:ks.all (·.isSome)=true) (hl:ks.length=vs.length) (hD:sps.length=ks.length) (h0:ks≠[]) (hp:q0y knd A s.heap (pairTrees ks vs env q) sps) (hz:2≤s.heap.objs.size)
    (hn:(sps.map (·.1)).Nodup) (hlen:sps.length≤sizeLine)
    (h:∀ d h' tk kvs,q7d kvs sps→h'.DictOf knd d kvs→s.heap.objs.size≤d→(d==sysModules)=false→Kept s.heap h'→Q (.ref d) { s with heap:=h',toks:=tk }) :
    wpAny (model p w) A (eval (.Dict ks vs q) env) Q E s:=by
  rw [arm_eval_Dict,zip_pairTrees ks vs env q hall hl]
  have hn0:pairTrees ks vs env q≠[]:=fun e=>by
    have:=hp.length
    rw [e,hD] at this
    exact h0 (List.length_eq_zero_iff.mp this.symm)
  first
    | exact wpAny_bind (wpAny_standAt (q7f hz hp hn0 hn hlen h))
    | exact q7f hz hp hn0 hn hlen h
end
section
variable {p:Program} {w:World} {A:Around} {E:Value→Shared→Prop} {h₀:Heap} {c Pl F:Addr} {mg₀ mg:Str→Option Value}
  {lines:List (Nat × Nat)} {written:List Str} {fs:List q2y} {s:Shared}
theorem q7g.size {h:Heap} (X:q7g h₀ c Pl h mg₀ mg lines written fs):4≤h.objs.size∧Pl<h.objs.size:=by
  refine q0a X.main ?_;intro l hm zw2
  have:=hm.g.lt
  exact ⟨this,hm.code.lt.2⟩
theorem k1w {x:Str} {pos' pos p1 p2 p3 p4 p5 p6 p7 p8 q1 q2:Pos} {k1 k2:Nat} {es:List Expr} {ns:List Int} {a b:Int} {n:Nat} {mb:Str→Option Value} {Q:Flow→Shared→Prop}
    (X:q7g h₀ c Pl s.heap mg₀ mg lines written fs) (hmod:p.main.scope.kind=.module) (hloc:p.main.scope.names.lookup x=some .local) (hfresh:x∉fs.map (·.x)) (hnb:x≠"__builtins__")
    (hh:A.handled=none) (hb:h₀.Ns builtinsNs mb) (hbP:builtinsNs≠Pl) (w1:("set":Str)∉written) (w2:("list":Str)∉written) (w3:("range":Str)∉written)
    (g1:mg₀ "set"=none) (g2:mg₀ "list"=none) (g3:mg₀ "range"=none)
    (b1:mb "set"=some (.type "set")) (b2:mb "list"=some (.type "list")) (b3:mb "range"=some (.type "range"))
    (he:intConsts es=some ns) (hn:Builtin.Range.rangeSize a b 1=(n:Int)) (hsmall:Builtin.Range.small a b 1=true) (hlen:ns.length+n+1<scanBound) (hn2:n≤2 ^ 24)
    (h:∀ h' mg' tk,q7g h₀ c Pl h' mg₀ mg' lines (written++[x]) (fs++[setFact p w x (ns++rangeI a n) (firstMet (fun i=>(ns++rangeI a n).getD i 0) (ns.length+n)).length])→Q .next { s with heap:=h',toks:=tk }) :
    wpAny (model p w) A (exec (.Assign [.Name x pos'] (.Call (.Name "set" p1) [.BinOp (.List es p2) .Add (.Call (.Name "list" p3) [.Call (.Name "range" p4) [.Constant (.int a) k1 q1,.Constant (.int b) k2 q2] [] p5] [] p6) p7] [] p8) pos) (mainEnv p c F)) Q E s:=by
  refine q0a X.main ?_;intro l hm hl
  obtain ⟨z1,z2⟩:=X.size
  have hb':s.heap.Ns builtinsNs mb:=by
    apply q0d;intro hG;rcases hb with ⟨o,es,ep,e,r⟩;apply hG;clear hG
    exact ⟨o,es,ep,X.keep _ _ hbP (by decide) e,r⟩
  refine q3u X hmod hloc hfresh hnb rfl (z4d hh hmod hm.g hb' ((X.same _ w1).trans g1) ((X.same _ w2).trans g2) ((X.same _ w3).trans g3) b1 b2 b3 he hn hsmall hlen hn2
    fun d h' tk hS hd hk=>⟨⟨h',tk,rfl,hk⟩,fun h'' tk' hs' X'=>?_⟩)
  have hdG:d≠mainGlobals:=Nat.ne_of_gt (Nat.lt_of_lt_of_le (by assumption) hd)
  refine h h'' _ tk' (X'.add ⟨.ref d,if_pos rfl,d,rfl,Nat.ne_of_gt (Nat.lt_of_lt_of_le z2 hd),hdG,?_⟩)
  apply q0d;intro hG;rcases hS with ⟨o,es',ep,t,ho,r⟩;apply hG;clear hG
  exact ⟨o,es',ep,t,(hs'.2 _ hdG).trans ho,r⟩
theorem z9y {K:Type} [DecidableEq K] {knd:PySem.KeyKind p w K} {x:Str} {pos' pos q:Pos} {ks:List (Option Expr)} {vs:List Expr} {sps:List (K × (Value→Prop))} {Q:Flow→Shared→Prop}
    (X:q7g h₀ c Pl s.heap mg₀ mg lines written fs) (hmod:p.main.scope.kind=.module) (hloc:p.main.scope.names.lookup x=some .local) (hfresh:x∉fs.map (·.x)) (hnb:x≠"__builtins__")
    (hall:ks.all (·.isSome)=true) (hl:ks.length=vs.length) (hD:sps.length=ks.length) (h0:ks≠[]) (hp:s.heap.Ns mainGlobals mg→q0y knd A s.heap (pairTrees ks vs (mainEnv p c F) q) sps)
    (hn:(sps.map (·.1)).Nodup) (hlen:sps.length≤sizeLine)
    (h:∀ h' mg' tk,q7g h₀ c Pl h' mg₀ mg' lines (written++[x]) (fs++[tabFact knd x sps])→Q .next { s with heap:=h',toks:=tk }) :
    wpAny (model p w) A (exec (.Assign [.Name x pos'] (.Dict ks vs q) pos) (mainEnv p c F)) Q E s:=by
  refine q0a X.main ?_;intro l hm hl'
  obtain ⟨z1,z2⟩:=X.size
  refine q3u X hmod hloc hfresh hnb rfl (z9x hall hl hD h0 (hp hm.g) (by omega) hn hlen fun d h' tk kvs hf hd hdz hS hk=>⟨⟨h',tk,rfl,hk⟩,fun h'' tk' hs' X'=>?_⟩)
  have hdG:d≠mainGlobals:=Nat.ne_of_gt (Nat.lt_of_lt_of_le (by assumption) hdz)
  refine h h'' _ tk' (X'.add ⟨.ref d,if_pos rfl,d,kvs,rfl,Nat.ne_of_gt (Nat.lt_of_lt_of_le z2 hdz),hdG,hS,?_,hf⟩)
  apply q0d;intro hG;rcases hd with ⟨o,es',ep,ho,r⟩;apply hG;clear hG
  exact ⟨o,es',ep,(hs'.2 _ hdG).trans ho,r⟩
end
noncomputable def unboundNames:List Str:=["len","ord","chr","range","max","min","set","enumerate"].map Str.ofString
noncomputable abbrev nB1:Str:=Str.ofString "b1_set"
noncomputable abbrev nB3:Str:=Str.ofString "b3_exceptions"
noncomputable abbrev nET:Str:=Str.ofString "EXACT_TOKEN_TYPES"
noncomputable def intOf (st:Stmt):Option (Str × Int):=match st with
  | .Assign ts e _=>(match ts with
    | []=>none
    | t::ts=>(match ts with
      | []=>(nmC t).bind fun x=>(intC e).map fun i=>(x,i)
      | _::_=>none))
  | _=>none
noncomputable def intsOf (sts:List Stmt):List (Str × Int):=sts.filterMap intOf
set_option tactic.hygienic true in
theorem z7t {st:Stmt} {x:Str} {i:Int} (h:intOf st=some (x,i)):factOf st=some (intFact x i):=by
  induction st using PySem.Stmt.casesOn<;>first | exact ns h | skip
  rename_i ts e p
  induction ts using q1h with
  | nil=>exact ns h
  | cons t ts=>
    induction ts using q1h with
    | cons _ _=>exact ns h
    | nil=>
      obtain ⟨y,h1,h⟩:=Option.bind_eq_some_iff.mp h
      refine q0a (Option.map_eq_some_iff.mp h) ?_;intro j h2 hq
      obtain ⟨h3,h4⟩:=Prod.mk.inj hq
      obtain ⟨_,hq57⟩:=k0z h1
      apply q0g hq57
      refine q3i (z9v h2) ?_;intro zw0 zw1 zw2;apply q0g zw2
      rw [← h3,← h4];rfl
theorem q7j {sts:List Stmt} {x:Str} {i:Int} (h:(x,i)∈intsOf sts):intFact x i∈sts.filterMap factOf:=by
  refine q0a (List.mem_filterMap.mp h) ?_;intro st h4 h5
  exact List.mem_filterMap.mpr ⟨st,h4,z7t h5⟩
theorem q6g (env:Env) (ys:List Stmt):∀ xs:List Stmt,execs (xs++ys) env=(execs xs env >>= fun f=>match f with | .next=>execs ys env | f=>pure f)
  | []=>by
    show _=(pure Flow.next >>= _)
    rfl
  | x::xs=>by
    rw [List.cons_append,execs_cons,execs_cons,bind_assoc]
    congr 1
    funext f
    cases f with
    | next=>exact q6g env ys xs
    | _=>exact (pure_bind _ _).symm
theorem q1x {M:Model} {A:Around} {E:Value→Shared→Prop} {env:Env} {xs ys:List Stmt} {s:Shared} {Q:Flow→Shared→Prop}
    (h:wpAny M A (execs xs env) (fun f s'=>match f with | .next=>wpAny M A (execs ys env) Q E s' | f=>Q f s') E s):wpAny M A (execs (xs++ys) env) Q E s:=by
  rw [q6g]
  refine wpAny_bind (wpAny_mono h (fun f s' hf=>?_) fun zz zz e=>e)
  cases f<;>first | exact hf | exact wpAny_pure hf
structure q0f (p:Program) where
  sA:List Stmt
  sC:List Stmt
  sD:List Stmt
  sE:List Stmt
  es:List Expr
  ns:List Int
  a:Int
  b:Int
  n:Nat
  ks3:List (Option Expr)
  vs3:List Expr
  D3:List (Int × Str)
  ksE:List (Option Expr)
  vsE:List Expr
  DE:List (Str × Int)
namespace q0f
variable {p:Program} (H:q0f p)
noncomputable def b1:List Int:=H.ns++rangeI H.a H.n
noncomputable def n1:Nat:=(firstMet (fun i=>H.b1.getD i 0) (H.ns.length+H.n)).length
noncomputable def fA:List q2y:=H.sA.filterMap factOf
noncomputable def fB (w:World):List q2y:=H.fA++[setFact p w nB1 H.b1 H.n1]
noncomputable def fC (w:World):List q2y:=H.fB w++H.sC.filterMap factOf
noncomputable def f3 (w:World):List q2y:=H.fC w++[tabFact (intKind p w) nB3 (H.D3.map fun x=>(x.1,strVal x.2))]
noncomputable def fD (w:World):List q2y:=H.f3 w++H.sD.filterMap factOf
noncomputable def fE (w:World):List q2y:=H.fD w++[tabFact (strKind p w) nET (H.DE.map fun x=>(x.1,intVal x.2))]
noncomputable def facts (w:World):List q2y:=H.fE w++H.sE.filterMap factOf
noncomputable def nmA:List Str:=(H.sA.filterMap factOf).map (·.x)
noncomputable def nmC:List Str:=(H.sC.filterMap factOf).map (·.x)
noncomputable def nmD:List Str:=(H.sD.filterMap factOf).map (·.x)
noncomputable def T (w:World) (h:Heap) (mg:Str→Option Value):Prop:=(∃ Pl,∀ f∈H.facts w,f.Is Pl h mg)∧∀ f∈unboundNames,mg f=none
theorem keep {w:World} {h h':Heap} {mg:Str→Option Value} (x:H.T w h mg) (hk:Kept h h'):H.T w h' mg:=
  let ⟨⟨Pl,y⟩,u⟩:=x;⟨⟨Pl,fun f hf=>let ⟨v,a,b⟩:=y f hf;⟨v,a,f.stable Pl _ _ v (fun b o zz zz e=>hk b o e) b⟩⟩,u⟩
end q0f
set_option maxHeartbeats 1000000 in
theorem j5k {p:Program} (H:q0f p) {pos1 pos2 p1 p2 p3 p4 p5 p6 p7 p8 q1 q2 r1 r2 r3 t1 t2 t3:Pos} {k1 k2:Nat}
    (hbody:behindTheImports p=H.sA++(.Assign [.Name nB1 pos1] (.Call (.Name "set" p1) [.BinOp (.List H.es p2) .Add (.Call (.Name "list" p3) [.Call (.Name "range" p4) [.Constant (.int H.a) k1 q1,.Constant (.int H.b) k2 q2] [] p5] [] p6) p7] [] p8) pos2 ::
      (H.sC++(.Assign [.Name nB3 r1] (.Dict H.ks3 H.vs3 r2) r3::(H.sD++(.Assign [.Name nET t1] (.Dict H.ksE H.vsE t2) t3::H.sE))))))
    (hmod:p.main.scope.kind=.module)
    (l1:p.main.scope.names.lookup nB1=some .local) (l2:p.main.scope.names.lookup nB3=some .local) (l3:p.main.scope.names.lookup nET=some .local)
    (okA:okSts p [] [] H.sA=true)
    (okC:okSts p (H.sA.flatMap linesOf) (H.nmA++[nB1]) H.sC=true)
    (okD:okSts p (H.sA.flatMap linesOf++H.sC.flatMap linesOf) (H.nmA++[nB1]++H.nmC++[nB3]) H.sD=true)
    (okE:okSts p (H.sA.flatMap linesOf++H.sC.flatMap linesOf++H.sD.flatMap linesOf) (H.nmA++[nB1]++H.nmC++[nB3]++H.nmD++[nET]) H.sE=true)
    (f1:nB1∉H.nmA) (f2:nB3∉H.nmA++[nB1]++H.nmC) (f3:nET∉H.nmA++[nB1]++H.nmC++[nB3]++H.nmD)
    (w1:("set":Str)∉H.sA.flatMap nameOfSt) (w2:("list":Str)∉H.sA.flatMap nameOfSt) (w3:("range":Str)∉H.sA.flatMap nameOfSt)
    (he:intConsts H.es=some H.ns) (hn:Builtin.Range.rangeSize H.a H.b 1=(H.n:Int)) (hsmall:Builtin.Range.small H.a H.b 1=true) (hlen:H.ns.length+H.n+1<scanBound)
    (d3:intStrs H.ks3 H.vs3=some H.D3) (n3:(H.D3.map (·.1)).Nodup) (z3:H.ks3≠[]) (y3:H.D3.length<10000)
    (dE:strNames (intsOf H.sD) H.ksE H.vsE=some H.DE) (nE:(H.DE.map (·.1)).Nodup) (zE:H.ksE≠[]) (yE:H.DE.length<10000)
    (dbg:((intsOf H.sD).all fun x=>!(x.1==("__debug__":Str)))=true)
    (names:(H.sA.flatMap nameOfSt++[nB1]++H.sC.flatMap nameOfSt++[nB3]++H.sD.flatMap nameOfSt++[nET]++H.sE.flatMap nameOfSt).all (fun x=>p.boundNames.contains x)=true)
    (unb:(unboundNames.all fun x=>!(H.sA.flatMap nameOfSt++[nB1]++H.sC.flatMap nameOfSt++[nB3]++H.sD.flatMap nameOfSt++[nET]++H.sE.flatMap nameOfSt).contains x&&!bootMainNames.contains x)=true)
    (w:World):TopWalk p w (H.T w):=by
  intro s mg mb c Pl F A Q hh hdep hun hM hmb hbt hst hoth hg hQ
  have hsl:(10000:Nat)≤sizeLine:=by decide
  have bn:∀ x:Str,(bootMainNames.contains x)=false→mg x=none:=fun x hx=>hoth x (by simpa using hx)
  have bb:∀ (x:Str) v,(x=="__name__")=false→bootBuiltins x=some v→mb x=some v:=fun x v hx hv=>by
    rw [hbt x (by simpa using hx)];exact hv
  rw [hbody]
  have X0:q7g s.heap c Pl s.heap mg mg [] [] []:=⟨⟨[],hM,rfl⟩,fun zz zz zz zz e=>e,fun zz zz=>rfl,fun zz hf=>nomatch hf⟩
  have hPl:builtinsNs≠Pl:=Nat.ne_of_lt (Nat.lt_trans (by decide) hM.low.2)
  refine q1x (q3a hmod H.sA [] [] [] s mg _ okA X0 fun h1 mg1 tk1 X1=>?_)
  dsimp only [List.nil_append] at X1
  refine wpAny_execs_cons (k1w (a:=H.a) (b:=H.b) (es:=H.es) X1 hmod l1 (f1) (by decide) hh hmb hPl w1 w2 w3 (bn _ (by decide)) (bn _ (by decide)) (bn _ (by decide))
    (bb _ _ (by decide) (by decide +kernel)) (bb _ _ (by decide) (by decide +kernel)) (bb _ _ (by decide) (by decide +kernel)) he hn hsmall hlen (Nat.le_trans (by rw [show scanBound=4096 from rfl] at hlen;omega) (show 4096≤2 ^ 24 by decide)) fun h2 mg2 tk2 X2=>?_)
  have X2':q7g s.heap c Pl h2 mg mg2 (H.sA.flatMap linesOf) (H.sA.flatMap nameOfSt++[nB1]) (H.fB w):=X2
  refine q1x (q3a hmod H.sC _ _ _ _ mg2 _ (by simpa [q0f.fB,q0f.fA,q0f.nmA,setFact] using okC) X2' fun h3 mg3 tk3 X3=>?_)
  refine q3k (z0o d3) ?_;intro a3 b3 c3
  refine wpAny_execs_cons (z9y (knd:=intKind p w) (sps:=H.D3.map fun x=>(x.1,strVal x.2)) X3 hmod l2 (by simpa [q0f.fB,q0f.fA,q0f.nmA,q0f.nmC,setFact] using f2) (by decide) a3 b3 (by simpa using c3) z3
    (fun zz=>z7s d3) (by simpa [Function.comp_def] using n3) (by simp;exact Nat.le_trans (Nat.le_of_lt (by assumption)) (Nat.le_of_ble_eq_true rfl)) fun h4 mg4 tk4 X4=>?_)
  have X4':q7g s.heap c Pl h4 mg mg4 (H.sA.flatMap linesOf++H.sC.flatMap linesOf) (H.sA.flatMap nameOfSt++[nB1]++H.sC.flatMap nameOfSt++[nB3]) (H.f3 w):=X4
  refine q1x (q3a hmod H.sD _ _ _ _ mg4 _ (by simpa [q0f.f3,q0f.fC,q0f.fB,q0f.fA,q0f.nmA,q0f.nmC,setFact,tabFact] using okD) X4' fun h5 mg5 tk5 X5=>?_)
  have X5':q7g s.heap c Pl h5 mg mg5 (H.sA.flatMap linesOf++H.sC.flatMap linesOf++H.sD.flatMap linesOf) (H.sA.flatMap nameOfSt++[nB1]++H.sC.flatMap nameOfSt++[nB3]++H.sD.flatMap nameOfSt) (H.fD w):=X5
  refine q3k (q8z dE) ?_;intro aE bE cE
  refine wpAny_execs_cons (z9y (knd:=strKind p w) (sps:=H.DE.map fun x=>(x.1,intVal x.2)) X5' hmod l3 (by simpa [q0f.fD,q0f.f3,q0f.fC,q0f.fB,q0f.fA,q0f.nmA,q0f.nmC,q0f.nmD,setFact,tabFact] using f3) (by decide) aE bE (by simpa using cE) zE
    (fun hg5=>z4f hmod hg5 (fun n i hi=>?_) (fun n i hi=>?_) dE) (by simpa [Function.comp_def] using nE) (by simp;exact Nat.le_trans (Nat.le_of_lt (by assumption)) (Nat.le_of_ble_eq_true rfl)) fun h6 mg6 tk6 X6=>?_)
  · apply q0d;intro hG;rcases X5'.facts (intFact n i) (List.mem_append_right _ (q7j hi)) with ⟨v,hv,t,rfl⟩;apply hG;clear hG
    exact ⟨t,hv⟩
  · have:=List.all_eq_true.mp dbg _ hi
    simpa using this
  have X6':q7g s.heap c Pl h6 mg mg6 (H.sA.flatMap linesOf++H.sC.flatMap linesOf++H.sD.flatMap linesOf) (H.sA.flatMap nameOfSt++[nB1]++H.sC.flatMap nameOfSt++[nB3]++H.sD.flatMap nameOfSt++[nET]) (H.fE w):=X6
  refine q3a hmod H.sE _ _ _ _ mg6 _ (by simpa [q0f.fE,q0f.fD,q0f.f3,q0f.fC,q0f.fB,q0f.fA,q0f.nmA,q0f.nmC,q0f.nmD,setFact,tabFact] using okE) X6' fun h7 mg7 tk7 X7=>?_
  refine q0a X7.main ?_;intro l hm7 zw2
  refine hQ h7 mg7 _ tk7 hm7 X7.keep (fun x hx=>X7.same x fun hw=>hx ?_) ⟨⟨Pl,X7.facts⟩,fun f hf=>?_⟩
  · have:=List.all_eq_true.mp names x hw
    simpa using this
  · have:=List.all_eq_true.mp unb f hf
    simp only [Bool.and_eq_true,Bool.not_eq_true'] at this
    rw [X7.same f (fun hw=>by have h1:=this.1;rw [List.contains_eq_mem] at h1;exact absurd hw (by simpa using h1))]
    exact bn f this.2
noncomputable def valueOfSt:Stmt→Expr
  | .Assign _ v _=>v
  | _=>.Constant .none 0 default
noncomputable def setElts:Expr→List Expr
  | .Call _ [.BinOp (.List es _) _ _ _] _ _=>es
  | _=>[]
noncomputable def setBounds:Expr→Int × Int
  | .Call _ [.BinOp _ _ (.Call _ [.Call _ [.Constant (.int a) _ _,.Constant (.int b) _ _] _ _] _ _) _] _ _=>(a,b)
  | _=>(0,0)
noncomputable def dictKeys:Expr→List (Option Expr)
  | .Dict ks _ _=>ks
  | _=>[]
noncomputable def dictVals:Expr→List Expr
  | .Dict _ vs _=>vs
  | _=>[]
noncomputable def ascF (a:Int):List Int→Bool
  | []=>true
  | b::r=>decide (a<b)&&ascF b r
noncomputable def ascends:List Int→Bool
  | []=>true
  | a::r=>ascF a r
theorem q9m:∀ {l:List Int} {a:Int},ascF a l=true→∀ b∈l,a<b
  | c::r,a,h,b,hb=>by
    replace h:=Bool.and_eq_true_iff.mp h
    rcases List.mem_cons.mp hb with rfl | hb
    · exact of_decide_eq_true h.1
    · exact Int.lt_trans (of_decide_eq_true h.1) (q9m h.2 b hb)
theorem q4q:∀ {l:List Int} {a:Int},ascF a l=true→(a::l).Nodup
  | [],_,_=>List.nodup_cons.mpr ⟨List.not_mem_nil,List.nodup_nil⟩
  | c::r,a,h=>List.nodup_cons.mpr ⟨fun hm=>Int.lt_irrefl a (q9m h a hm),q4q (Bool.and_eq_true_iff.mp h).2⟩
theorem q6r:∀ {l:List Int},ascends l=true→l.Nodup
  | [],_=>List.nodup_nil
  | _::_,h=>q4q h
noncomputable def shapeOf (p:Program):q0f p:=
  let body:=behindTheImports p
  let v1:=valueOfSt (body.getD 5 (.Pass default))
  let v3:=valueOfSt (body.getD 7 (.Pass default))
  let vE:=valueOfSt (body.getD 60 (.Pass default))
  let sD:=(body.drop 8).take 52
  { sA:=body.take 5,sC:=(body.drop 6).take 1,sD:=sD,sE:=body.drop 61,
    es:=setElts v1,ns:=(intConsts (setElts v1)).getD [],a:=(setBounds v1).1,b:=(setBounds v1).2,n:=((setBounds v1).2 - (setBounds v1).1).toNat,
    ks3:=dictKeys v3,vs3:=dictVals v3,D3:=(intStrs (dictKeys v3) (dictVals v3)).getD [],
    ksE:=dictKeys vE,vsE:=dictVals vE,DE:=(strNames (intsOf sD) (dictKeys vE) (dictVals vE)).getD [] }
noncomputable abbrev p1:Program:=PySem.Challenge.pw_ti0067_01
set_option maxRecDepth 100000 in
set_option maxHeartbeats 2000000 in
theorem k8j (w:World):TopWalk p1 w ((shapeOf p1).T w):=by
  refine' j5k (shapeOf p1) (hbody:=?hbody) ?m ?l1 ?l2 ?l3 ?okA ?okC ?okD ?okE ?f1 ?f2 ?f3 ?w1 ?w2 ?w3 ?he ?hn ?hs ?hlen ?d3 ?n3 ?z3 ?y3 ?dE ?nE ?zE ?yE ?dbg ?names ?unb w
  case hbody=>exact rfl
  case m=>rfl
  case l1=>decide +kernel
  case l2=>decide +kernel
  case l3=>decide +kernel
  case okA=>decide +kernel
  case okC=>decide +kernel
  case okD=>decide +kernel
  case okE=>decide +kernel
  case f1=>decide +kernel
  case f2=>decide +kernel
  case f3=>decide +kernel
  case w1=>decide +kernel
  case w2=>decide +kernel
  case w3=>decide +kernel
  case he=>decide +kernel
  case hn=>decide +kernel
  case hs=>decide +kernel
  case hlen=>decide +kernel
  case d3=>decide +kernel
  case n3=>exact q6r (by decide +kernel)
  case z3=>decide +kernel
  case y3=>decide +kernel
  case dE=>decide +kernel
  case nE=>decide +kernel
  case zE=>decide +kernel
  case yE=>decide +kernel
  case dbg=>decide +kernel
  case unb=>decide +kernel
  case names=>decide +kernel
inductive D where
  | none
  | bool (b:Bool)
  | int (i:Int)
  | str (s:List Nat)
  | tup (l:List D)
  | list (l:List D)
  | rng (a b:Int)
  | etab
  | loc (n:Nat)
noncomputable abbrev Loc:=List (Str × Option D)
noncomputable abbrev Sto:=List (List D)
theorem bs {α β:Type} {a:Option α} {x:α} {f:α→Option β} {y:Option β} (h:a=some x) (k:f x=y):a.bind f=y:=by rw [h];exact k
theorem ms {α β:Type} {a:Option α} {x:α} {f:α→β} (h:a=some x):a.map f=some (f x):=by rw [h];rfl
theorem it {α:Type} {b:Bool} {x y z:α} (h:b=true) (k:x=z):(if b then x else y)=z:=by rw [h];exact k
noncomputable def Loc.put (x:Str) (d:D):Loc→Loc
  | []=>[(x,some d)]
  | (y,e)::r=>if x=y then (y,some d)::r else (y,e)::Loc.put x d r
noncomputable def Loc.find (x:Str):Loc→Option D
  | []=>Option.none
  | (y,e)::r=>if x=y then e else Loc.find x r
noncomputable def intsD (a b:Int):List D:=(List.range (b - a).toNat).map fun (k:Nat)=>D.int (a+(k:Int))
noncomputable def small (a:Int):Bool:=decide (a.natAbs≤2 ^ 40)
noncomputable def lone {α:Type}:List α→Option α
  | []=>Option.none
  | x::l=>(match l with
    | []=>some x
    | _::_=>Option.none)
noncomputable def isNoneD:D→Bool
  | .none=>true
  | _=>false
theorem z4g {d:D} (h:isNoneD d=true):d=.none:=by
  induction d using D.casesOn<;>first | rfl | exact ff h
noncomputable def asInt:D→Option Int
  | .int i=>some i
  | _=>Option.none
noncomputable def asBool:D→Option Bool
  | .bool b=>some b
  | _=>Option.none
noncomputable def asStr:D→Option (List Nat)
  | .str s=>some s
  | _=>Option.none
noncomputable def listD (σ:Sto):D→Option (List D)
  | .list l=>some l
  | .loc k=>σ[k]?
  | _=>Option.none
noncomputable def seqItems (σ:Sto) (d:D):Option (List D):=match d with
  | .tup l=>some l
  | .rng a b=>if small a&&small b then some (intsD a b) else Option.none
  | .str s=>some (s.map fun c=>.str [c])
  | d=>listD σ d
noncomputable def eqL (f:D→D→Option Bool):List D→List D→Option Bool
  | [],[]=>some true
  | a::as,b::bs=>(f a b).bind fun x=>(eqL f as bs).map (x&&·)
  | _,_=>Option.none
noncomputable def eqS (f:D→D→Option Bool) (a b:D):Option Bool:=match a with
  | .none=>(match b with
    | .none=>some true
    | _=>Option.none)
  | .bool a=>(match b with
    | .bool b=>some (a==b)
    | _=>Option.none)
  | .int a=>(match b with
    | .int b=>some (a==b)
    | _=>Option.none)
  | .str a=>(match b with
    | .str b=>some (a==b)
    | _=>Option.none)
  | .tup a=>(match b with
    | .tup b=>if a.length=b.length then eqL f a b else Option.none
    | _=>Option.none)
  | .list a=>(match b with
    | .list b=>if a.length=b.length then eqL f a b else some false
    | _=>Option.none)
  | _=>Option.none
noncomputable def eqD:Nat→D→D→Option Bool
  | 0,_,_=>Option.none
  | n+1,a,b=>eqS (eqD n) a b
noncomputable def resL (f:D→Option D):List D→Option (List D)
  | []=>some []
  | d::ds=>(f d).bind fun e=>(resL f ds).map (e::·)
noncomputable def res (σ:Sto) (n0:Nat):Nat→D→Option D
  | 0,_=>Option.none
  | n+1,.loc k=>if n0≤k then (σ[k]?).bind fun l=>(resL (res σ n0 n) l).map .list else Option.none
  | n+1,.tup l=>(resL (res σ n0 n) l).map .tup
  | n+1,.list l=>(resL (res σ n0 n) l).map .list
  | _+1,d=>some d
theorem q7k {f}:resL f []=some []:=rfl
theorem q7l {f d l}:resL f (d::l)=(f d).bind fun e=>(resL f l).map (e::·):=rfl
theorem z2a {σ n0 n k}:res σ n0 (n+1) (.loc k)=if n0≤k then (σ[k]?).bind fun l=>(resL (res σ n0 n) l).map .list else Option.none:=rfl
theorem z2b {σ n0 n l}:res σ n0 (n+1) (.tup l)=(resL (res σ n0 n) l).map .tup:=rfl
theorem z2c {σ n0 n l}:res σ n0 (n+1) (.list l)=(resL (res σ n0 n) l).map .list:=rfl
theorem z2d {σ n0 n i}:res σ n0 (n+1) (.int i)=some (.int i):=rfl
theorem z2e {σ n0 n i}:res σ n0 (n+1) (.str i)=some (.str i):=rfl
theorem z2f {σ n0 n i}:res σ n0 (n+1) (.bool i)=some (.bool i):=rfl
noncomputable def resFuel:Nat:=6
noncomputable def LIM:Nat:=2 ^ 16
noncomputable def intD (f:Int→Int→Option D):D→D→Option D
  | .int a,b=>(match b with
    | .int b=>f a b
    | _=>Option.none)
  | _,_=>Option.none
noncomputable def addD (σ:Sto) (a b:D):Option D:=match a with
  | .int a=>(asInt b).map fun b=>.int (a+b)
  | .str a=>(asStr b).bind fun b=>if a.length+b.length≤LIM then some (.str (a++b)) else Option.none
  | .tup a=>(match b with
    | .tup b=>if a.length+b.length≤LIM then some (.tup (a++b)) else Option.none
    | _=>Option.none)
  | a=>(listD σ a).bind fun a=>(listD σ b).bind fun b=>if a.length+b.length≤LIM then some (.list (a++b)) else Option.none
noncomputable def mulD (a b:D):Option D:=match b with
  | .int n=>(match a with
    | .int a=>if small a&&small n then some (.int (a*n)) else Option.none
    | .str a=>if decide (0≤n)&&decide (a.length*n.toNat≤LIM)&&decide (n≤LIM) then some (.str ((List.replicate n.toNat a).flatten)) else Option.none
    | .list a=>if decide (0≤n)&&decide (a.length*n.toNat≤LIM)&&decide (n≤LIM) then some (.list ((List.replicate n.toNat a).flatten)) else Option.none
    | _=>Option.none)
  | _=>Option.none
noncomputable def binD (σ:Sto) (op:Operator) (a b:D):Option D:=match op with
  | .Add=>addD σ a b
  | .Mult=>mulD a b
  | .Sub=>intD (fun a b=>some (.int (a - b))) a b
  | .FloorDiv=>intD (fun a b=>if decide (b.natAbs≤2 ^ 24)&&b !=0 then some (.int (a.fdiv b)) else Option.none) a b
  | .Mod=>intD (fun a b=>if b !=0 then some (.int (a.fmod b)) else Option.none) a b
  | _=>Option.none
noncomputable def memD (d:D):List D→Option Bool
  | []=>some false
  | e::es=>(eqD resFuel e d).bind fun x=>(memD d es).map (x||·)
noncomputable def hasTab (tab:List (Str × Int)) (s:List Nat):Option Int:=tab.lookup ⟨s.toArray⟩
noncomputable def inD (tab:List (Str × Int)) (σ:Sto) (d o:D):Option Bool:=match o with
  | .tup l=>memD d l
  | .str s=>(asStr d).bind fun x=>(lone x).map fun c=>s.contains c
  | .etab=>(asStr d).map fun s=>(hasTab tab s).isSome
  | o=>(listD σ o).bind (memD d)
noncomputable def cmpI (f:Int→Int→Bool) (a b:D):Option Bool:=match a with
  | .int a=>(match b with
    | .int b=>some (f a b)
    | _=>Option.none)
  | _=>Option.none
noncomputable def isD (a b:D):Option Bool:=match a with
  | .bool a=>(match b with
    | .bool b=>some (a==b)
    | _=>Option.none)
  | .none=>(match b with
    | .none=>some true
    | _=>Option.none)
  | .int _ | .str _=>(match b with
    | .none=>some false
    | _=>Option.none)
  | _=>Option.none
noncomputable def cmpD (tab:List (Str × Int)) (σ:Sto) (op:CmpOp) (a b:D):Option Bool:=match op with
  | .Eq=>(res σ 0 resFuel a).bind fun a=>(res σ 0 resFuel b).bind fun b=>eqD resFuel a b
  | .NotEq=>((res σ 0 resFuel a).bind fun a=>(res σ 0 resFuel b).bind fun b=>eqD resFuel a b).map (!·)
  | .Lt=>cmpI (fun a b=>decide (a<b)) a b
  | .LtE=>cmpI (fun a b=>decide (a≤b)) a b
  | .Gt=>cmpI (fun a b=>decide (b<a)) a b
  | .GtE=>cmpI (fun a b=>decide (b≤a)) a b
  | .Is=>isD a b
  | .IsNot=>(isD a b).map (!·)
  | .In=>inD tab σ a b
  | .NotIn=>(inD tab σ a b).map (!·)
noncomputable def indexOf (len:Nat) (i:Int):Option Nat:=
  if 0≤i then (if i<len then some i.toNat else Option.none) else if 0≤i+len then some (i+len).toNat else Option.none
noncomputable def itemD0 (tab:List (Str × Int)) (σ:Sto) (o i:D):Option D:=match o with
  | .tup l=>(asInt i).bind fun i=>(indexOf l.length i).bind fun k=>l[k]?
  | .str s=>(asInt i).bind fun i=>(indexOf s.length i).bind fun k=>(s[k]?).map fun c=>.str [c]
  | .etab=>(asStr i).bind fun s=>(hasTab tab s).map .int
  | o=>(listD σ o).bind fun l=>(asInt i).bind fun i=>(indexOf l.length i).bind fun k=>l[k]?
noncomputable def cutL {α:Type} (l:List α) (lo hi:Option Int):List α:=
  (l.take (hi.elim l.length (clipAt l.length))).drop (lo.elim 0 (clipAt l.length))
noncomputable def sliceD0 (σ:Sto) (lo hi:Option Int) (d:D):Option D:=match d with
  | .str s=>some (.str (cutL s lo hi))
  | d=>(listD σ d).map fun l=>.list (cutL l lo hi)
noncomputable def smallI:D→Bool
  | .int k=>small k
  | _=>true
noncomputable def itemD (tab:List (Str × Int)) (σ:Sto) (o i:D):Option D:=if smallI i then itemD0 tab σ o i else Option.none
noncomputable def intsOfD:List D→Option (List Int)
  | []=>some []
  | .int i::r=>(intsOfD r).map (i::·)
  | _=>Option.none
noncomputable def strsOfD:List D→Option (List (List Nat))
  | []=>some []
  | .str s::r=>(strsOfD r).map (s::·)
  | _=>Option.none
noncomputable def lenD (σ:Sto) (d:D):Option Int:=match d with
  | .tup l=>some l.length
  | .str s=>some s.length
  | d=>(listD σ d).map fun l=>(l.length:Int)
noncomputable def sliceD (σ:Sto) (lo hi:Option Int) (d:D):Option D:=(lenD σ d).bind fun n=>if n.toNat≤LIM then sliceD0 σ lo hi d else Option.none
noncomputable def maxI (a:Int) (l:List Int):Int:=l.foldl (fun m x=>if m<x then x else m) a
noncomputable def minI (a:Int) (l:List Int):Int:=l.foldl (fun m x=>if x<m then x else m) a
noncomputable def rngD (args:List D):Option D:=match args with
  | []=>Option.none
  | a::r=>(asInt a).bind fun a=>(match r with
    | []=>if small a then some (.rng 0 a) else Option.none
    | b::r=>(match r with
      | []=>(asInt b).bind fun b=>if small a&&small b then some (.rng a b) else Option.none
      | _::_=>Option.none))
noncomputable def overD (f:Int→List Int→Int) (l:List Int):Option D:=match l with
  | []=>Option.none
  | a::r=>some (.int (f a r))
noncomputable def maxD (args:List D):Option D:=match args with
  | []=>Option.none
  | a::r=>(match r with
    | []=>(match a with
      | .list l=>(intsOfD l).bind (overD maxI)
      | _=>Option.none)
    | b::r=>(match r with
      | []=>(asInt a).bind fun a=>(asInt b).map fun b=>.int (if a<b then b else a)
      | _::_=>Option.none))
noncomputable def builtinD (σ:Sto) (f:Str) (args:List D):Option D:=
  if f=Str.ofString "len" then (lone args).bind fun d=>(lenD σ d).map .int
  else if f=Str.ofString "ord" then (lone args).bind fun d=>(asStr d).bind fun x=>(lone x).map fun (c:Nat)=>D.int c
  else if f=Str.ofString "chr" then (lone args).bind fun d=>(asInt d).bind fun i=>if decide (0≤i)&&decide (i<1114112) then some (.str [i.toNat]) else Option.none
  else if f=Str.ofString "range" then rngD args
  else if f=Str.ofString "max" then maxD args
  else if f=Str.ofString "min" then (lone args).bind fun d=>(listD σ d).bind fun l=>(intsOfD l).bind (overD minI)
  else Option.none
noncomputable def methodD (σ:Sto) (o:D) (f:Str) (args:List D):Option D:=
  if f=Str.ofString "split" then (asStr o).bind fun s=>(lone args).bind fun d=>(asStr d).bind fun x=>(lone x).bind fun c=>if decide (s.length≤LIM)&&!(decide (s.length<1)||decide (Builtin.Str.strKind ⟨s.toArray⟩<Builtin.Str.strKind ⟨#[c]⟩))&&!(Builtin.Str.occurrences ⟨s.toArray⟩ ⟨#[c]⟩ 0 s.length (s.length+1)).isEmpty then some (.list ((Builtin.Str.partsBetween ⟨s.toArray⟩ (Builtin.Str.occurrences ⟨s.toArray⟩ ⟨#[c]⟩ 0 s.length (s.length+1)) 1).map fun y=>.str y.cps.toList)) else Option.none
  else if f=Str.ofString "join" then (asStr o).bind fun x=>if x=[] then (lone args).bind fun d=>(listD σ d).bind fun l=>(strsOfD l).bind fun l=>if l.flatten.length≤LIM&&l.length≤LIM then some (.str l.flatten) else Option.none else Option.none
  else Option.none
noncomputable def turnD (σ:Sto) (o:D) (f:Str) (args:List D):Option (D × Sto):=match o with
  | .loc k=>(σ[k]?).bind fun l=>if l.length≤LIM then
      (if f=Str.ofString "append" then (lone args).map fun d=>(.none,σ.set k (l++[d]))
      else if f=Str.ofString "pop" then (match args with
        | []=>(l.getLast?).map fun d=>(d,σ.set k l.dropLast)
        | i::r=>(match r with
          | []=>(asInt i).bind fun i=>if 0≤i then (l[i.toNat]?).map fun d=>(d,σ.set k (l.eraseIdx i.toNat)) else Option.none
          | _::_=>Option.none))
      else Option.none) else Option.none
  | _=>Option.none
structure q9a where
  params:List Str
  body:List Stmt
  scope:Scope
  muts:List Str:=[]
  deep:Bool:=false
  ref:Option Nat:=Option.none
structure Gl where
  fn:Str→Option q9a
  prim:Str→Option (List D→Option D)
  const:Str→Option D
  tab:List (Str × Int)
  gen:Str→Bool
inductive Fl where
  | next
  | brk
  | cont
  | ret (d:D)
structure Cx where
  sc:Scope
  muts:List Str
  deep:Bool
  eff:Bool
structure Rec where
  ev:Cx→Loc→Sto→Expr→Option (D × Sto)
  ts:Cx→Loc→Sto→Expr→Option (Bool × Sto)
  ex:Cx→Loc→Sto→Stmt→Option (Fl × Loc × Sto)
  ca:Str→List D→Sto→Option (D × Sto)
noncomputable def isCellK:NameKind→Bool
  | .cell=>true
  | .free=>true
  | _=>false
noncomputable def compOk (outer inner:Scope):Bool:=
  decide (inner.kind=.function)&&(inner.names.all fun x=>
    (match x.2 with
    | .local=>decide (inner.names.lookup x.1=some .local)
    | .cell=>decide (inner.names.lookup x.1=some .cell)
    | .free=>decide (inner.names.lookup x.1=some .free)&&(decide (outer.names.lookup x.1=some .cell)||decide (outer.names.lookup x.1=some .free))
    | .globalImplicit=>true
    | .globalExplicit=>false))&&(inner.names.lookup ("__debug__":Str)).isNone
noncomputable def isGlobal (sc:Scope) (x:Str):Bool:=decide (sc.names.lookup x=some .globalImplicit)
section
variable (G:Gl) (R:Rec)
noncomputable def evs (c:Cx) (L:Loc):Sto→List Expr→Option (List D × Sto)
  | σ,[]=>some ([],σ)
  | σ,e::es=>(R.ev c L σ e).bind fun r=>(evs c L r.2 es).map fun q=>(r.1::q.1,q.2)
noncomputable def allT (c:Cx) (L:Loc) (op:BoolOp):Sto→List Expr→Option (Bool × Sto)
  | σ,[]=>some (op==.And,σ)
  | σ,e::es=>(R.ts c L σ e).bind fun r=>if r.1==(op==.Or) then some (r.1,r.2) else allT c L op r.2 es
noncomputable def allV (c:Cx) (L:Loc) (op:BoolOp):Sto→List Expr→Option (D × Sto)
  | _,[]=>Option.none
  | σ,e::es=>(match es with
    | []=>R.ev c L σ e
    | _::_=>(R.ev c L σ e).bind fun r=>(asBool r.1).bind fun b=>if b==(op==.Or) then some (.bool b,r.2) else allV c L op r.2 es)
noncomputable def lits (es:List Expr):Bool:=es.all plainE&&decide (es.length≤1000)
noncomputable def isBase:Expr→Bool
  | .Name ..=>true
  | .Constant ..=>true
  | _=>false
noncomputable def baseOk (o:Expr) (apos pos:Pos) (args:List Expr):Bool:=
  isBase o&&apos.endLine==pos.line&&lits args&&decide (args.length<29)
noncomputable def notSet:Expr→Bool
  | .Set ..=>false
  | _=>true
noncomputable def constD:Const→Option D
  | .none=>some .none
  | .bool b=>some (.bool b)
  | .int i=>some (.int i)
  | .str s=>some (.str s.cps.toList)
  | _=>Option.none
noncomputable def evOpt (c:Cx) (L:Loc) (σ:Sto):Option Expr→Option (Option Int × Sto)
  | Option.none=>some (Option.none,σ)
  | some e=>(R.ev c L σ e).bind fun r=>(asInt r.1).map fun i=>(some i,r.2)
noncomputable def callOk (f:Str):Bool:=(G.fn f).isSome||(G.prim f).isSome
noncomputable def locFree:Nat→D→Bool
  | 0,_=>false
  | _+1,.loc _=>false
  | n+1,.tup l=>l.all (locFree n)
  | n+1,.list l=>l.all (locFree n)
  | _+1,_=>true
noncomputable def lenOk:D→Bool
  | .int (.ofNat n)=>Nat.ble n 9223372036854775807
  | _=>true
noncomputable def scalarD:D→Bool
  | .none=>true
  | .bool _=>true
  | .int _=>true
  | .str _=>true
  | _=>false
noncomputable def callD (σ:Sto) (f:Str) (args:List D):Option (D × Sto):=(G.fn f).elim
  ((G.prim f).elim ((builtinD σ f args).bind fun d=>if lenOk d then some (d,σ) else Option.none) fun g=>(g args).map fun d=>(d,σ))
  fun zz=>if args.all (locFree resFuel) then (R.ca f args []).map fun r=>(r.1,σ)
    else (resL (res σ 0 resFuel) args).bind fun args'=>(R.ca f args' []).bind fun r=>if scalarD r.1 then some (r.1,σ) else Option.none
noncomputable def isFreeK:NameKind→Bool
  | .free=>true
  | _=>false
noncomputable def Loc.keep (sc:Scope):Loc→Loc
  | []=>[]
  | (y,d)::r=>if decide (sc.names.lookup y=some .free) then (y,d)::Loc.keep sc r else Loc.keep sc r
noncomputable def nameTs:List Expr→Option (List Str)
  | []=>some []
  | .Name x _::r=>(nameTs r).map (x::·)
  | _=>Option.none
noncomputable def ownName (sc:Scope) (x:Str):Bool:=decide (sc.names.lookup x=some .local)||decide (sc.names.lookup x=some .cell)
theorem z9z {sc:Scope} {x:Str} (h:ownName sc x=true):sc.names.lookup x=some .local∨sc.names.lookup x=some .cell:=((Bool.or_eq_true _ _).mp h).imp of_decide_eq_true of_decide_eq_true
noncomputable def put1 (sc:Scope) (x:Str) (d:D) (L:Loc):Option Loc:=if ownName sc x then some (Loc.put x d L) else Option.none
noncomputable def puts (sc:Scope):List Str→List D→Loc→Option Loc
  | [],[],L=>some L
  | x::xs,d::ds,L=>(put1 sc x d L).bind fun L=>puts sc xs ds L
  | _,_,_=>Option.none
noncomputable def give (sc:Scope) (σ:Sto) (t:Expr) (d:D) (L:Loc):Option Loc:=match t with
  | .Name x _=>put1 sc x d L
  | .Tuple ts _ _=>(nameTs ts).bind fun xs=>match d with
    | .tup ds=>puts sc xs ds L
    | .list ds=>puts sc xs ds L
    | .loc k=>(σ[k]?).bind fun ds=>puts sc xs ds L
    | _=>Option.none
  | _=>Option.none
noncomputable def namesOfT:Expr→List Str
  | .Name x _=>[x]
  | .Tuple ts _ _=>(nameTs ts).getD []
  | _=>[]
noncomputable def freshT (t:Expr) (L:Loc):Bool:=(namesOfT t).all fun x=>(Loc.find x L).isNone
noncomputable def oks (c:Cx) (L:Loc) (σ:Sto):List Expr→Option Bool
  | []=>some true
  | e::es=>(R.ts c L σ e).bind fun r=>if r.1 then oks c L σ es else some false
noncomputable def cpItems (c:Cx) (L:Loc) (σ:Sto) (g:Comprehension) (more:Loc→Option (List D)):List D→Option (List D)
  | []=>some []
  | d::ds=>(give c.sc σ g.target d L).bind fun L'=>(oks R c L' σ g.ifs).bind fun ok=>
      (if ok then more L' else some []).bind fun l=>(cpItems c L σ g more ds).map (l++·)
noncomputable def listComp (c:Cx) (L:Loc) (σ:Sto) (e:Expr) (gens:List Comprehension) (sc:Scope):Option (D × Sto):=(lone gens).bind fun g=>
  if g.is_async=0&&notSet g.iter&&compOk c.sc sc&&freshT g.target (Loc.keep sc L) then (R.ev { c with eff:=false } L σ g.iter).bind fun r=>(seqItems σ r.1).bind fun items=>
    if items.length≤LIM then (cpItems R { c with sc:=sc,eff:=false } (Loc.keep sc L) σ g (fun L'=>(R.ev { c with sc:=sc,eff:=false } L' σ e).map fun r=>[r.1]) items).bind fun l=>if l.length≤LIM then some (.list l,σ) else Option.none else Option.none
  else Option.none
noncomputable def compareE (c:Cx) (L:Loc) (σ:Sto) (l:Expr) (ops:List CmpOp) (rs:List Expr):Option (Bool × Sto):=(lone ops).bind fun op=>(lone rs).bind fun r=>
  if notSet r then (R.ev c L σ l).bind fun a=>(R.ev c L a.2 r).bind fun b=>(cmpD G.tab b.2 op a.1 b.1).map fun d=>(d,b.2) else Option.none
noncomputable def methE (c:Cx) (L:Loc) (σ:Sto) (o:Expr) (m:Str) (apos:Pos) (args:List Expr) (pos:Pos):Option (D × Sto):=
  if baseOk o apos pos args then (R.ev c L σ o).bind fun r=>(evs R c L r.2 args).bind fun q=>
    (methodD q.2 r.1 m q.1).elim (if c.eff then turnD q.2 r.1 m q.1 else Option.none) fun d=>some (d,q.2) else Option.none
noncomputable def nameCall (c:Cx) (L:Loc) (σ:Sto) (f:Str) (es:List Expr):Option (D × Sto):=
  if isGlobal c.sc f&&(Loc.find f L).isNone&&lits es&&!es.isEmpty&&!G.gen f then (evs R c L σ es).bind fun q=>callD G R q.2 f q.1 else Option.none
noncomputable def callE (c:Cx) (L:Loc) (σ:Sto) (f:Expr) (args:List Expr) (ks:List Keyword) (pos:Pos):Option (D × Sto):=match ks with
  | []=>(match f with
    | .Attribute o m apos=>methE R c L σ o m apos args pos
    | .Name f _=>nameCall G R c L σ f args
    | _=>Option.none)
  | _::_=>Option.none
noncomputable def sliceE (c:Cx) (L:Loc) (σ:Sto) (o:Expr) (lo hi:Option Expr):Option (D × Sto):=(R.ev c L σ o).bind fun r=>(evOpt R c L r.2 lo).bind fun a=>(evOpt R c L a.2 hi).bind fun b=>(sliceD b.2 a.1 b.1 r.1).map fun d=>(d,b.2)
noncomputable def itemE (c:Cx) (L:Loc) (σ:Sto) (o i:Expr):Option (D × Sto):=(R.ev c L σ o).bind fun r=>(R.ev c L r.2 i).bind fun q=>(itemD G.tab q.2 r.1 q.1).map fun d=>(d,q.2)
noncomputable def unD (op:UnaryOp) (d:D):Option D:=match op with
  | .USub=>(asInt d).map fun i=>.int (-i)
  | .Not=>(asBool d).map fun b=>.bool !b
  | _=>Option.none
noncomputable def evStep (c:Cx) (L:Loc) (σ:Sto) (e:Expr):Option (D × Sto):=match e with
  | .Constant k _ _=>(constD k).map fun d=>(d,σ)
  | .Name x _=>(Loc.find x L).elim (if isGlobal c.sc x then (G.const x).map fun d=>(d,σ) else Option.none) fun d=>some (d,σ)
  | .BoolOp op es _=>allV R c L op σ es
  | .BinOp l op r _=>(R.ev c L σ l).bind fun a=>(R.ev c L a.2 r).bind fun b=>(binD b.2 op a.1 b.1).map fun d=>(d,b.2)
  | .UnaryOp op e _=>(R.ev c L σ e).bind fun r=>(unD op r.1).map fun d=>(d,r.2)
  | .IfExp t a b _=>(R.ts c L σ t).bind fun r=>R.ev c L r.2 (if r.1 then a else b)
  | .ListComp e gens sc _=>listComp R c L σ e gens sc
  | .Compare l ops rs _=>(compareE G R c L σ l ops rs).map fun r=>(.bool r.1,r.2)
  | .Call f args ks pos=>callE G R c L σ f args ks pos
  | .Subscript o i _=>(match i with
    | .Slice lo hi st _=>(match st with
      | Option.none=>sliceE R c L σ o lo hi
      | some _=>Option.none)
    | i=>itemE G R c L σ o i)
  | .List es _=>if lits es then (evs R c L σ es).map fun q=>(.list q.1,q.2) else Option.none
  | .Tuple es _ _=>if lits es then (evs R c L σ es).map fun q=>(.tup q.1,q.2) else Option.none
  | _=>Option.none
noncomputable def boolE (c:Cx) (L:Loc) (σ:Sto) (e:Expr):Option (Bool × Sto):=(R.ev c L σ e).bind fun r=>(asBool r.1).map fun b=>(b,r.2)
noncomputable def tsStep (c:Cx) (L:Loc) (σ:Sto) (e:Expr):Option (Bool × Sto):=match e with
  | .UnaryOp op e p=>(match op with
    | .Not=>(R.ts c L σ e).map fun r=>(!r.1,r.2)
    | op=>boolE R c L σ (.UnaryOp op e p))
  | .BoolOp op es _=>allT R c L op σ es
  | .Compare l ops rs _=>compareE G R c L σ l ops rs
  | .IfExp t a b _=>(R.ts c L σ t).bind fun r=>R.ts c L r.2 (if r.1 then a else b)
  | e=>boolE R c L σ e
noncomputable def exs (c:Cx):Loc→Sto→List Stmt→Option (Fl × Loc × Sto)
  | L,σ,[]=>some (.next,L,σ)
  | L,σ,st::sts=>(R.ex c L σ st).bind fun r=>match r.1 with
    | .next=>exs c r.2.1 r.2.2 sts
    | f=>some (f,r.2)
noncomputable def isFresh:Expr→Bool
  | .List .. | .ListComp .. | .BinOp ..=>true
  | _=>false
noncomputable def owned (c:Cx) (x:Str) (e:Expr) (d:D) (σ:Sto):D × Sto:=
  if c.muts.contains x&&isFresh e then (match d with | .list l=>(.loc σ.length,σ++[l]) | d=>(d,σ)) else (d,σ)
noncomputable def evOwned (c:Cx) (L:Loc):Sto→List Str→List Expr→Option (List D × Sto)
  | σ,[],[]=>some ([],σ)
  | σ,x::xs,e::es=>(R.ev c L σ e).bind fun r=>(evOwned c L (owned c x e r.1 r.2).2 xs es).map fun q=>((owned c x e r.1 r.2).1::q.1,q.2)
  | _,_,_=>Option.none
noncomputable def flowOn (go:Loc→Sto→Option (Fl × Loc × Sto)) (r:Fl × Loc × Sto):Option (Fl × Loc × Sto):=match r.1 with
  | .next=>go r.2.1 r.2.2
  | .cont=>go r.2.1 r.2.2
  | .brk=>some (.next,r.2)
  | .ret d=>some (.ret d,r.2)
noncomputable def forItems (c:Cx) (t:Expr) (body:List Stmt):Loc→Sto→List D→Option (Fl × Loc × Sto)
  | L,σ,[]=>some (.next,L,σ)
  | L,σ,d::ds=>(give c.sc σ t d L).bind fun L=>(exs R c L σ body).bind (flowOn fun L σ=>forItems c t body L σ ds)
noncomputable def whileN (c:Cx) (t:Expr) (body:List Stmt):Nat→Loc→Sto→Option (Fl × Loc × Sto)
  | 0,_,_=>Option.none
  | n+1,L,σ=>(R.ts c L σ t).bind fun b=>if b.1 then (exs R c L b.2 body).bind (flowOn fun L σ=>whileN c t body n L σ)
    else some (.next,L,b.2)
noncomputable def escaped:Nat→Bool→List Nat→List (Nat × List Nat)
  | p,e,[]=>if e then [(p - 1,[92])] else []
  | p,true,c::cs=>(p,[92,c])::escaped (p+1) false cs
  | p,false,c::cs=>if c=92 then escaped (p+1) true cs else (p,[c])::escaped (p+1) false cs
theorem q7m {p e}:escaped p e []=if e then [(p - 1,[92])] else []:=rfl
theorem q7n {p c cs}:escaped p true (c::cs)=(p,[92,c])::escaped (p+1) false cs:=rfl
theorem q3m {p c cs}:escaped p false (c::cs)=if c=92 then escaped (p+1) true cs else (p,[c])::escaped (p+1) false cs:=rfl
noncomputable def escD (s:List Nat):List D:=(escaped 0 false s).map fun x=>.tup [.int x.1,.str x.2]
noncomputable def freshSeq:D→Option (List D)
  | .list l=>some l
  | .tup l=>some l
  | .rng a b=>if small a&&small b then some (intsD a b) else Option.none
  | _=>Option.none
noncomputable def asgStep (c:Cx) (L:Loc) (σ:Sto) (e t:Expr):Option (Fl × Loc × Sto):=match t with
  | .Name x _=>(R.ev c L σ e).bind fun r=>(put1 c.sc x (owned c x e r.1 r.2).1 L).map fun L=>(.next,L,(owned c x e r.1 r.2).2)
  | .Tuple ts k p=>(match e with
    | .Tuple es _ _=>(nameTs ts).bind fun xs=>if lits es&&decide xs.Nodup&&!(es.all (constantsAlone 8)) then (evOwned R c L σ xs es).bind fun q=>(puts c.sc xs q.1 L).map fun L=>(.next,L,q.2) else Option.none
    | e=>(R.ev c L σ e).bind fun r=>(give c.sc r.2 (.Tuple ts k p) r.1 L).map fun L=>(.next,L,r.2))
  | _=>Option.none
noncomputable def seqStep (c:Cx) (L:Loc) (t:Expr) (body:List Stmt) (a:Option (D × Sto)):Option (Fl × Loc × Sto):=a.bind fun r=>(freshSeq r.1).bind fun items=>if items.length≤LIM then forItems R c t body L r.2 items else Option.none
noncomputable def forStep (c:Cx) (L:Loc) (σ:Sto) (t:Expr) (body:List Stmt) (e:Expr):Option (Fl × Loc × Sto):=match e with
  | .Call f args ks pc=>(match f with
    | .Name f pf=>if G.gen f&&isGlobal c.sc f&&(Loc.find f L).isNone then
        (lone args).bind fun a=>if ks.isEmpty then (R.ev c L σ a).bind fun r=>(asStr r.1).bind fun s=>forItems R c t body L r.2 (escD s) else Option.none
      else seqStep R c L t body (R.ev c L σ (.Call (.Name f pf) args ks pc))
    | f=>seqStep R c L t body (R.ev c L σ (.Call f args ks pc)))
  | .Set ..=>Option.none
  | e=>seqStep R c L t body (R.ev c L σ e)
noncomputable def augI (op:Operator) (a b:Int):Option Int:=match op with
  | .Add=>some (a+b)
  | .Sub=>some (a - b)
  | _=>Option.none
noncomputable def exStep (c:Cx) (L:Loc) (σ:Sto) (st:Stmt):Option (Fl × Loc × Sto):=match st with
  | .Return v _=>(match v with
    | some e=>(R.ev c L σ e).map fun r=>(.ret r.1,L,r.2)
    | Option.none=>Option.none)
  | .Assign ts e _=>(match ts with
    | []=>Option.none
    | t::ts=>(match ts with
      | []=>asgStep R c L σ e t
      | _::_=>Option.none))
  | .AugAssign t op e _=>(match t with
    | .Name x _=>((Loc.find x L).bind asInt).bind fun a=>(R.ev c L σ e).bind fun r=>(asInt r.1).bind fun b=>(augI op a b).bind fun v=>(put1 c.sc x (.int v) L).map fun L=>(.next,L,r.2)
    | _=>Option.none)
  | .Expr e _=>(match e with
    | .Call f as ks pc=>(R.ev c L σ (.Call f as ks pc)).bind fun r=>if isNoneD r.1 then some (.next,L,r.2) else Option.none
    | _=>Option.none)
  | .Break _=>some (.brk,L,σ)
  | .Continue _=>some (.cont,L,σ)
  | .If t a b _=>(R.ts c L σ t).bind fun r=>exs R c L r.2 (if r.1 then a else b)
  | .While t body els _=>(match els with
    | []=>whileN R c t body LIM L σ
    | _::_=>Option.none)
  | .For t e body els _=>(match els with
    | []=>forStep G R c L σ t body e
    | _::_=>Option.none)
  | _=>Option.none
noncomputable def fnOk (fd:q9a):Bool:=
  decide (fd.scope.kind=.function)&&!fd.scope.isCoroutine&&!fd.scope.isGenerator&&(fd.scope.names.all fun x=>!isFreeK x.2)&&(fd.scope.names.lookup ("__debug__":Str)).isNone&&(fd.params.all fun x=>ownName fd.scope x)&&decide fd.params.Nodup
noncomputable def frameL (fd:q9a) (args:List D):Loc:=fd.params.zip (args.map some)++(fd.scope.names.filter fun x=>ownName fd.scope x.1&&!fd.params.contains x.1).map fun x=>(x.1,Option.none)
noncomputable def caStep (f:Str) (args:List D) (σ:Sto):Option (D × Sto):=(G.fn f).bind fun fd=>
  if args.length=fd.params.length&&fnOk fd then
    (exs R ⟨fd.scope,fd.muts,fd.deep,true⟩ (frameL fd args) σ fd.body).bind fun r=>match r.1 with
      | .ret d=>(res r.2.2 σ.length resFuel d).bind fun d=>if ((r.2.2.take σ.length).all fun l=>l.all (locFree resFuel)) then some (d,r.2.2.take σ.length) else Option.none
      | _=>Option.none
  else Option.none
end
noncomputable def rec0:Rec:=⟨fun zz zz zz zz=>.none,fun zz zz zz zz=>.none,fun zz zz zz zz=>.none,fun zz zz zz=>.none⟩
noncomputable def recN (G:Gl):Nat→Rec
  | 0=>rec0
  | n+1=>⟨evStep G (recN G n),tsStep G (recN G n),exStep G (recN G n),caStep G (recN G n)⟩
noncomputable def defOf:Stmt→Option (Str × Arguments × List Stmt × Scope)
  | .FunctionDef name params body _ _ _ scope _ _ _=>some (name,params,body,scope)
  | _=>.none
noncomputable def theDef (l:List Stmt) (f:Str):Option (Arguments × List Stmt × Scope):=l.findSome? fun st=>(defOf st).bind fun d=>if d.1=f then some d.2 else .none
noncomputable def fnIn (muts:Str→List Str × Bool × Option Nat) (l:List Stmt) (f:Str):Option q9a:=(theDef l f).map fun d=>
  { params:=d.1.args.map (·.arg),body:=d.2.1,scope:=d.2.2,muts:=(muts f).1,deep:=(muts f).2.1,ref:=(muts f).2.2 }
noncomputable def chr1 (g:Nat→D) (args:List D):Option D:=(lone args).bind fun d=>(asStr d).bind fun s=>(lone s).map g
noncomputable def lowerD (s:List Nat):List Nat:=(Txt.lower ⟨s.toArray⟩).cps.toList
noncomputable def b3D (D3:List (Int × Str)) (c:Nat):List Nat:=(D3.lookup (c:Int)).elim (lowerD [c]) fun r=>r.cps.toList
noncomputable def glOf (p:Program) (muts:Str→List Str × Bool × Option Nat):Gl:=
  let H:=shapeOf p
  { fn:=fun f=>if f=Str.ofString "in_table_b1"∨f=Str.ofString "map_table_b3" then .none else fnIn muts (behindTheImports p) f
    prim:=fun f=>if f=Str.ofString "in_table_b1" then some (chr1 fun c=>.bool (H.b1.contains (c:Int)))
      else if f=Str.ofString "map_table_b3" then some (chr1 fun c=>.str (b3D H.D3 c)) else .none
    const:=fun x=>if x=nET then some .etab else ((intsOf H.sD).lookup x).map .int
    tab:=H.DE
    gen:=fun f=>f=Str.ofString "_iter_escaped_chars" }
noncomputable def sO (s:String):Str:=Str.ofString s
noncomputable def muts1:Str→List Str × Bool × Option Nat:=fun f=>
  ((if f=sO "_law_rules" then [sO "numbers",sO "rules"]
  else if f=sO "_law_row" then [sO "row",sO "opened"]
  else if f=sO "_law_scan" then [sO "numbers"]
  else if f=sO "_law_derive" then [sO "pile"]
  else if f=sO "_strip_quoted_realnames" then [sO "result"]
  else if f=sO "law" then [sO "heights",sO "marks"] else []),false,.none)
noncomputable def muts2:Str→List Str × Bool × Option Nat:=fun f=>
  ((if f=sO "_law_alone" then [sO "cut",sO "alone"]
  else if f=sO "_strip_quoted_realnames" then [sO "result"]
  else if f=sO "law" then [sO "under",sO "texts",sO "told"] else []),decide (f=sO "_law_grown"),if f=sO "_law_read" then some 1 else .none)
noncomputable def Out (V:Addr→Prop) (m:List Addr) (a:Addr):Prop:=¬ V a∧a∉m
section
variable (p:Program) (w:World) (tab:List (Str × Int))
noncomputable def IsTab (h:Heap) (a:Addr):Prop:=(a==sysModules)=false∧∃ kvs,h.DictOf (strKind p w) a kvs∧q7d kvs (tab.map fun x=>(x.1,intVal x.2))
mutual
noncomputable def Rep (h:Heap) (V:Addr→Prop) (m:List Addr):D→Value→Prop
  | .none,v=>v=.none
  | .bool b,v=>v=.bool b
  | .int i,v=>∃ t,v=.int i t
  | .str x,v=>∃ t,v=.str ⟨x.toArray⟩ t
  | .tup ds,v=>∃ a vs,v=.ref a∧Out V m a∧h.IsTuple a vs∧RepL h V m ds vs.toList
  | .list ds,v=>∃ a vs,v=.ref a∧Out V m a∧h.IsList a vs∧RepL h V m ds vs.toList
  | .rng x y,v=>∃ a t u q,v=.ref a∧Out V m a∧IsRange h a x y 1 t u q
  | .etab,v=>∃ a,v=.ref a∧Out V m a∧IsTab p w tab h a
  | .loc k,v=>∃ a,m[k]?=some a∧v=.ref a
noncomputable def RepL (h:Heap) (V:Addr→Prop) (m:List Addr):List D→List Value→Prop
  | [],vs=>vs=[]
  | d::ds,vs=>∃ v vs',vs=v::vs'∧Rep h V m d v∧RepL h V m ds vs'
end
variable {p w tab}
theorem IsTab.at {h h':Heap} {a:Addr} (x:IsTab p w tab h a) (e:∀ o,h.get? a=some o→h'.get? a=some o):IsTab p w tab h' a:=by
  apply q0d;intro hG;rcases x with ⟨x1,kvs,⟨o,es,ep,ho,r⟩,x3⟩;apply hG;clear hG
  exact ⟨x1,kvs,⟨o,es,ep,e _ ho,r⟩,x3⟩
theorem IsTab.lt {h:Heap} {a:Addr} (x:IsTab p w tab h a):a<h.objs.size:=by
  apply q0d;intro hG;rcases x with ⟨x1,kvs,⟨o,es,ep,ho,r⟩,x3⟩;apply hG;clear hG
  exact Heap.lt_size ho
theorem k8k {h h':Heap} {a:Addr} {vs} (x:h.IsList a vs) (e:∀ o,h.get? a=some o→h'.get? a=some o):h'.IsList a vs:=by
  obtain ⟨o,ho,r⟩:=x
  exact ⟨o,e _ ho,r⟩
theorem k8c {h h':Heap} {a:Addr} {vs} (x:h.IsTuple a vs) (e:∀ o,h.get? a=some o→h'.get? a=some o):h'.IsTuple a vs:=by
  obtain ⟨o,ho,r⟩:=x
  exact ⟨o,e _ ho,r⟩
theorem j0a {h:Heap} {a:Addr} {vs} (x:h.IsList a vs):a<h.objs.size:=let ⟨_,ho,_⟩:=x;Heap.lt_size ho
theorem z7u {h:Heap} {a:Addr} {vs} (x:h.IsTuple a vs):a<h.objs.size:=let ⟨_,ho,_⟩:=x;Heap.lt_size ho
theorem k8d {h h':Heap} {a:Addr} {x y z:Int} {t u q:Tok} (r:IsRange h a x y z t u q) (e:∀ o,h.get? a=some o→h'.get? a=some o):IsRange h' a x y z t u q:=e _ r
theorem k8e {h:Heap} {a:Addr} {x y z:Int} {t u q:Tok} (r:IsRange h a x y z t u q):a<h.objs.size:=Heap.lt_size r
mutual
theorem Rep.mono {h h':Heap} {V V':Addr→Prop} {m m':List Addr}
    (hk:∀ b o,h.get? b=some o→Out V m b→h'.get? b=some o∧Out V' m' b) (hm:∀ (k:Nat) a,m[k]?=some a→m'[k]?=some a) :
    ∀ {d:D} {v:Value},Rep p w tab h V m d v→Rep p w tab h' V' m' d v
  | .none,v,r=>r
  | .bool b,v,r=>r
  | .int i,v,r=>r
  | .str x,v,r=>r
  | .tup ds,v,r=>by
    apply q0d;intro hG;rcases r with ⟨a,vs,e,ho,ht,hr⟩;apply hG;clear hG
    obtain ⟨o,h1,h2⟩:=id ht
    exact ⟨a,vs,e,(hk a o h1 ho).2,⟨o,(hk a o h1 ho).1,h2⟩,RepL.mono hk hm hr⟩
  | .list ds,v,r=>by
    apply q0d;intro hG;rcases r with ⟨a,vs,e,ho,ht,hr⟩;apply hG;clear hG
    obtain ⟨o,h1,h2⟩:=id ht
    exact ⟨a,vs,e,(hk a o h1 ho).2,⟨o,(hk a o h1 ho).1,h2⟩,RepL.mono hk hm hr⟩
  | .rng x y,v,r=>by
    apply q0d;intro hG;rcases r with ⟨a,t,u,q,e,ho,ht⟩;apply hG;clear hG
    exact ⟨a,t,u,q,e,(hk a _ ht ho).2,(hk a _ ht ho).1⟩
  | .etab,v,r=>by
    apply q0d;intro hG;rcases r with ⟨a,e,ho,x1,kvs,⟨o,es,ep,h1,r⟩,x3⟩;apply hG;clear hG
    exact ⟨a,e,(hk a _ h1 ho).2,x1,kvs,⟨o,es,ep,(hk a _ h1 ho).1,r⟩,x3⟩
  | .loc k,v,r=>by
    obtain ⟨a,h1,h2⟩:=r
    exact ⟨a,hm k a h1,h2⟩
theorem RepL.mono {h h':Heap} {V V':Addr→Prop} {m m':List Addr}
    (hk:∀ b o,h.get? b=some o→Out V m b→h'.get? b=some o∧Out V' m' b) (hm:∀ (k:Nat) a,m[k]?=some a→m'[k]?=some a) :
    ∀ {ds:List D} {vs:List Value},RepL p w tab h V m ds vs→RepL p w tab h' V' m' ds vs
  | [],vs,r=>r
  | d::ds,vs,r=>by
    apply q0d;intro hG;rcases r with ⟨v,vs',e,h1,h2⟩;apply hG;clear hG
    exact ⟨v,vs',e,h1.mono hk hm,h2.mono hk hm⟩
end
theorem RepL.length {h:Heap} {V} {m}:∀ {ds:List D} {vs:List Value},RepL p w tab h V m ds vs→vs.length=ds.length
  | [],_,rfl=>rfl
  | d::ds,vs,r=>by
    apply q0d;intro hG;rcases r with ⟨v,vs',rfl,h1,h2⟩;apply hG;clear hG
    simp [h2.length]
theorem RepL.get {h:Heap} {V} {m}:∀ {ds:List D} {vs:List Value} {i:Nat} {d:D},RepL p w tab h V m ds vs→ds[i]?=some d→∃ v,vs[i]?=some v∧Rep p w tab h V m d v
  | d::ds,vs,0,d',r,e=>by
    refine q0d fun hn=>?_
    apply q0d;intro hG;rcases r with ⟨v,vs',rfl,h1,h2⟩;apply hG;clear hG
    simp only [List.getElem?_cons_zero,Option.some.injEq] at e
    subst e
    refine hn ?_
    exact ⟨v,rfl,h1⟩
  | d::ds,vs,i+1,d',r,e=>by
    apply q0d;intro hG;rcases r with ⟨v,vs',rfl,h1,h2⟩;apply hG;clear hG
    exact h2.get e
  | [],_,_,_,_,e=>by exact Mine.ns e
theorem RepL.of_get {h:Heap} {V} {m}:∀ {ds:List D} {vs:List Value},vs.length=ds.length→(∀ (i:Nat) d v,ds[i]?=some d→vs[i]?=some v→Rep p w tab h V m d v)→RepL p w tab h V m ds vs
  | [],vs,hl,_=>by exact List.length_eq_zero_iff.mp hl
  | d::ds,[],hl,_=>by cases hl
  | d::ds,v::vs,hl,hg=>by
    exact ⟨v,vs,rfl,hg 0 d v rfl rfl,RepL.of_get (by simpa using hl) fun i d' v' e1 e2=>hg (i+1) d' v' (e1) (e2)⟩
theorem RepL.append {h:Heap} {V} {m}:∀ {ds:List D} {vs:List Value} {ds' vs'},RepL p w tab h V m ds vs→RepL p w tab h V m ds' vs'→RepL p w tab h V m (ds++ds') (vs++vs')
  | [],_,ds',vs',rfl,r'=>r'
  | d::ds,vs,ds',vs',r,r'=>by
    rcases r with ⟨v,ws,rfl,h1,h2⟩
    exact ⟨v,_,rfl,h1,h2.append r'⟩
theorem RepL.single {h:Heap} {V} {m} {d:D} {v:Value} (r:Rep p w tab h V m d v):RepL p w tab h V m [d] [v]:=by
  exact ⟨v,[],rfl,r,rfl⟩
theorem RepL.nil {h:Heap} {V} {m}:RepL p w tab h V m [] []:=rfl
theorem RepL.cons {h:Heap} {V} {m} {d:D} {v:Value} {ds vs} (r:Rep p w tab h V m d v) (r':RepL p w tab h V m ds vs):RepL p w tab h V m (d::ds) (v::vs):=by
  exact ⟨v,vs,rfl,r,r'⟩
theorem RepL.drop {h:Heap} {V} {m}:∀ (n:Nat) {ds:List D} {vs:List Value},RepL p w tab h V m ds vs→RepL p w tab h V m (ds.drop n) (vs.drop n)
  | 0,_,_,r=>r
  | n+1,[],_,rfl=>rfl
  | n+1,d::ds,vs,r=>by
    rcases r with ⟨v,ws,rfl,h1,h2⟩
    exact h2.drop n
theorem RepL.take {h:Heap} {V} {m}:∀ (n:Nat) {ds:List D} {vs:List Value},RepL p w tab h V m ds vs→RepL p w tab h V m (ds.take n) (vs.take n)
  | 0,_,_,r=>rfl
  | n+1,[],_,rfl=>rfl
  | n+1,d::ds,vs,r=>by
    rcases r with ⟨v,ws,rfl,h1,h2⟩
    exact RepL.cons h1 (h2.take n)
structure q0k (H0:Heap) (h:Heap) (V:Addr→Prop) (m:List Addr) (σ:Sto):Prop where
  kept:Kept H0 h
  vin:∀ a,V a→(∃ o,h.get? a=some o)∧H0.get? a=none
  mge:∀ a∈m,H0.get? a=none
  len:m.length=σ.length
  nodup:m.Nodup
  sep:∀ a∈m,¬ V a
  cell:∀ (k:Nat) a ds,m[k]?=some a→σ[k]?=some ds→∃ vs,h.PlainList a vs∧RepL p w tab h V m ds vs.toList
structure Step (O:Addr→Prop) (s s':Shared):Prop where
  keep:∀ b o,s.heap.get? b=some o→¬ O b→s'.heap.get? b=some o
  pres:∀ b o,s.heap.get? b=some o→∃ o',s'.heap.get? b=some o'
  os:s'.os=s.os
  drawn:s'.drawn=s.drawn
  gens:∀ (j:Nat) g,s.gens[j]?=some g→s'.gens[j]?=some g
  bare:AllBare s.gens→AllBare s'.gens
theorem Step.refl {O} {s:Shared}:Step O s s:=⟨fun zz zz e zz=>e,fun zz o e=>⟨o,e⟩,rfl,rfl,fun zz zz e=>e,fun h=>h⟩
theorem Step.mono {O O':Addr→Prop} {s s':Shared} (x:Step O s s') (h:∀ a o,s.heap.get? a=some o→O a→O' a):Step O' s s':=
  ⟨fun b o e ho=>x.keep b o e fun hb=>ho (h b o e hb),x.pres,x.os,x.drawn,x.gens,x.bare⟩
theorem Step.trans {O:Addr→Prop} {s s' s'':Shared} (x:Step O s s') (y:Step O s' s''):Step O s s'':=
  ⟨fun b o e ho=>y.keep b o (x.keep b o e ho) ho,fun b o e=>let ⟨o',e'⟩:=x.pres b o e;y.pres b o' e',y.os.trans x.os,y.drawn.trans x.drawn,fun j g e=>y.gens j g (x.gens j g e),fun h=>y.bare (x.bare h)⟩
theorem Step.trans' {O O':Addr→Prop} {s s' s'':Shared} (x:Step O s s') (y:Step O' s' s'') (h:∀ a o,s.heap.get? a=some o→O' a→O a):Step O s s'':=
  ⟨fun b o e ho=>y.keep b o (x.keep b o e ho) fun hb=>ho (h b o e hb),fun b o e=>let ⟨o',e'⟩:=x.pres b o e;y.pres b o' e',y.os.trans x.os,y.drawn.trans x.drawn,fun j g e=>y.gens j g (x.gens j g e),fun h=>y.bare (x.bare h)⟩
theorem Step.of_keep {s:Shared} {h':Heap} {tk:Nat} {O:Addr→Prop} (hk:Kept s.heap h'):Step O s { s with heap:=h',toks:=tk }:=
  ⟨fun b o e zz=>hk b o e,fun b o e=>⟨o,hk b o e⟩,rfl,rfl,fun zz zz e=>e,fun h=>h⟩
theorem Step.toks {O:Addr→Prop} {s:Shared} (tk:Nat):Step O s { s with toks:=tk }:=Step.of_keep fun zz zz e=>e
end
section
variable {p:Program} {w:World} {tab:List (Str × Int)} {A:Around} {E:Value→Shared→Prop} {s:Shared} {H0:Heap} {V:Addr→Prop} {m:List Addr} {σ:Sto}
noncomputable def noOne:Addr→Prop:=fun zz=>False
noncomputable def FreshV (p:Program) (w:World) (tab:List (Str × Int)) (V:Addr→Prop) (m:List Addr) (s:Shared) (d:D) (v:Value) (s':Shared):Prop:=
  ∀ l,d=.list l→∃ a vs,v=.ref a∧s.heap.get? a=none∧s'.heap.PlainList a vs∧RepL p w tab s.heap V m l vs.toList
structure VP (p:Program) (w:World) (tab:List (Str × Int)) (V:Addr→Prop) (m:List Addr) (d:D) (s:Shared) (v:Value) (s':Shared):Prop where
  step:Step noOne s s'
  rep:Rep p w tab s'.heap V m d v
theorem Out.fresh {h:Heap} (st:q0k (p:=p) (w:=w) (tab:=tab) H0 h V m σ) {a:Addr} (ha:h.get? a=none):Out V m a:=by
  refine ⟨fun hv=>?_,fun hm=>?_⟩
  · obtain ⟨o,e⟩:=(st.vin a hv).1;exact Mine.ns ((ha).symm.trans e)
  · obtain ⟨k,hk,e⟩:=List.getElem_of_mem hm
    have hk':m[k]?=some a:=by rw [List.getElem?_eq_getElem hk,e]
    have hs:k<σ.length:=by rw [← st.len];exact hk
    refine q0a (st.cell k a _ hk' (List.getElem?_eq_getElem hs)) ?_;intro vs zw1 zw2;rcases zw1 with ⟨n,hl⟩
    exact Mine.ns ((ha).symm.trans hl)
theorem q0n (h:Heap):h.get? h.objs.size=none:=Heap.get?_none_of_le (Nat.le_refl _)
theorem z5z {O:Addr→Prop} {s':Shared} (x:Step O s s') (hO:∀ a,O a→V a∨a∈m) {d:D} {v:Value} (r:Rep p w tab s.heap V m d v):Rep p w tab s'.heap V m d v:=
  r.mono (fun b o e ho=>⟨x.keep b o e fun hb=>(hO b hb).elim ho.1 ho.2,ho⟩) fun zz zz e=>e
theorem q4r {O:Addr→Prop} {s':Shared} (x:Step O s s') (hO:∀ a,O a→V a∨a∈m) {d:List D} {v:List Value} (r:RepL p w tab s.heap V m d v):RepL p w tab s'.heap V m d v:=
  r.mono (fun b o e ho=>⟨x.keep b o e fun hb=>(hO b hb).elim ho.1 ho.2,ho⟩) fun zz zz e=>e
theorem VP.scalar {d:D} {v:Value} {tk:Nat} (r:∀ h V m,Rep p w tab h V m d v):VP p w tab V m d s v { s with toks:=tk }:=⟨Step.toks tk,r _ _ _⟩
theorem VP.same {d:D} {v:Value} (r:Rep p w tab s.heap V m d v):VP p w tab V m d s v s:=⟨Step.refl,r⟩
theorem q1o {o:Obj} {tk:Nat}:Step noOne s { s with heap:=s.heap.push o,toks:=tk }:=
  Step.of_keep (fun b o e=>Heap.get?_push_of_some _ e)
theorem VP.newList (st:q0k (p:=p) (w:=w) (tab:=tab) H0 s.heap V m σ) {l:List D} {vs:Array Value} {n:Nat} {tk:Nat} {dd:Option Addr} {sl:Array (Option Value)} (r:RepL p w tab s.heap V m l vs.toList) (hdd:dd=none:=by rfl) (hsl:sl=#[]:=by rfl) :
    VP p w tab V m (.list l) s (.ref s.heap.objs.size) { s with heap:=s.heap.push { cls:=.type "list",dict:=dd,data:=.seq vs n,slots:=sl },toks:=tk }∧
    FreshV p w tab V m s (.list l) (.ref s.heap.objs.size) { s with heap:=s.heap.push { cls:=.type "list",dict:=dd,data:=.seq vs n,slots:=sl },toks:=tk }:=by
  subst hdd hsl
  have hl:(s.heap.push { cls:=.type "list",dict:=none,data:=.seq vs n,slots:=#[] }).PlainList s.heap.objs.size vs:=⟨n,Heap.get?_push_size _ rfl⟩
  refine ⟨⟨q1o,?_⟩,fun l' e=>?_⟩
  · skip
    exact ⟨_,vs,rfl,Out.fresh st (q0n _),hl.isList,q4r q1o (fun zz h=>h.elim) r⟩
  · injection e with e
    subst e
    exact ⟨_,vs,rfl,q0n _,hl,r⟩
theorem VP.newTuple (st:q0k (p:=p) (w:=w) (tab:=tab) H0 s.heap V m σ) {l:List D} {vs:Array Value} {n:Nat} {tk:Nat} {dd:Option Addr} {sl:Array (Option Value)} (r:RepL p w tab s.heap V m l vs.toList) :
    VP p w tab V m (.tup l) s (.ref s.heap.objs.size) { s with heap:=s.heap.push { cls:=.type "tuple",dict:=dd,data:=.seq vs n,slots:=sl },toks:=tk }:=by
  have hl:(s.heap.push { cls:=.type "tuple",dict:=dd,data:=.seq vs n,slots:=sl }).IsTuple s.heap.objs.size vs:=⟨_,Heap.get?_push_size _ rfl,rfl,n,rfl⟩
  refine ⟨q1o,?_⟩
  exact ⟨_,vs,rfl,Out.fresh st (q0n _),hl,q4r q1o (fun zz h=>h.elim) r⟩
theorem FreshV.other {d:D} {v:Value} {s':Shared} (h:∀ l,d≠.list l):FreshV p w tab V m s d v s':=fun l e=>absurd e (h l)
theorem q1k {h:Heap} {i:Int} {t:Tok}:Rep p w tab h V m (.int i) (.int i t):=by exact ⟨t,rfl⟩
theorem q3v {h:Heap} {b:Bool}:Rep p w tab h V m (.bool b) (.bool b):=by rfl
theorem q4s {h:Heap}:Rep p w tab h V m .none .none:=by rfl
theorem q2w {h:Heap} {x:List Nat} {t:Tok}:Rep p w tab h V m (.str x) (.str ⟨x.toArray⟩ t):=by exact ⟨t,rfl⟩
theorem q1y {h:Heap} {l:List D} {v:Value} (r:Rep p w tab h V m (.list l) v):∃ a vs,v=.ref a∧h.IsList a vs∧RepL p w tab h V m l vs.toList:=by
  apply q0d;intro hG;rcases r with ⟨a,vs,e,_,h1,h2⟩;apply hG;clear hG
  exact ⟨a,vs,e,h1,h2⟩
theorem z4h (st:q0k (p:=p) (w:=w) (tab:=tab) H0 s.heap V m σ) {k:Nat} {l:List D} {v:Value} (r:Rep p w tab s.heap V m (.loc k) v) (e:σ[k]?=some l) :
    ∃ a vs,v=.ref a∧m[k]?=some a∧s.heap.IsList a vs∧RepL p w tab s.heap V m l vs.toList:=by
  refine q0d fun hn=>?_
  obtain ⟨a,h1,h2⟩:=r
  refine q0a (st.cell k a l h1 e) ?_;intro vs h3 h4
  refine hn ?_
  exact ⟨a,vs,h2,h1,h3.isList,h4⟩
theorem j0b (st:q0k (p:=p) (w:=w) (tab:=tab) H0 s.heap V m σ) {a b:Addr} {x y:Array Value} {l k:List D} {Q:Value→Shared→Prop}
    (ha:s.heap.IsList a x) (hb:s.heap.IsList b y) (ra:RepL p w tab s.heap V m l x.toList) (rb:RepL p w tab s.heap V m k y.toList) (hz:l.length+k.length≤LIM)
    (h:∀ v s',VP p w tab V m (.list (l++k)) s v s'→FreshV p w tab V m s (.list (l++k)) v s'→Q v s') :
    wpAny (model p w) A (binaryOp .Add (.ref a) (.ref b)) Q E s:=by
  refine q0d fun hn=>?_
  apply q0d;intro hG;rcases id ha with ⟨⟨cls,dd,data,sl⟩,ho,hc,n,hd⟩;apply hG;clear hG
  apply q0d;intro hG;rcases id hb with ⟨⟨cls2,dd2,data2,sl2⟩,ho2,hc2,n2,hd2⟩;apply hG;clear hG
  refine hn ?_
  dsimp only  at hc hd hc2 hd2
  subst hc hd hc2 hd2
  have e1:=ra.length
  have e2:=rb.length
  dsimp only [Array.length_toList] at e1 e2
  have hL:LIM≤sizeLine:=by decide
  refine concat_meets ⟨_,ho,rfl⟩ ⟨_,ho2,rfl⟩ noFill_list_add seq_list_add PySem.F.slot_list_add PySem.F.entry_list_add (PySem.F.args_list_add_2 _ _)
    (list_addW a b x y n n2 dd dd2 sl sl2 (by omega)) ⟨ho,ho2,?_⟩
  have:=VP.newList (n:=0) (tk:=s.toks) (dd:=none) (sl:=#[]) (vs:=x++y) (l:=l++k) st (by simpa using ra.append rb)
  exact h _ _ this.1 this.2
theorem RepL.rep {h:Heap} {l:List D} {vs:List Value} (r:RepL p w tab h V m l vs):∀ n:Nat,RepL p w tab h V m (List.replicate n l).flatten (List.replicate n vs).flatten
  | 0=>rfl
  | n+1=>r.append (r.rep n)
theorem z6a (x:List Nat):∀ n:Nat,(List.replicate n x.toArray).foldl (·++·) #[]=((List.replicate n x).flatten).toArray:=by
  have key:∀ (n:Nat) (acc:Array Nat),(List.replicate n x.toArray).foldl (·++·) acc=(acc.toList++(List.replicate n x).flatten).toArray:=by
    intro n
    induction n with
    | zero=>intro acc;simp
    | succ n ih=>intro acc;simp [List.replicate_succ,ih]
  intro n
  exact key n #[]
theorem q6h {h:Heap} {i:Int} {v:Value} (r:Rep p w tab h V m (.int i) v):∃ t,v=.int i t:=by exact r
theorem q9b {h:Heap} {x:List Nat} {v:Value} (r:Rep p w tab h V m (.str x) v):∃ t,v=.str ⟨x.toArray⟩ t:=by exact r
theorem j5g {h:Heap} {x:List D} {v:Value} (r:Rep p w tab h V m (.tup x) v):∃ a vs,v=.ref a∧Out V m a∧h.IsTuple a vs∧RepL p w tab h V m x vs.toList:=by exact r
theorem ifS {α:Type} {c:Prop} [Decidable c] {a:Option α} {x:α} (h:(if c then a else none)=some x):c∧a=some x:=by
  refine Mine.iteE h ?_ ?_<;>clear h<;>intro hc h
  · exact ⟨‹_›,h⟩
  · exact Mine.ns h
theorem bS {α β:Type} {a:Option α} {f:α→Option β} {x:β} (h:a.bind f=some x):∃ y,a=some y∧f y=some x:=Option.bind_eq_some_iff.mp h
theorem k1x {f:Int→Int→Option D} {a b d:D} (e:intD f a b=some d):∃ x y,a=.int x∧b=.int y∧f x y=some d:=by
  induction a using D.casesOn<;>first | exact ns e | skip
  induction b using D.casesOn<;>first | exact ns e | exact ⟨_,_,rfl,rfl,e⟩
theorem v2r {α β:Type} {P:Prop} {o:Option α} {a:β} {g:α→β} {x:β} (h:o.elim a g=x) (k1:o=none→a=x→P) (k2:∀ y,o=some y→g y=x→P):P:=by
  induction o using Mine.oC with
  | none=>exact k1 rfl h
  | some y=>exact k2 y rfl h
theorem q0v {d:D} {i:Int} (e:asInt d=some i):d=.int i:=by
  induction d using D.casesOn<;>first | exact ns e | exact congrArg D.int (Option.some.inj e)
theorem q1e {d:D} {x:List Nat} (e:asStr d=some x):d=.str x:=by
  induction d using D.casesOn<;>first | exact ns e | exact congrArg D.str (Option.some.inj e)
theorem z7v {d:D} {x:Bool} (e:asBool d=some x):d=.bool x:=by
  induction d using D.casesOn<;>first | exact ns e | exact congrArg D.bool (Option.some.inj e)
theorem q4t {h:Heap} {d:D} {i:Int} {v:Value} (e:asInt d=some i) (r:Rep p w tab h V m d v):∃ t,v=.int i t:=q6h (q0v e▸r)
theorem k8l {h:Heap} {d:D} {x:List Nat} {v:Value} (e:asStr d=some x) (r:Rep p w tab h V m d v):∃ t,v=.str ⟨x.toArray⟩ t:=q9b (q1e e▸r)
theorem q5s {h:Heap} {d:D} {b:Bool} {v:Value} (e:asBool d=some b) (r:Rep p w tab h V m d v):v=.bool b:=by
  rw [z7v e] at r;exact r
theorem q0x {α:Type} {l:List α} {x:α} (e:lone l=some x):l=[x]:=by
  induction l using q1h with
  | nil=>exact ns e
  | cons y l=>
    induction l using q1h with
    | nil=>exact congrArg (·::[]) (Option.some.inj e)
    | cons _ _=>exact ns e
theorem z6b {g:Nat→D} {args:List D} {d:D} (e:chr1 g args=some d):∃ c,args=[.str [c]]∧g c=d:=by
  refine q0a (Option.bind_eq_some_iff.mp e) ?_;intro x hx e
  refine q0a (Option.bind_eq_some_iff.mp e) ?_;intro s hs e
  refine q0a (Option.map_eq_some_iff.mp e) ?_;intro c hc e
  exact ⟨c,by rw [q0x hx,q1e hs,q0x hc],e⟩
theorem q3b (st:q0k (p:=p) (w:=w) (tab:=tab) H0 s.heap V m σ) {d:D} {l:List D} {v:Value} (e:listD σ d=some l) (r:Rep p w tab s.heap V m d v):∃ a vs,v=.ref a∧s.heap.IsList a vs∧RepL p w tab s.heap V m l vs.toList:=by
  induction d using D.casesOn<;>first | exact ns e | skip
  · apply q0w e;exact q1y r
  · apply q0d;intro hG;rcases z4h st r e with ⟨a,vs,h1,_,h2⟩;apply hG;clear hG;exact ⟨a,vs,h1,h2⟩
section
variable {da db d:D} {va vb:Value} {Q:Value→Shared→Prop}
theorem z0p {a b:List Nat} (hs:a.length+b.length≤LIM) (ra:Rep p w tab s.heap V m (.str a) va) (rb:Rep p w tab s.heap V m (.str b) vb)
    (h:∀ v s',VP p w tab V m (.str (a++b)) s v s'→FreshV p w tab V m s (.str (a++b)) v s'→Q v s'):wpAny (model p w) A (binaryOp .Add va vb) Q E s:=by
  obtain ⟨t,rfl⟩:=q9b ra
  obtain ⟨u,rfl⟩:=q9b rb
  refine add_str (fun t' tk=>h _ _ (VP.scalar fun h V m=>?_) (.other fun zz h=>nomatch h)) ?_
  · skip
    exact ⟨t',by congr 1;show Str.mk (a.toArray++b.toArray)=_;simp⟩
  · show a.toArray.size+b.toArray.size≤_
    exact Nat.le_trans hs (by decide +kernel)
theorem z0q (st:q0k (p:=p) (w:=w) (tab:=tab) H0 s.heap V m σ) {a b:List D} (hs:a.length+b.length≤LIM) (ra:Rep p w tab s.heap V m (.tup a) va) (rb:Rep p w tab s.heap V m (.tup b) vb)
    (h:∀ v s',VP p w tab V m (.tup (a++b)) s v s'→FreshV p w tab V m s (.tup (a++b)) v s'→Q v s'):wpAny (model p w) A (binaryOp .Add va vb) Q E s:=by
  have hL:LIM≤sizeLine:=by decide
  refine q2x (j5g ra) ?_;intro x vs zw2 o1 t1 r1;rcases zw2 with rfl
  refine q2x (j5g rb) ?_;intro y ws zw2 o2 t2 r2;rcases zw2 with rfl
  apply q0d;intro hG;rcases id t1 with ⟨⟨cls,dd,data,sl⟩,ho,hc,n,hd⟩;apply hG;clear hG
  apply q0d;intro hG;rcases id t2 with ⟨⟨cls2,dd2,data2,sl2⟩,ho2,hc2,n2,hd2⟩;apply hG;clear hG
  dsimp only  at hc hd hc2 hd2
  subst hc hd hc2 hd2
  have e1:=r1.length
  have e2:=r2.length
  dsimp only [Array.length_toList] at e1 e2
  by_cases hv:vs.isEmpty=true
  · refine concat_meets ⟨_,ho,rfl⟩ ⟨_,ho2,rfl⟩ noFill_tuple_add seq_tuple_add PySem.F.slot_tuple_add PySem.F.entry_tuple_add (PySem.F.args_tuple_add_2 _ _)
      (tuple_addW0 x y vs ws n n2 dd dd2 sl sl2 hv) ⟨ho,ho2,h _ _ (VP.same ?_) (.other (by simp))⟩
    have:a=[]:=by
      have:vs.size=0:=by simpa [Array.isEmpty] using hv
      exact List.length_eq_zero_iff.mp (by omega)
    apply q0g this
    exact ⟨y,ws,rfl,o2,t2,r2⟩
  · by_cases hw:ws.isEmpty=true
    · refine concat_meets ⟨_,ho,rfl⟩ ⟨_,ho2,rfl⟩ noFill_tuple_add seq_tuple_add PySem.F.slot_tuple_add PySem.F.entry_tuple_add (PySem.F.args_tuple_add_2 _ _)
        (tuple_addW1 x y vs ws n n2 dd dd2 sl sl2 hv hw) ⟨ho,ho2,h _ _ (VP.same ?_) (.other (by simp))⟩
      have:b=[]:=by
        have:ws.size=0:=by simpa [Array.isEmpty] using hw
        exact List.length_eq_zero_iff.mp (by omega)
      apply q0g this
      exact ⟨x,vs,rfl,o1,t1,by simpa using r1⟩
    · refine concat_meets ⟨_,ho,rfl⟩ ⟨_,ho2,rfl⟩ noFill_tuple_add seq_tuple_add PySem.F.slot_tuple_add PySem.F.entry_tuple_add (PySem.F.args_tuple_add_2 _ _)
        (tuple_addW2 x y vs ws n n2 dd dd2 sl sl2 hv hw (by omega)) ⟨ho,ho2,?_⟩
      exact h _ _ (VP.newTuple (n:=0) (tk:=s.toks) (dd:=none) (sl:=#[]) st (by simpa using r1.append r2)) (.other (by simp))
theorem j0c (st:q0k (p:=p) (w:=w) (tab:=tab) H0 s.heap V m σ) (e:addD σ da db=some d) (ra:Rep p w tab s.heap V m da va) (rb:Rep p w tab s.heap V m db vb)
    (h:∀ v s',VP p w tab V m d s v s'→FreshV p w tab V m s d v s'→Q v s'):wpAny (model p w) A (binaryOp .Add va vb) Q E s:=by
  have lst:((listD σ da).bind fun a=>(listD σ db).bind fun b=>if a.length+b.length≤LIM then some (.list (a++b)) else Option.none)=some d→wpAny (model p w) A (binaryOp .Add va vb) Q E s:=fun e=>by
    refine q0a (bS e) ?_;intro x ex e
    refine q0a (bS e) ?_;intro y ey e
    obtain ⟨hs,e⟩:=ifS e
    replace e:=Option.some.inj e;subst e
    refine q1g (q3b st ex ra) ?_;intro a vs zw2 h1 r1;rcases zw2 with rfl
    refine q1g (q3b st ey rb) ?_;intro b ws zw2 h2 r2;rcases zw2 with rfl
    exact j0b st h1 h2 r1 r2 hs h
  induction da using D.casesOn<;>first | exact lst e | skip
  · obtain ⟨b,hb,rfl⟩:=Option.map_eq_some_iff.mp e
    obtain ⟨t,rfl⟩:=q6h ra
    obtain ⟨u,rfl⟩:=q6h (q0v hb▸rb)
    exact add_int (h _ _ (VP.scalar fun zz zz zz=>q1k) (.other fun zz h=>nomatch h))
  · obtain ⟨b,hb,e⟩:=bS e
    obtain ⟨hs,e⟩:=ifS e
    replace e:=Option.some.inj e;subst e
    exact z0p hs ra (q1e hb▸rb) h
  · induction db using D.casesOn<;>first | exact ns e | skip
    obtain ⟨hs,e⟩:=ifS e
    replace e:=Option.some.inj e;subst e
    exact z0q st hs ra rb h
set_option tactic.hygienic true in
theorem z0r {a:List Nat} {n:Int} (h0:0≤n) (h1:a.length*n.toNat≤LIM) (h2:n≤LIM) (ra:Rep p w tab s.heap V m (.str a) va) (rb:Rep p w tab s.heap V m (.int n) vb)
    (h:∀ v s',VP p w tab V m (.str ((List.replicate n.toNat a).flatten)) s v s'→FreshV p w tab V m s (.str ((List.replicate n.toNat a).flatten)) v s'→Q v s'):wpAny (model p w) A (binaryOp .Mult va vb) Q E s:=by
  obtain ⟨t,rfl⟩:=q9b ra
  obtain ⟨u,rfl⟩:=q6h rb
  have hLn:(LIM:Int)=65536:=by decide
  have hLn':LIM=65536:=by decide
  have hsl:sizeLine=2 ^ 24:=rfl
  have hx:(Str.mk a.toArray).length=a.length:=by show a.toArray.size=_;rfl
  refine P.mul_str (by rw [decide_eq_false (by omega),decide_eq_false (by omega)];rfl) (fun g1 g2=>?_) (fun g1 g2=>?_) ?_
  · skip
    have:(9223372036854775807:Int) / n≥65537:=by
      refine (Int.le_ediv_iff_mul_le (by omega)).mpr ?_
      omega
    have hal:a.length≤65536:=by
      have:a.length*1≤a.length*n.toNat:=Nat.mul_le_mul_left _ (by omega)
      omega
    rw [show (2 ^ 63 - 1:Int)=9223372036854775807 by decide]
    omega
  · skip
    have:¬ (a.length*n.toNat)>2 ^ 24:=by omega
    exact decide_eq_false this
  · split
    · refine ⟨by decide,h _ _ (VP.scalar fun zz zz zz=>?_) (.other (by simp))⟩
      have:n.toNat=0:=by omega
      rw [this]
      exact ⟨_,rfl⟩
    · split
      · rename_i g1 g2
        refine h _ _ (VP.same ?_) (.other (by simp))
        simp only [Bool.or_eq_true,beq_iff_eq,hx] at g2
        rcases g2 with rfl | g2
        · exact ⟨t,by simp⟩
        · obtain rfl:=List.length_eq_zero_iff.mp g2
          exact ⟨t,by simp⟩
      · refine ⟨?_,h _ _ (VP.scalar fun zz zz zz=>?_) (.other (by simp))⟩
        · rw [z6a];show (List.toArray _).size≤_
          rw [List.size_toArray,lm_len_rep_flat,Nat.mul_comm];exact Nat.le_trans (by assumption) (Nat.le_of_ble_eq_true rfl)
        · exact ⟨_,by rw [z6a]⟩
set_option tactic.hygienic true in
theorem q9c (st:q0k (p:=p) (w:=w) (tab:=tab) H0 s.heap V m σ) {a:List D} {n:Int} (h0:0≤n) (h1:a.length*n.toNat≤LIM) (h2:n≤LIM) (ra:Rep p w tab s.heap V m (.list a) va) (rb:Rep p w tab s.heap V m (.int n) vb)
    (h:∀ v s',VP p w tab V m (.list ((List.replicate n.toNat a).flatten)) s v s'→FreshV p w tab V m s (.list ((List.replicate n.toNat a).flatten)) v s'→Q v s'):wpAny (model p w) A (binaryOp .Mult va vb) Q E s:=by
  refine q1g (q1y ra) ?_;intro x vs zw2 t1 r1;rcases zw2 with rfl
  obtain ⟨u,rfl⟩:=q6h rb
  apply q0d;intro hG;rcases id t1 with ⟨⟨cls,dd,data,sl⟩,ho,hc,k,hd⟩;apply hG;clear hG
  dsimp only  at hc hd
  subst hc hd
  have e1:=r1.length
  dsimp only [Array.length_toList] at e1
  have hLn:(LIM:Int)=65536:=by decide
  have hLn':LIM=65536:=by decide
  have hsl:sizeLine=2 ^ 24:=rfl
  have hz:vs.size*n.toNat≤65536:=by rw [e1];exact h1
  refine wpAny_binaryOp_repeat_ref (T:="list") (U:="int") (by decide) ⟨_,ho,rfl⟩ (fun s'=>typeIs_int s' n u) noFill_list_mul F.fills_int_mul F.slot_int_rmul repeat_list F.slot_int_index.lookup
    (call_meets F.slot_int_rmul (typeIs_int s n u) F.entry_int_rmul (F.args_int_rmul_2 _ _) (lm_int_rmul_list_any n u x vs k dd sl)
      ⟨ho,rfl,⟨_,ho,rfl⟩,call_meets F.slot_list_mul ⟨_,ho,rfl⟩ F.entry_list_mul (F.args_list_mul_2 _ _)
        (lm_list_mul_any x vs k dd sl n u (by simp [Builtin.List.listFitsIndex];omega) (by omega) (by simp [Builtin.List.listTooLong,sizeLine];exact Nat.le_trans (by assumption) (Nat.le_of_ble_eq_true rfl)))
        ⟨ho,?_⟩⟩)
  have key:=r1.rep n.toNat
  have:(List.foldl (fun x1 x2=>x1++x2) #[] (List.replicate (if vs.isEmpty=true then 0 else n.toNat) vs))=((List.replicate n.toNat vs.toList).flatten).toArray:=by
    rw [listMul_foldl]
    split
    · rename_i hv
      have hv':vs.size=0:=by simpa [Array.isEmpty] using hv
      have:vs.toList=[]:=List.length_eq_zero_iff.mp (hv')
      rw [this]
      simp
    · rfl
  rw [this]
  have:=VP.newList (n:=0) (tk:=s.toks) (dd:=none) (sl:=#[]) (vs:=((List.replicate n.toNat vs.toList).flatten).toArray) (l:=(List.replicate n.toNat a).flatten) st (key)
  exact h _ _ this.1 this.2
theorem j0d (st:q0k (p:=p) (w:=w) (tab:=tab) H0 s.heap V m σ) (e:mulD da db=some d) (ra:Rep p w tab s.heap V m da va) (rb:Rep p w tab s.heap V m db vb)
    (h:∀ v s',VP p w tab V m d s v s'→FreshV p w tab V m s d v s'→Q v s'):wpAny (model p w) A (binaryOp .Mult va vb) Q E s:=by
  induction db using D.casesOn<;>first | exact ns e | skip
  induction da using D.casesOn<;>first | exact ns e | skip
  · obtain ⟨hs,e⟩:=ifS e
    obtain ⟨t,rfl⟩:=q6h ra
    obtain ⟨u,rfl⟩:=q6h rb
    simp only [small,Bool.and_eq_true,decide_eq_true_eq] at hs
    replace e:=Option.some.inj e;subst e
    exact mul_int (h _ _ (VP.scalar fun zz zz zz=>q1k) (.other fun zz h=>nomatch h)) (IntMulOk.of_left (intBits_le_64 (by omega) (by omega)))
  · obtain ⟨hs,e⟩:=ifS e
    simp only [Bool.and_eq_true,decide_eq_true_eq] at hs
    replace e:=Option.some.inj e;subst e
    exact z0r hs.1.1 hs.1.2 hs.2 ra rb h
  · obtain ⟨hs,e⟩:=ifS e
    simp only [Bool.and_eq_true,decide_eq_true_eq] at hs
    replace e:=Option.some.inj e;subst e
    exact q9c st hs.1.1 hs.1.2 hs.2 ra rb h
theorem j0e (st:q0k (p:=p) (w:=w) (tab:=tab) H0 s.heap V m σ) {op:Operator} (e:binD σ op da db=some d) (ra:Rep p w tab s.heap V m da va) (rb:Rep p w tab s.heap V m db vb)
    (h:∀ v s',VP p w tab V m d s v s'→FreshV p w tab V m s d v s'→Q v s'):wpAny (model p w) A (binaryOp op va vb) Q E s:=by
  cases op<;>first | exact ns e | exact j0c st e ra rb h | exact j0d st e ra rb h | skip
  all_goals
    apply q0d;intro hG;rcases k1x e with ⟨a,b,rfl,rfl,e⟩;apply hG;clear hG
    obtain ⟨t,rfl⟩:=q6h ra
    obtain ⟨u,rfl⟩:=q6h rb
  · replace e:=Option.some.inj e;subst e
    exact sub_int (h _ _ (VP.scalar fun zz zz zz=>q1k) (.other fun zz h=>nomatch h))
  · obtain ⟨hs,e⟩:=ifS e
    replace e:=Option.some.inj e;subst e
    exact mod_int' (by simpa using hs) (h _ _ (VP.scalar fun zz zz zz=>q1k) (.other fun zz h=>nomatch h))
  · obtain ⟨hs,e⟩:=ifS e
    simp only [Bool.and_eq_true,decide_eq_true_eq,bne_iff_ne] at hs
    replace e:=Option.some.inj e;subst e
    exact floordiv_int hs.2 (h _ _ (VP.scalar fun zz zz zz=>q1k) (.other fun zz h=>nomatch h)) (Or.inl (PyProof.noPylong_small (by omega)))
end
end
end Mine
open PySem PySem.W PyProof.Rows
namespace Mine
open PySem PySem.W PySem.Calls PyProof.Rows PySem.SeqAt
section
variable {p:Program} {w:World} {tab:List (Str × Int)} {A:Around} {E:Value→Shared→Prop} {s:Shared} {H0:Heap} {V:Addr→Prop} {m:List Addr} {σ:Sto}
theorem q4u {f:D→Option D} {h:Heap} {V':Addr→Prop} {m':List Addr} (hf:∀ d d' v,f d=some d'→Rep p w tab h V m d v→Rep p w tab h V' m' d' v) :
    ∀ {ds ds':List D} {vs:List Value},resL f ds=some ds'→RepL p w tab h V m ds vs→RepL p w tab h V' m' ds' vs
  | [],ds',vs,e,r=>by
    apply q0w e
    exact r
  | d::ds,ds',vs,e,r=>by
    refine q0a (Option.bind_eq_some_iff.mp e) ?_;intro d1 e1 e
    refine q0a (Option.map_eq_some_iff.mp e) ?_;intro ds1 e2 zw2;apply q1w zw2
    rcases r with ⟨v,vs',rfl,h1,h2⟩
    exact RepL.cons (hf _ _ _ e1 h1) (q4u hf e2 h2)
set_option tactic.hygienic true in
theorem q5t {h:Heap} (st:q0k (p:=p) (w:=w) (tab:=tab) H0 h V m σ) {n0:Nat} {V':Addr→Prop} {m':List Addr} (hV:∀ a,V' a→V a) (hm1:∀ b∈m',b∈m)
    (hm2:∀ (k:Nat) a,n0≤k→m[k]?=some a→a∉m'):∀ (n:Nat) {d d':D} {v:Value},res σ n0 n d=some d'→Rep p w tab h V m d v→Rep p w tab h V' m' d' v
  | 0,d,d',v,e,_=>by exact Mine.ns e
  | n+1,d,d',v,e,r=>by
    have out:∀ a,Out V m a→Out V' m' a:=fun a o=>⟨fun x=>o.1 (hV a x),fun x=>o.2 (hm1 a x)⟩
    induction d using D.casesOn with
    | loc k=>
      refine Mine.iteE e ?_ ?_<;>clear e<;>intro _ e
      · rename_i hk
        refine q0a (Option.bind_eq_some_iff.mp e) ?_;intro l el e
        refine q0a (Option.map_eq_some_iff.mp e) ?_;intro l' e2 zw2;apply q1w zw2
        obtain ⟨a,ha,rfl⟩:=r
        refine q0a (st.cell _ a l ha el) ?_;intro vs hl hr
        exact ⟨a,vs,rfl,⟨fun x=>st.sep a (List.mem_of_getElem? ha) (hV a x),hm2 _ a hk ha⟩,hl.isList,q4u (fun d d' v=>q5t st hV hm1 hm2 n) e2 hr⟩
      · exact Mine.ns e
    | tup l=>
      dsimp only [z2a,z2b,z2c,z2d,z2e,z2f] at e
      refine q0a (Option.map_eq_some_iff.mp e) ?_;intro l' e2 zw2;rcases zw2 with rfl
      apply q0d;intro hG;rcases r with ⟨a,vs,rfl,o,hl,hr⟩;apply hG;clear hG
      exact ⟨a,vs,rfl,out a o,hl,q4u (fun d d' v=>q5t st hV hm1 hm2 n) e2 hr⟩
    | list l=>
      dsimp only [z2a,z2b,z2c,z2d,z2e,z2f] at e
      refine q0a (Option.map_eq_some_iff.mp e) ?_;intro l' e2 zw2;rcases zw2 with rfl
      apply q0d;intro hG;rcases r with ⟨a,vs,rfl,o,hl,hr⟩;apply hG;clear hG
      exact ⟨a,vs,rfl,out a o,hl,q4u (fun d d' v=>q5t st hV hm1 hm2 n) e2 hr⟩
    | rng x y=>
      apply q0w e
      apply q0d;intro hG;rcases r with ⟨a,t,u,q,rfl,o,r⟩;apply hG;clear hG
      exact ⟨a,t,u,q,rfl,out a o,r⟩
    | etab=>
      apply q0w e
      rcases r with ⟨a,rfl,o,r⟩
      exact ⟨a,rfl,out a o,r⟩
    | none=>replace e:=Option.some.inj e;subst e;exact r
    | bool b=>apply q0w e;exact r
    | int b=>apply q0w e;exact r
    | str b=>apply q0w e;exact r
theorem j0f {f:D→D→Option Bool}:∀ {as bs:List D} {r:Bool},eqL f as bs=some r→
    ∃ e:Nat→Bool,(∀ (j:Nat) a b,as[j]?=some a→bs[j]?=some b→f a b=some (e j))∧(List.range as.length).all e=r
  | [],[],r,h=>by
    replace h:=Option.some.inj h
    exact ⟨fun zz=>true,fun j a b e=>by simp at e,by simp [h]⟩
  | a::as,b::bs,r,h=>by
    refine q0d fun hn=>?_
    refine q0a (Option.bind_eq_some_iff.mp h) ?_;intro x hx h
    refine q0a (Option.map_eq_some_iff.mp h) ?_;intro y hy zw2;rcases zw2 with rfl
    refine q0a (j0f hy) ?_;intro e h1 h2
    refine hn ?_
    refine ⟨fun j=>Nat.casesOn j x e,fun j a' b' e1 e2=>?_,?_⟩
    · induction j using j5f with
      | zero=>simp at e1 e2;subst e1 e2;exact hx
      | succ j=>exact h1 j a' b' (e1) (e2)
    · rw [List.length_cons,List.range_succ_eq_map]
      rw [List.all_cons,List.all_map]
      exact congrArg _ h2
  | [],_::_,r,h=>by exact Mine.ns h
  | _::_,[],r,h=>by exact Mine.ns h
theorem z0s {f:D→D→Option Bool} {h:Heap} (hf:∀ a b v r,Rep p w tab h V m a v→Rep p w tab h V m b v→f a b=some r→r=true) :
    ∀ {as bs:List D} {vs:List Value} {r:Bool},RepL p w tab h V m as vs→RepL p w tab h V m bs vs→eqL f as bs=some r→r=true
  | [],[],vs,r,_,_,e=>(Option.some.inj e).symm
  | a::as,b::bs,vs,r,ra,rb,e=>by
    rcases ra with ⟨v,vs1,rfl,h1,h2⟩
    apply q0d;intro hG;rcases rb with ⟨v',vs2,heq,h3,h4⟩;apply hG;clear hG
    injection heq with e1 e2
    subst e1 e2
    refine q0a (Option.bind_eq_some_iff.mp e) ?_;intro x hx e
    refine q0a (Option.map_eq_some_iff.mp e) ?_;intro y hy zw2;apply q1w zw2
    rw [hf _ _ _ _ h1 h3 hx,z0s hf h2 h4 hy];rfl
  | [],_::_,_,r,_,_,e=>by exact Mine.ns e
  | _::_,[],_,r,_,_,e=>by exact Mine.ns e
theorem z7w {h:Heap} {a:Addr} {x y:Array Value} (h1:h.IsList a x) (h2:h.IsList a y):x=y:=by
  apply q0d;intro hG;rcases h1 with ⟨o,e1,_,n,e2⟩;apply hG;clear hG
  apply q0d;intro hG;rcases h2 with ⟨o',e3,_,n',e4⟩;apply hG;clear hG
  rw [e1] at e3;replace e3:=Option.some.inj e3;subst e3
  rw [e2] at e4;cases e4;rfl
theorem z4i {h:Heap} {a:Addr} {x y:Array Value} (h1:h.IsTuple a x) (h2:h.IsTuple a y):x=y:=by
  apply q0d;intro hG;rcases h1 with ⟨o,e1,_,n,e2⟩;apply hG;clear hG
  apply q0d;intro hG;rcases h2 with ⟨o',e3,_,n',e4⟩;apply hG;clear hG
  rw [e1] at e3;replace e3:=Option.some.inj e3;subst e3
  rw [e2] at e4;cases e4;rfl
inductive EqS (n:Nat):D→D→Bool→Prop
  | none:EqS n .none .none true
  | bool (a b:Bool):EqS n (.bool a) (.bool b) (a==b)
  | int (a b:Int):EqS n (.int a) (.int b) (a==b)
  | str (a b:List Nat):EqS n (.str a) (.str b) (a==b)
  | tup {a b:List D} {r:Bool} (h:a.length=b.length) (e:eqL (eqD n) a b=some r):EqS n (.tup a) (.tup b) r
  | list {a b:List D} {r:Bool} (h:a.length=b.length) (e:eqL (eqD n) a b=some r):EqS n (.list a) (.list b) r
  | ne {a b:List D} (h:¬ a.length=b.length):EqS n (.list a) (.list b) false
theorem z0t {n:Nat} {a b:D} {r:Bool} (e:eqD (n+1) a b=some r):EqS n a b r:=by
  induction a using D.casesOn<;>first | exact ns e | skip
  all_goals (first | induction b using D.casesOn | cases b)<;>first | exact ns e | exact Option.some.inj e▸.none | exact Option.some.inj e▸.bool _ _ | exact Option.some.inj e▸.int _ _ | exact Option.some.inj e▸.str _ _ | exact .tup (ifS e).1 (ifS e).2 | exact iteE e (fun h e=>.list h e) (fun h e=>Option.some.inj e▸.ne h)
theorem j0g {h:Heap} {a b:List Nat} {v:Value} (ra:Rep p w tab h V m (.str a) v) (rb:Rep p w tab h V m (.str b) v):a=b:=by
  obtain ⟨t,e1⟩:=q9b ra
  obtain ⟨u,e2⟩:=q9b rb
  injection e1.symm.trans e2 with h1 _
  injection h1 with h1
  simpa using congrArg Array.toList h1
theorem j0h {h:Heap} {a b:Int} {v:Value} (ra:Rep p w tab h V m (.int a) v) (rb:Rep p w tab h V m (.int b) v):a=b:=by
  obtain ⟨t,e1⟩:=q6h ra
  obtain ⟨u,e2⟩:=q6h rb
  injection e1.symm.trans e2
theorem z6c {h:Heap} {a b:Bool} {v:Value} (ra:Rep p w tab h V m (.bool a) v) (rb:Rep p w tab h V m (.bool b) v):a=b:=by
  have e1:v=.bool a:=ra
  have e2:v=.bool b:=rb
  injection e1.symm.trans e2
theorem j0i {h:Heap} {a b:List D} {v:Value} (ra:Rep p w tab h V m (.tup a) v) (rb:Rep p w tab h V m (.tup b) v):∃ l,RepL p w tab h V m a l∧RepL p w tab h V m b l:=by
  refine q0d fun hn=>?_
  refine q2x (j5g ra) ?_;intro x vs zw2 zw3 t1 r1;rcases zw2 with rfl
  refine q2x (j5g rb) ?_;intro y ws h1 zw3 t2 r2
  refine hn ?_
  injection h1 with h1
  subst h1
  exact ⟨_,r1,z4i t1 t2▸r2⟩
theorem q4v {h:Heap} {a b:List D} {v:Value} (ra:Rep p w tab h V m (.list a) v) (rb:Rep p w tab h V m (.list b) v):∃ l,RepL p w tab h V m a l∧RepL p w tab h V m b l:=by
  refine q0d fun hn=>?_
  refine q1g (q1y ra) ?_;intro x vs zw2 t1 r1;rcases zw2 with rfl
  refine q1g (q1y rb) ?_;intro y ws h1 t2 r2
  refine hn ?_
  injection h1 with h1
  subst h1
  exact ⟨_,r1,z7w t1 t2▸r2⟩
theorem j5l {h:Heap}:∀ (n:Nat) {a b:D} {v:Value} {r:Bool},Rep p w tab h V m a v→Rep p w tab h V m b v→eqD n a b=some r→r=true:=by
  intro n
  induction n with
  | zero=>intro a b v r _ _ e;exact ns e
  | succ n ih=>
    intro a b v r ra rb e
    have q:=z0t e
    clear e
    cases q with
    | none=>rfl
    | bool x y=>rw [z6c ra rb];exact beq_self_eq_true _
    | int x y=>rw [j0h ra rb];exact beq_self_eq_true _
    | str x y=>rw [j0g ra rb];exact beq_self_eq_true _
    | tup h e=>
      refine q0a (j0i ra rb) ?_;intro l r1 r2
      exact z0s (fun a b v r=>ih) r1 r2 e
    | list h e=>
      refine q0a (q4v ra rb) ?_;intro l r1 r2
      exact z0s (fun a b v r=>ih) r1 r2 e
    | ne h=>
      refine q0a (q4v ra rb) ?_;intro l r1 r2
      exact absurd (r1.length.symm.trans r2.length) h
theorem k1y {a b:List Nat}:((⟨a.toArray⟩:Str)==⟨b.toArray⟩)=(a==b):=by
  rw [Bool.eq_iff_iff]
  simp only [beq_iff_eq]
  constructor
  · intro h;injection h with h;simpa using congrArg Array.toList h
  · intro h;rw [h]
theorem z6d {n:Nat} {A:Around} {a b:List D} {vs ws:Array Value} {r:Bool} (ih:∀ {a b:D} {v u:Value} {r:Bool},Rep p w tab s.heap V m a v→Rep p w tab s.heap V m b u→eqD n a b=some r→EqAt A s v u r)
    (r1:RepL p w tab s.heap V m a vs.toList) (r2:RepL p w tab s.heap V m b ws.toList) (hlen:a.length=b.length) (e:eqL (eqD n) a b=some r) :
    vs.size=ws.size∧∃ g:Nat→Bool,(∀ j (h1:j<vs.size) (h2:j<ws.size),EqAt A s vs[j] ws[j] (g j))∧(List.range vs.size).all g=r:=by
  refine q0a (j0f e) ?_;intro g g1 g2
  have z1:=r1.length
  have z2:=r2.length
  rw [Array.length_toList] at z1 z2
  refine ⟨z1.trans (hlen.trans z2.symm),g,fun j h1 h2=>?_,z1▸g2⟩
  refine q0d fun hn=>?_
  obtain ⟨d1,hd1⟩:∃ d,a[j]?=some d:=⟨_,List.getElem?_eq_getElem (z1▸h1)⟩
  obtain ⟨d2,hd2⟩:∃ d,b[j]?=some d:=⟨_,List.getElem?_eq_getElem (z2▸h2)⟩
  refine q0a (r1.get hd1) ?_;intro v1 e1 q1
  refine q0a (r2.get hd2) ?_;intro v2 e2 q2
  refine hn ?_
  have e1':vs[j]=v1:=by simpa [h1] using e1
  have e2':ws[j]=v2:=by simpa [h2] using e2
  rw [e1',e2']
  exact ih q1 q2 (g1 j _ _ hd1 hd2)
theorem z4j {A:Around} {x y:Addr} {r:Bool} (same:Value.ref x=.ref y→r=true) (k:RcAt A s (.ref x) (.ref y) r):EqAt A s (.ref x) (.ref y) r:=by
  by_cases hxy:x=y
  · subst hxy;rw [same rfl];exact EqAt.same _
  · exact EqAt.of_refs hxy k
theorem k1z:∀ (n:Nat) {A:Around} {a b:D} {v u:Value} {r:Bool},A.units+n<cLine→Rep p w tab s.heap V m a v→Rep p w tab s.heap V m b u→eqD n a b=some r→
    EqAt A s v u r∧RcAt A s v u r∧RcNeAt A s v u (!r):=by
  intro n
  induction n with
  | zero=>intro A a b v u r _ _ _ e;exact ns e
  | succ n ih=>
    intro A a b v u r hu ra rb e
    have hu1:A.units<cLine:=Nat.lt_of_le_of_lt (Nat.le_add_right _ _) hu
    have hin:A.in1.units+n<cLine:=by show A.units+1+n<cLine;omega
    have same:v=u→r=true:=fun h=>j5l _ ra (h▸rb) e
    have q:=z0t e
    clear e
    cases q with
    | none=>
      have e1:v=.none:=ra
      have e2:u=.none:=rb
      rw [e1,e2]
      exact ⟨EqAt.same _,RcAt.none_none,RcNeAt.none_none⟩
    | bool x y=>
      have e1:v=.bool x:=ra
      have e2:u=.bool y:=rb
      rw [e1,e2]
      exact ⟨EqAt.bool_bool _ _,RcAt.bool_bool _ _,RcNeAt.bool_bool _ _⟩
    | int x y=>
      refine q0d fun hn=>?_
      obtain ⟨t,e1⟩:=q6h ra
      obtain ⟨t',e2⟩:=q6h rb
      refine hn ?_
      rw [e1,e2]
      exact ⟨EqAt.int_int _ _ _ _,RcAt.int_int _ _ _ _,RcNeAt.int_int _ _ _ _⟩
    | str x y=>
      refine q0d fun hn=>?_
      obtain ⟨t,e1⟩:=q9b ra
      obtain ⟨t',e2⟩:=q9b rb
      refine hn ?_
      rw [e1,e2,← k1y]
      exact ⟨EqAt.str_str _ _ _ _,RcAt.str_str _ _ _ _,RcNeAt.str_str _ _ _ _⟩
    | tup hlen e=>
      refine q2x (j5g ra) ?_;intro x vs zw2 zw3 t1 r1;rcases zw2 with rfl
      refine q2x (j5g rb) ?_;intro y ws zw2 zw3 t2 r2;rcases zw2 with rfl
      apply q0d;intro hG;rcases z6d (fun h1 h2 h3=>(ih hin h1 h2 h3).1) r1 r2 hlen e with ⟨hz,g,he,hr⟩;apply hG;clear hG
      have hr':((List.range (min vs.size ws.size)).all g&&vs.size==ws.size)=r:=by
        rw [← hz,Nat.min_self,hr,beq_self_eq_true,Bool.and_true]
      have k1:=RcAt.tuples t1 t2 hu1 he
      have k2:=RcNeAt.tuples t1 t2 hu1 he
      rw [hr'] at k1 k2
      exact ⟨z4j same k1,k1,k2⟩
    | list hlen e=>
      refine q0d fun hn=>?_
      refine q1g (q1y ra) ?_;intro x vs zw2 t1 r1;rcases zw2 with rfl
      refine q1g (q1y rb) ?_;intro y ws zw2 t2 r2;rcases zw2 with rfl
      rcases z6d (fun h1 h2 h3=>(ih hin h1 h2 h3).1) r1 r2 hlen e with ⟨hz,g,he,hr⟩
      refine hn ?_
      have k1:=RcAt.lists t1 t2 hz hu1 he
      have k2:=RcNeAt.lists t1 t2 hz hu1 he
      rw [hr] at k1 k2
      exact ⟨z4j same k1,k1,k2⟩
    | ne hne=>
      refine q0d fun hn=>?_
      refine q1g (q1y ra) ?_;intro x vs zw2 t1 r1;rcases zw2 with rfl
      refine q1g (q1y rb) ?_;intro y ws zw2 t2 r2;rcases zw2 with rfl
      refine hn ?_
      have z1:=r1.length
      have z2:=r2.length
      rw [Array.length_toList] at z1 z2
      have hs:(vs.size !=ws.size)=true:=by rw [bne_iff_ne,z1,z2];exact hne
      have k1:=RcAt.lists_lengths (A:=A) t1 t2 hs hu1
      exact ⟨z4j same k1,k1,RcNeAt.lists_lengths t1 t2 hs hu1⟩
end
section
variable {p:Program} {w:World} {tab:List (Str × Int)} {A:Around} {E:Value→Shared→Prop} {s:Shared} {H0:Heap} {V:Addr→Prop} {m:List Addr} {σ:Sto}
theorem z4k {f:D→D→Option Bool} {h:Heap} (hf:∀ a a' b v r r',Rep p w tab h V m a v→Rep p w tab h V m a' v→f a b=some r→f a' b=some r'→r=r') :
    ∀ {as as' bs:List D} {vs:List Value} {r r':Bool},RepL p w tab h V m as vs→RepL p w tab h V m as' vs→eqL f as bs=some r→eqL f as' bs=some r'→r=r'
  | [],[],[],vs,r,r',_,_,e,e'=>by
    exact Option.some.inj (e.symm.trans e')
  | a::as,a'::as',b::bs,vs,r,r',ra,rb,e,e'=>by
    rcases ra with ⟨v,vs1,rfl,h1,h2⟩
    apply q0d;intro hG;rcases rb with ⟨v',vs2,heq,h3,h4⟩;apply hG;clear hG
    injection heq with e1 e2
    subst e1 e2
    refine q0a (Option.bind_eq_some_iff.mp e) ?_;intro x hx e
    refine q0a (Option.map_eq_some_iff.mp e) ?_;intro y hy zw2;apply q1w zw2
    refine q0a (Option.bind_eq_some_iff.mp e') ?_;intro x' hx' e'
    refine q0a (Option.map_eq_some_iff.mp e') ?_;intro y' hy' zw2;apply q1w zw2
    rw [hf _ _ _ _ _ _ h1 h3 hx hx',z4k hf h2 h4 hy hy']
  | [],_::_,_,vs,_,_,ra,rb,_,_=>by subst ra;apply q0d;intro hG;rcases rb with ⟨_,_,h,_⟩;apply hG;clear hG;exact Mine.nl h
  | _::_,[],_,vs,_,_,ra,rb,_,_=>by subst rb;apply q0d;intro hG;rcases ra with ⟨_,_,h,_⟩;apply hG;clear hG;exact Mine.nl h
  | [],[],_::_,_,_,_,_,_,e,_=>by exact Mine.ns e
  | _::_,_::_,[],_,_,_,_,_,e,_=>by exact Mine.ns e
theorem j0j {h:Heap}:∀ (n:Nat) {a a' b:D} {v:Value} {r r':Bool},Rep p w tab h V m a v→Rep p w tab h V m a' v→eqD n a b=some r→eqD n a' b=some r'→r=r':=by
  intro n
  induction n with
  | zero=>intro a a' b v r r' _ _ e _;exact ns e
  | succ n ih=>
    intro a a' b v r r' ra rb e e'
    have q:=z0t e
    have q':=z0t e'
    clear e e'
    cases q with
    | none=>cases q';rfl
    | bool x y=>cases q';rw [z6c ra rb]
    | int x y=>cases q';rw [j0h ra rb]
    | str x y=>cases q';rw [j0g ra rb]
    | tup h e=>
      cases q' with
      | tup h' e'=>
        refine q0a (j0i ra rb) ?_;intro l r1 r2
        exact z4k (f:=eqD n) (fun a a' b v r r'=>ih) r1 r2 e e'
    | list h e=>
      cases q' with
      | list h' e'=>
        refine q0a (q4v ra rb) ?_;intro l r1 r2
        exact z4k (f:=eqD n) (fun a a' b v r r'=>ih) r1 r2 e e'
      | ne h'=>
        refine q0a (q4v ra rb) ?_;intro l r1 r2
        exact absurd (r2.length.symm.trans (r1.length.trans h)) h'
    | ne h=>
      cases q' with
      | list h' e'=>
        refine q0a (q4v ra rb) ?_;intro l r1 r2
        exact absurd (r1.length.symm.trans (r2.length.trans h')) h
      | ne h'=>rfl
theorem j0k {d:D} {v:Value} (hu:A.units+resFuel<cLine) (rv:Rep p w tab s.heap V m d v) :
    ∀ {l:List D} {vs:List Value} {r:Bool},RepL p w tab s.heap V m l vs→memD d l=some r→∃ e:Value→Bool,(∀ y∈vs,EqAt A s y v (e y))∧vs.any e=r:=by
  intro l vs r rl h
  have key:∀ {l:List D} {vs:List Value} {r:Bool},RepL p w tab s.heap V m l vs→memD d l=some r→
      (∀ y∈vs,∃ e b,Rep p w tab s.heap V m e y∧eqD resFuel e d=some b)∧(r=true↔∃ y∈vs,∃ e,Rep p w tab s.heap V m e y∧eqD resFuel e d=some true):=by
    intro l
    induction l with
    | nil=>
      intro vs r rl h
      apply q0w h;apply q0g rl
      exact ⟨fun y hy=>(by cases hy),(by simp)⟩
    | cons a l ih=>
      intro vs r rl h
      apply q0d;intro hG;rcases rl with ⟨u,us,rfl,h1,h2⟩;apply hG;clear hG
      refine q0a (Option.bind_eq_some_iff.mp h) ?_;intro x hx h
      refine q0a (Option.map_eq_some_iff.mp h) ?_;intro y hy zw2;apply q1w zw2
      obtain ⟨i1,i2⟩:=ih h2 hy
      refine ⟨fun z hz=>?_,?_⟩
      · rcases List.mem_cons.mp hz with rfl | hz
        · exact ⟨a,x,h1,hx⟩
        · exact i1 z hz
      · rw [Bool.or_eq_true]
        constructor
        · rintro (rfl | hy')
          · exact ⟨u,List.mem_cons_self,a,h1,hx⟩
          · refine q0a (i2.mp hy') ?_;intro z hz q
            exact ⟨z,List.mem_cons_of_mem _ hz,q⟩
        · rintro ⟨z,hz,e,q1,q2⟩
          rcases List.mem_cons.mp hz with rfl | hz
          · exact Or.inl (j0j _ h1 q1 hx q2)
          · exact Or.inr (i2.mpr ⟨z,hz,e,q1,q2⟩)
  obtain ⟨k1,k2⟩:=key rl h
  refine ⟨fun y=>@decide (∃ e,Rep p w tab s.heap V m e y∧eqD resFuel e d=some true) (Classical.propDecidable _),fun y hy=>?_,?_⟩
  · refine q3l (k1 y hy) ?_;intro e b q1 q2
    have:=(k1z (A:=A) resFuel hu q1 rv q2).1
    have hb:@decide (∃ e,Rep p w tab s.heap V m e y∧eqD resFuel e d=some true) (Classical.propDecidable _)=b:=by
      induction b using q2i with
      | true=>exact @decide_eq_true _ (Classical.propDecidable _) ⟨e,q1,q2⟩
      | false=>exact @decide_eq_false _ (Classical.propDecidable _) fun ⟨e',q3,q4⟩=>Bool.noConfusion (j0j _ q1 q3 q2 q4)
    show EqAt A s y v (@decide _ (Classical.propDecidable _))
    rw [hb];exact this
  · rw [Bool.eq_iff_iff,List.any_eq_true,k2]
    constructor
    · rintro ⟨y,hy,h⟩;exact ⟨y,hy,@of_decide_eq_true _ (Classical.propDecidable _) h⟩
    · rintro ⟨y,hy,h⟩;exact ⟨y,hy,@decide_eq_true _ (Classical.propDecidable _) h⟩
theorem j0l {K β:Type} [DecidableEq K] {P:β→Value→Prop} {l:List (K × β)}:∀ {kvs:List (K × Value)},q7d kvs (l.map fun x=>(x.1,P x.2))→∀ k:K,
    (l.lookup k).elim (valueAt kvs k=none) fun i=>∃ v,valueAt kvs k=some v∧P i v:=by
  induction l with
  | nil=>intro kvs f k;cases f;rfl
  | cons x l ih=>
    intro kvs f k
    cases f with
    | @cons _ v _ kvs' _ hv f=>
      by_cases hk:x.1=k
      · subst hk
        rw [List.lookup_cons,beq_self_eq_true]
        exact ⟨v,by simp [valueAt],hv⟩
      · rw [List.lookup_cons,beq_eq_false_iff_ne.mpr fun h=>hk h.symm,show valueAt ((x.1,v)::kvs') k=valueAt kvs' k by simp [valueAt,hk]]
        exact ih f k
theorem IsTab.map {h:Heap} {a:Addr} (x:IsTab p w tab h a):∃ f,h.MapOf (strKind p w) a f∧∀ k,(tab.lookup k).elim (f k=none) fun i=>∃ v,f k=some v∧intVal i v:=by
  apply q0d;intro hG;rcases x with ⟨_,kvs,hd,hf⟩;apply hG;clear hG
  exact ⟨_,hd.mapOf,j0l hf⟩
theorem w2p (b:Bool):(!b)=!b:=rfl
set_option tactic.hygienic true in
theorem z6e (st:q0k (p:=p) (w:=w) (tab:=tab) H0 s.heap V m σ) (hu:A.units+resFuel+1<cLine) {d c:D} {v u:Value} {b:Bool} {Q:Value→Shared→Prop}
    (e:inD tab σ d c=some b) (ra:Rep p w tab s.heap V m d v) (rb:Rep p w tab s.heap V m c u) :
    ((∀ tk,Q (.bool b) { s with toks:=tk })→wpAny (model p w) A (compareOp .In v u) Q E s)∧((∀ tk,Q (.bool (!b)) { s with toks:=tk })→wpAny (model p w) A (compareOp .NotIn v u) Q E s):=by
  have hin:A.in1.units+resFuel<cLine:=by show A.units+1+resFuel<cLine;assumption
  have lst:∀ {a:Addr} {vs:Array Value} {l:List D},u=.ref a→s.heap.IsList a vs→RepL p w tab s.heap V m l vs.toList→memD d l=some b→((∀ tk,Q (.bool b) { s with toks:=tk })→wpAny (model p w) A (compareOp .In v u) Q E s)∧((∀ tk,Q (.bool (!b)) { s with toks:=tk })→wpAny (model p w) A (compareOp .NotIn v u) Q E s):=fun hu t1 r1 e=>by
    apply q0g hu
    refine q0a (j0k (A:=A.in1) hin ra r1 e) ?_;intro g g1 g2
    have e2:Array.any _ g=b:=(Array.any_toList).symm.trans g2
    exact ⟨fun h=>in_listAt g t1 (fun y hy=>g1 y (Array.mem_toList_iff.mpr hy)) (by rw [e2];exact h s.toks),fun h=>notIn_listAt g t1 (fun y hy=>g1 y (Array.mem_toList_iff.mpr hy)) (by rw [e2];exact h s.toks)⟩
  induction c using D.casesOn<;>first | exact ns e | skip
  · rename_i x
    obtain ⟨x',hx,e⟩:=bS e
    refine q0a (Option.map_eq_some_iff.mp e) ?_;intro c hc zw2;apply q1w zw2
    obtain ⟨t,hq76⟩:=q9b (q0x hc▸q1e hx▸ra)
    apply q0g hq76
    obtain ⟨t',hq42⟩:=q9b rb
    apply q0g hq42
    have hf:=PySem.StrLaws.found_one ⟨x.toArray⟩ c
    have hx:decide (c∈(Str.mk x.toArray).cps.toList)=x.contains c:=by simp [List.contains_eq_mem]
    rw [hx] at hf
    exact ⟨fun h=>PyProof.Rows.in_str (by rw [hf];exact h s.toks),fun h=>PyProof.Rows.notIn_str (by rw [hf];exact h s.toks)⟩
  · refine q2x (j5g rb) ?_;intro a vs zw2 zw3 t1 r1;apply q0g zw2
    obtain ⟨g,g1,g2⟩:=j0k (A:=A.in1) hin ra r1 e
    have e2:Array.any _ g=b:=(Array.any_toList).symm.trans g2
    exact ⟨fun h=>in_tupleAt g t1 (fun y hy=>g1 y (Array.mem_toList_iff.mpr hy)) (by rw [e2];exact h s.toks),fun h=>notIn_tupleAt g t1 (fun y hy=>g1 y (Array.mem_toList_iff.mpr hy)) (by rw [e2];exact h s.toks)⟩
  · refine q1g (q1y rb) ?_;intro a vs hu t1 r1
    exact lst hu t1 r1 e
  · obtain ⟨x,hx,hq27⟩:=Option.map_eq_some_iff.mp e
    apply q1w hq27
    obtain ⟨t,hq78⟩:=q9b (q1e hx▸ra)
    apply q0g hq78
    rcases rb with ⟨a,rfl,_,hT⟩
    refine q0a hT.map ?_;intro f hm hf
    have key:(f ⟨x.toArray⟩).isSome=(hasTab tab x).isSome:=by
      have:=hf ⟨x.toArray⟩
      unfold hasTab
      generalize tab.lookup _=y at this ⊢
      induction y using Mine.oC with
      | none=>exact congrArg _ this
      | some i=>obtain ⟨v,hv,_⟩:=this;rw [hv];rfl
    exact ⟨fun h=>wpAny_in_of (strKind_is p w ⟨x.toArray⟩ t) hT.1 hm (by rw [key];exact h _),fun h=>wpAny_notIn_of (strKind_is p w ⟨x.toArray⟩ t) hT.1 hm (by rw [key];exact h _)⟩
  · obtain ⟨l,el,e⟩:=bS e
    apply q0d;intro hG;rcases z4h st rb el with ⟨a,vs,hu,_,t1,r1⟩;apply hG;clear hG
    exact lst hu t1 r1 e
set_option tactic.hygienic true in
theorem z6f {da db:D} {b:Bool} {va vb:Value} {Q:Value→Shared→Prop} (e:isD da db=some b) (ra:Rep p w tab s.heap V m da va) (rb:Rep p w tab s.heap V m db vb) :
    (Q (.bool b) s→wpAny (model p w) A (compareOp .Is va vb) Q E s)∧(Q (.bool (!b)) s→wpAny (model p w) A (compareOp .IsNot va vb) Q E s):=by
  induction da using D.casesOn<;>first | exact ns e | skip
  · induction db using D.casesOn<;>first | exact ns e | skip
    replace e:=Option.some.inj e;subst e
    have ea:va=.none:=ra
    have eb:vb=.none:=rb
    subst ea eb
    exact ⟨fun h=>wpAny_is_self rfl h,fun h=>wpAny_isNot_self rfl h⟩
  · induction db using D.casesOn<;>first | exact ns e | skip
    rename_i x y
    have ea:va=.bool x:=ra
    have eb:vb=.bool y:=rb
    subst ea eb
    replace e:=Option.some.inj e;subst e
    exact ⟨fun h=>wpAny_is_plain rfl (by induction x using q2i<;>(first | induction y using q2i | cases y)<;>exact h),fun h=>wpAny_isNot_plain rfl (by induction x using q2i<;>(first | induction y using q2i | cases y)<;>exact h)⟩
  all_goals
    induction db using D.casesOn<;>first | exact ns e | skip
    replace e:=Option.some.inj e;subst e
    have eb:vb=.none:=rb
    apply q0g eb
  · obtain ⟨t,rfl⟩:=q6h ra
    exact ⟨fun h=>wpAny_is_other rfl (fun h=>nomatch h) h,fun h=>wpAny_isNot_other rfl (fun h=>nomatch h) h⟩
  · obtain ⟨t,rfl⟩:=q9b ra
    exact ⟨fun h=>wpAny_is_other rfl (fun h=>nomatch h) h,fun h=>wpAny_isNot_other rfl (fun h=>nomatch h) h⟩
set_option maxHeartbeats 1000000 in
theorem q7o (st:q0k (p:=p) (w:=w) (tab:=tab) H0 s.heap V m σ) (hu:A.units+resFuel+1<cLine) {op:CmpOp} {da db:D} {b:Bool} {va vb:Value} {Q:Value→Shared→Prop}
    (e:cmpD tab σ op da db=some b) (ra:Rep p w tab s.heap V m da va) (rb:Rep p w tab s.heap V m db vb)
    (h:∀ tk,Q (.bool b) { s with toks:=tk }):wpAny (model p w) A (compareOp op va vb) Q E s:=by
  have h0:Q (.bool b) s:=h s.toks
  have rs:∀ {d d':D} {v:Value},res σ 0 resFuel d=some d'→Rep p w tab s.heap V m d v→Rep p w tab s.heap V [] d' v:=fun e r=>
    q5t st (fun zz x=>x) (fun zz x=>by cases x) (fun zz zz zz zz x=>by cases x) _ e r
  have i2:∀ {f:Int→Int→Bool},cmpI f da db=some b→∃ x y t u,b=f x y∧va=.int x t∧vb=.int y u:=fun {f} e=>by
    clear h h0
    induction da using D.casesOn<;>first | exact ns e | skip
    induction db using D.casesOn<;>first | exact ns e | skip
    refine q0d fun hn=>?_
    obtain ⟨t,e1⟩:=q6h ra
    obtain ⟨u,e2⟩:=q6h rb
    refine hn ?_
    exact ⟨_,_,t,u,(Option.some.inj e).symm,e1,e2⟩
  cases op
  · obtain ⟨a',e1,e⟩:=bS e
    refine q0a (bS e) ?_;intro b' e2 e
    exact (k1z (A:=A) resFuel (by exact Nat.le_of_lt (by assumption)) (rs e1 ra) (rs e2 rb) e).2.1 p w E Q h0
  · obtain ⟨b0,e5,rfl⟩:=Option.map_eq_some_iff.mp e
    refine q0d fun hn=>?_
    refine q0a (bS e5) ?_;intro a' e1 e5
    refine q0a (bS e5) ?_;intro b' e2 e5
    refine hn ?_
    exact (k1z (A:=A) resFuel (by exact Nat.le_of_lt (by assumption)) (rs e1 ra) (rs e2 rb) e5).2.2 p w E Q h0
  · apply q0d;intro hG;rcases i2 e with ⟨x,y,t,u,rfl,rfl,rfl⟩;apply hG;clear hG;exact lt_int h0
  · apply q0d;intro hG;rcases i2 e with ⟨x,y,t,u,rfl,rfl,rfl⟩;apply hG;clear hG;exact le_int h0
  · apply q0d;intro hG;rcases i2 e with ⟨x,y,t,u,rfl,rfl,rfl⟩;apply hG;clear hG;exact gt_int h0
  · apply q0d;intro hG;rcases i2 e with ⟨x,y,t,u,rfl,rfl,rfl⟩;apply hG;clear hG;exact ge_int h0
  · exact (z6f e ra rb).1 h0
  · obtain ⟨b0,e5,rfl⟩:=Option.map_eq_some_iff.mp e
    exact (z6f e5 ra rb).2 h0
  · exact (z6e st hu e ra rb).1 h
  · obtain ⟨b0,e5,rfl⟩:=Option.map_eq_some_iff.mp e
    exact (z6e st hu e5 ra rb).2 h
end
end Mine
open PySem PySem.W PyProof.Rows
namespace Mine
open PySem PySem.W PySem.Calls PyProof.Rows PySem.SeqAt PySem.Builtin PySem.Builtin.Str
section
variable {p:Program} {w:World} {tab:List (Str × Int)} {A:Around} {E:Value→Shared→Prop} {s:Shared} {H0:Heap} {V:Addr→Prop} {m:List Addr} {σ:Sto}
set_option tactic.hygienic true in
theorem q4e {n:Nat} {i:Int} {k:Nat} (h:indexOf n i=some k):seqIndex? i n=some k∧k<n∧(0≤i→k=i.toNat)∧(i<0→k=(i+n).toNat∧-(n:Int)≤i):=by
  unfold seqIndex?
  refine Mine.iteE h ?_ ?_<;>clear h<;>intro _ h
  · rename_i h0
    refine Mine.iteE h ?_ ?_<;>clear h<;>intro _ h
    · rename_i h1
      replace h:=Option.some.inj h;subst h
      have hn:¬ i<0:=by omega
      refine ⟨?_,by omega,fun zz=>rfl,fun h=>by omega⟩
      dsimp only
      rw [if_neg hn,if_pos]
      simp;omega
    · exact Mine.ns h
  · rename_i h0
    refine Mine.iteE h ?_ ?_<;>clear h<;>intro _ h
    · rename_i h1
      replace h:=Option.some.inj h;subst h
      have hn:i<0:=by omega
      refine ⟨?_,by omega,fun h=>by omega,fun zz=>⟨rfl,by omega⟩⟩
      dsimp only
      rw [if_pos hn,if_pos]
      simp;omega
    · exact Mine.ns h
noncomputable def notPlainSlice:PySem.Expr→Bool
  | .Slice _ _ Option.none _=>false
  | _=>true
set_option tactic.hygienic true in
theorem q1p {e:PySem.Expr} {o i:Value} (h:notPlainSlice e=true):subscripted e false o i=operate [o,i] (getItem o i):=by
  induction e using PySem.Expr.casesOn<;>first | rfl | skip
  rename_i lo hi st pos
  induction st using Mine.oC
  · exact Mine.ff h
  · rfl
noncomputable def isize:Int:=2 ^ 63
theorem j0m {value slice:PySem.Expr} {l:Addr} {vs:Array Value} {ds:List D} {i:Int} {u:Tok} {k:Nat} {d:D} {Q:Value→Shared→Prop} (hl:s.heap.IsList l vs) (rl:RepL p w tab s.heap V m ds vs.toList)
    (hk:indexOf ds.length i=some k) (hd:ds[k]?=some d) (hs:notPlainSlice slice=true) (hz:-(2 ^ 63:Int)≤i∧i<2 ^ 63)
    (h:∀ v,Rep p w tab s.heap V m d v→Q v s):wpAny (model p w) A (subscriptTail value slice (.ref l) (.int i u)) Q E s:=by
  refine q0a (rl.get hd) ?_;intro v hv rv
  have hv':vs[k]?=some v:=by simpa using hv
  refine q9i (q4e hk) ?_;intro h1 h2 h3 h4
  have hn:ds.length=vs.size:=by have:=rl.length;dsimp only [Array.length_toList] at this;omega
  refine tail_any hl.typeIs slot_list_getitem.lookup ?_ (q1p hs)
  by_cases h0:0≤i
  · exact wpAny_getItem_list hl h0 hz.2 (by rw [← h3 h0];exact hv') (h v rv)
  · obtain ⟨h5,h6⟩:=h4 (by omega)
    exact wpAny_getItem_list_neg hl (by omega) (by omega) hz.1 (by rw [← hn,← h5];exact hv') (h v rv)
set_option tactic.hygienic true in
theorem z4l (st:q0k (p:=p) (w:=w) (tab:=tab) H0 s.heap V m σ) {value slice:PySem.Expr} {dO dI d:D} {vo vi:Value} {Q:Value→Shared→Prop}
    (e:itemD0 tab σ dO dI=some d) (ro:Rep p w tab s.heap V m dO vo) (ri:Rep p w tab s.heap V m dI vi) (hs:notPlainSlice slice=true)
    (hz:∀ i,dI=.int i→-(2 ^ 63:Int)≤i∧i<2 ^ 63)
    (h:∀ v tk,Rep p w tab s.heap V m d v→Q v { s with toks:=tk }):wpAny (model p w) A (subscriptTail value slice vo vi) Q E s:=by
  have lst:∀ {l:List D} {a:Addr} {vs:Array Value},vo=.ref a→s.heap.IsList a vs→RepL p w tab s.heap V m l vs.toList→((asInt dI).bind fun i=>(indexOf l.length i).bind fun k=>l[k]?)=some d→wpAny (model p w) A (subscriptTail value slice vo vi) Q E s:=fun hv hl rl e=>by
    apply q0g hv
    refine q0a (bS e) ?_;intro i hi e
    refine q0a (bS e) ?_;intro k hk hd
    obtain ⟨u,hq62⟩:=q6h (q0v hi▸ri)
    apply q0g hq62
    exact j0m hl rl hk hd hs (hz _ (q0v hi)) fun v rv=>h v s.toks rv
  induction dO using D.casesOn<;>first | exact ns e | skip
  · rename_i x
    obtain ⟨i,hi,e⟩:=bS e
    refine q0a (bS e) ?_;intro k hk hd
    refine q0a (Option.map_eq_some_iff.mp hd) ?_;intro c hc zw2;rcases zw2 with rfl
    obtain ⟨t,rfl⟩:=q9b ro
    obtain ⟨u,hq80⟩:=q6h (q0v hi▸ri)
    apply q0g hq80
    refine q9i (q4e hk) ?_;intro h1 h2 h3 h4
    obtain ⟨z1,z2⟩:=hz _ (q0v hi)
    refine tail_any (typeIs_str s _ t) PySem.F.slot_str_getitem.lookup (PyProof.Rows.getItem_str (c:=c) (by rw [decide_eq_false (by omega),decide_eq_false (by omega)];rfl) ?_ (h _ _ q2w)) (q1p hs)
    have:(Str.mk x.toArray).length=x.length:=by show x.toArray.size=_;rfl
    rw [this,h1]
    show x.toArray[k]?=some c
    simpa using hc
  · obtain ⟨i,hi,e⟩:=bS e
    refine q0a (bS e) ?_;intro k hk hd
    refine q2x (j5g ro) ?_;intro a vs zw2 zw3 ht rl;apply q0g zw2
    obtain ⟨u,hq80⟩:=q6h (q0v hi▸ri)
    apply q0g hq80
    refine q0a (rl.get hd) ?_;intro v hv rv
    refine q9i (q4e hk) ?_;intro h1 h2 h3 h4
    have hn:=rl.length
    have z:=hz _ (q0v hi)
    refine tail_any ht.typeIs slot_tuple_getitem.lookup (PyProof.Rows.getItem_tuple ht z.1 z.2 (j:=k) (by rw [show vs.size=_ from hn];exact h1) (by simpa using hv) (h v s.toks rv)) (q1p hs)
  · refine q1g (q1y ro) ?_;intro a vs hv hl rl
    exact lst hv hl rl e
  · obtain ⟨x,hx,e⟩:=bS e
    refine q0a (Option.map_eq_some_iff.mp e) ?_;intro j hj zw2;rcases zw2 with rfl
    apply q0d;intro hG;rcases ro with ⟨a,rfl,_,hT⟩;apply hG;clear hG
    obtain ⟨u,hq17⟩:=q9b (q1e hx▸ri)
    apply q0g hq17
    refine q0a hT.map ?_;intro f hm hf
    have:=hf ⟨x.toArray⟩
    unfold hasTab at hj
    rw [hj] at this
    obtain ⟨_,ht,t,rfl⟩:=this
    exact tail_any hm.typeIs slot_dict_getitem.lookup (wpAny_getItem_of (strKind_is p w ⟨x.toArray⟩ u) hm ht (h _ _ q1k)) (q1p hs)
  · obtain ⟨l,el,e⟩:=bS e
    apply q0d;intro hG;rcases z4h st ro el with ⟨a,vs,hv,_,hl,rl⟩;apply hG;clear hG
    exact lst hv hl rl e
theorem z4m {α:Type} (l:List α) (lo hi:Option Int):cutL l lo hi=(l.drop (lo.elim 0 (clipAt l.length))).take (hi.elim l.length (clipAt l.length) - lo.elim 0 (clipAt l.length)):=List.drop_take ..
theorem RepL.cut {h:Heap} {ds:List D} {vs:Array Value} (r:RepL p w tab h V m ds vs.toList) (lo hi:Option Int):RepL p w tab h V m (cutL ds lo hi) (slicePick vs lo hi Option.none).toList:=by
  rw [slicePick_plain,z4m]
  have:ds.length=vs.size:=by have:=r.length;dsimp only [Array.length_toList] at this;omega
  rw [this]
  exact (r.drop _).take _
inductive k1a:Option Int→Value→Prop
  | none:k1a Option.none .none
  | int (i:Int) (t:Tok):k1a (some i) (.int i t)
theorem q9d (x:List Nat) (lo hi:Option Int):((strSliceIndices lo hi 1 x.length).filterMap (x.toArray[·]?))=cutL x lo hi:=by
  have key:strSliceIndices lo hi 1 x.length=sliceRange (lo.elim 0 (clipAt x.length):Nat) (hi.elim x.length (clipAt x.length):Nat) 1:=by
    unfold strSliceIndices
    induction lo using Mine.oC<;>(first | induction hi using Mine.oC | cases hi)<;>simp [clipAt_cast]
  rw [key,sliceRange_one,z4m]
  have:=pick_run x.toArray (lo.elim 0 (clipAt x.length)) (hi.elim x.length (clipAt x.length) - lo.elim 0 (clipAt x.length))
  exact this
set_option tactic.hygienic true in
theorem z2g (st:q0k (p:=p) (w:=w) (tab:=tab) H0 s.heap V m σ) {value:PySem.Expr} {lower upper:Option PySem.Expr} {pos:Pos} {dO d:D} {lo hi:Option Int} {vo vl vu:Value} {sl:Addr} {Q:Value→Shared→Prop}
    (e:sliceD0 σ lo hi dO=some d) (ro:Rep p w tab s.heap V m dO vo) (h1:k1a lo vl) (h2:k1a hi vu) (hsl:s.heap.IsSliceOf sl vl vu .none) {nn:Int} (hn:lenD σ dO=some nn) (hle:nn.toNat≤LIM)
    (h:∀ v s',VP p w tab V m d s v s'→FreshV p w tab V m s d v s'→Q v s'):wpAny (model p w) A (subscriptTail value (.Slice lower upper Option.none pos) vo (.ref sl)) Q E s:=by
  have part:∀ {k:Option Int} {v:Value},k1a k v→IsPart v k:=fun h=>by cases h<;>constructor
  have hs:subscripted (.Slice lower upper Option.none pos) false vo (.ref sl)=operate [.ref sl,vo] (getItem vo (.ref sl)):=rfl
  have hL:LIM≤sizeLine:=by decide
  have lst:(lenD σ dO=(listD σ dO).map fun l=>(l.length:Int))→((listD σ dO).map fun l=>D.list (cutL l lo hi))=some d→wpAny (model p w) A (subscriptTail value (.Slice lower upper Option.none pos) vo (.ref sl)) Q E s:=fun hlen e=>by
    refine q0a (Option.map_eq_some_iff.mp e) ?_;intro ds el zw2;rcases zw2 with rfl
    refine q1g (q3b st el ro) ?_;intro a vs zw2 hl rl;rcases zw2 with rfl
    have hz:ds.length≤sizeLine:=by
      rw [el] at hlen
      have:=Option.some.inj (hn.symm.trans hlen)
      rw [this] at hle
      exact Nat.le_trans hle hL
    have hn:=rl.length
    dsimp only [Array.length_toList] at hn
    refine tail_any hl.typeIs slot_list_getitem.lookup (wpAny_getItem_list_slice hl hsl (part h1) (part h2) .none (by simp) ?_ (by omega)) hs
    have:=VP.newList (n:=0) (tk:=s.toks) (dd:=Option.none) (sl:=#[]) (vs:=slicePick vs lo hi Option.none) (l:=cutL ds lo hi) st (rl.cut lo hi)
    exact h _ _ this.1 this.2
  induction dO using D.casesOn<;>first | exact ns e | exact lst rfl e | skip
  · rename_i x
    replace e:=Option.some.inj e;subst e
    obtain ⟨t,rfl⟩:=ro
    apply q0d;intro hG;rcases hsl with ⟨o,ho,hc,hd⟩;apply hG;clear hG
    have hx:(Str.mk x.toArray).length=x.length:=by show x.toArray.size=_;rfl
    obtain ⟨l,rfl,rfl⟩:∃ l,vl=partValue l∧lo=l.map (·.1):=by cases h1 with | none=>exact ⟨Option.none,rfl,rfl⟩ | int i t=>exact ⟨some (i,t),rfl,rfl⟩
    obtain ⟨u,rfl,rfl⟩:∃ l,vu=partValue l∧hi=l.map (·.1):=by cases h2 with | none=>exact ⟨Option.none,rfl,rfl⟩ | int i t=>exact ⟨some (i,t),rfl,rfl⟩
    refine tail_any (typeIs_str s _ t) PySem.F.slot_str_getitem.lookup (wpAny_getItem_str_slice (l:=l) (u:=u) (st:=Option.none) ⟨o,ho,hc,hd⟩ rfl ?_) hs
    have key:((slicePicked (Str.mk x.toArray) l u Option.none).filterMap ((Str.mk x.toArray).cps[·]?))=cutL x (l.map (·.1)) (u.map (·.1)):=by
      exact q9d x _ _
    unfold sliceMade
    split
    · rename_i hw
      refine h _ _ (VP.same ?_) (.other (by simp))
      simp only [Bool.and_eq_true,beq_iff_eq] at hw
      have hlen:(slicePicked (Str.mk x.toArray) l u Option.none).length=x.length:=by exact hw.2
      have:cutL x (l.map (·.1)) (u.map (·.1))=x:=by
        have e1:((u.map (·.1)).elim x.length (clipAt x.length) - (l.map (·.1)).elim 0 (clipAt x.length))=x.length:=by
          have key2:strSliceIndices (l.map (·.1)) (u.map (·.1)) 1 x.length=sliceRange ((l.map (·.1)).elim 0 (clipAt x.length):Nat) ((u.map (·.1)).elim x.length (clipAt x.length):Nat) 1:=by
            unfold strSliceIndices
            induction l using Mine.oC<;>(first | induction u using Mine.oC | cases u)<;>simp [clipAt_cast]
          have:(slicePicked (Str.mk x.toArray) l u Option.none)=strSliceIndices (l.map (·.1)) (u.map (·.1)) 1 x.length:=by rfl
          rw [this,key2,sliceRange_one] at hlen
          simpa using hlen
        have cl:∀ i,clipAt x.length i≤x.length:=fun i=>by unfold clipAt;omega
        have q1:(u.map (·.1)).elim x.length (clipAt x.length)≤x.length:=by induction u using Mine.oC<;>simp [cl]
        have q2:(l.map (·.1)).elim 0 (clipAt x.length)≤x.length:=by induction l using Mine.oC<;>simp [cl]
        have q3:∀ a b c:Nat,a - b=c→a≤c→b≤c→b=0:=by omega
        have e0:(l.map (·.1)).elim 0 (clipAt x.length)=0:=q3 _ _ _ e1 q1 q2
        rw [z4m,e1,e0];simp
      rw [this];exact q2w
    · refine ⟨?_,h _ _ (VP.scalar fun zz zz zz=>?_) (.other (by simp))⟩
      · rw [key]
        show (List.toArray _).size≤sizeLine
        rw [List.size_toArray]
        have hz3:x.length≤sizeLine:=Nat.le_trans (by have:=Option.some.inj hn;rw [← this] at hle;exact hle) hL
        refine Nat.le_trans ?_ hz3
        unfold cutL
        rw [List.length_drop,List.length_take];omega
      · rw [key];exact q2w
set_option tactic.hygienic true in
theorem z7x (st:q0k (p:=p) (w:=w) (tab:=tab) H0 s.heap V m σ) {value slice:PySem.Expr} {dO dI d:D} {vo vi:Value} {Q:Value→Shared→Prop}
    (e:itemD tab σ dO dI=some d) (ro:Rep p w tab s.heap V m dO vo) (ri:Rep p w tab s.heap V m dI vi) (hs:notPlainSlice slice=true)
    (h:∀ v tk,Rep p w tab s.heap V m d v→Q v { s with toks:=tk }):wpAny (model p w) A (subscriptTail value slice vo vi) Q E s:=by
  refine Mine.iteE e ?_ ?_<;>clear e<;>intro _ e
  · rename_i hsm
    refine z4l st e ro ri hs (fun i hi=>?_) h
    subst hi
    simp only [smallI,small,decide_eq_true_eq] at hsm
    omega
  · exact Mine.ns e
theorem z4n (st:q0k (p:=p) (w:=w) (tab:=tab) H0 s.heap V m σ) {value:PySem.Expr} {lower upper:Option PySem.Expr} {pos:Pos} {dO d:D} {lo hi:Option Int} {vo vl vu:Value} {sl:Addr} {Q:Value→Shared→Prop}
    (e:sliceD σ lo hi dO=some d) (ro:Rep p w tab s.heap V m dO vo) (h1:k1a lo vl) (h2:k1a hi vu) (hsl:s.heap.IsSliceOf sl vl vu .none)
    (h:∀ v s',VP p w tab V m d s v s'→FreshV p w tab V m s d v s'→Q v s'):wpAny (model p w) A (subscriptTail value (.Slice lower upper Option.none pos) vo (.ref sl)) Q E s:=by
  obtain ⟨n,hn,e⟩:=bS e
  obtain ⟨hle,e⟩:=ifS e
  exact z2g st e ro h1 h2 hsl hn hle h
end
section
variable {p:Program} {w:World} {tab:List (Str × Int)} {A:Around} {E:Value→Shared→Prop} {s:Shared} {H0:Heap} {V:Addr→Prop} {m:List Addr} {σ:Sto}
theorem q9n {h:Heap}:∀ {l:List D} {ns:List Int} {vs:List Value},intsOfD l=some ns→RepL p w tab h V m l vs→IntsAre vs ns
  | [],ns,vs,e,r=>by
    replace e:=Option.some.inj e
    subst e
    subst r
    exact .nil
  | d::l,ns,vs,e,r=>by
    induction d using D.casesOn<;>skip<;>try (exact Mine.ns e)
    refine q0a (Option.map_eq_some_iff.mp e) ?_;intro ms hm zw2;apply q1w zw2
    rcases r with ⟨v,vs',rfl,h1,h2⟩
    obtain ⟨t,hq85⟩:=h1
    apply q0g hq85
    exact .cons _ t (q9n hm h2)
theorem q9o {h:Heap}:∀ {l:List D} {ns:List (List Nat)} {vs:List Value},strsOfD l=some ns→RepL p w tab h V m l vs→StrsAre vs (ns.map fun x=>⟨x.toArray⟩)
  | [],ns,vs,e,r=>by
    replace e:=Option.some.inj e
    subst e
    subst r
    exact .nil
  | d::l,ns,vs,e,r=>by
    induction d using D.casesOn<;>skip<;>try (exact Mine.ns e)
    refine q0a (Option.map_eq_some_iff.mp e) ?_;intro ms hm zw2;apply q1w zw2
    rcases r with ⟨v,vs',rfl,h1,h2⟩
    obtain ⟨t,hq22⟩:=h1
    apply q0g hq22
    exact .cons _ t (q9o hm h2)
theorem z2h:∀ (l:List Int) (a:Int),maxI a l∈a::l∧∀ b∈a::l,b≤maxI a l
  | [],a=>⟨by simp [maxI],fun b hb=>by simp at hb;subst hb;exact Int.le_refl _⟩
  | x::l,a=>by
    have ih:=z2h l (if a<x then x else a)
    have e:maxI a (x::l)=maxI (if a<x then x else a) l:=rfl
    rw [e]
    constructor
    · rcases List.mem_cons.mp ih.1 with h | h
      · rw [h];split<;>simp
      · exact List.mem_cons_of_mem _ (List.mem_cons_of_mem _ h)
    · intro b hb
      have h1:=ih.2 _ List.mem_cons_self
      generalize hM:maxI (if a<x then x else a) l=M at h1 ih ⊢
      rcases List.mem_cons.mp hb with rfl | hb
      · split at h1<;>(first | assumption | omega)
      · rcases List.mem_cons.mp hb with rfl | hb
        · split at h1<;>(first | assumption | omega)
        · exact ih.2 b (List.mem_cons_of_mem _ hb)
theorem z2i:∀ (l:List Int) (a:Int),minI a l∈a::l∧∀ b∈a::l,minI a l≤b
  | [],a=>⟨by simp [minI],fun b hb=>by simp at hb;subst hb;exact Int.le_refl _⟩
  | x::l,a=>by
    have ih:=z2i l (if x<a then x else a)
    have e:minI a (x::l)=minI (if x<a then x else a) l:=rfl
    rw [e]
    constructor
    · rcases List.mem_cons.mp ih.1 with h | h
      · rw [h];split<;>simp
      · exact List.mem_cons_of_mem _ (List.mem_cons_of_mem _ h)
    · intro b hb
      have h1:=ih.2 _ List.mem_cons_self
      generalize hM:minI (if x<a then x else a) l=M at h1 ih ⊢
      rcases List.mem_cons.mp hb with rfl | hb
      · split at h1<;>(first | assumption | omega)
      · rcases List.mem_cons.mp hb with rfl | hb
        · split at h1<;>(first | assumption | omega)
        · exact ih.2 b (List.mem_cons_of_mem _ hb)
theorem j5m {l:Addr} {vs:Array Value} {ns:List Int} {a:Int} {r:List Int} {Q:Value→Shared→Prop} (hh:A.handled=none) (hl:s.heap.IsList l vs) (hi:IntsAre vs.toList ns) (hn:ns=a::r)
    (h:∀ h' t tk,Kept s.heap h'→Q (.int (maxI a r) t) { s with heap:=h',toks:=tk }):wpAny (model p w) A (call (.builtin "max") [.ref l]) Q E s:=by
  obtain ⟨xs,e⟩:=hi.allInts.items
  have hns:ns=xs.toList.map (·.1):=by
    rw [← hi.numsOf,← nums_intItems,← e]
  have hlen:xs.size=ns.length:=by rw [hns];simp
  have hsz:0<xs.size:=by rw [hlen,hn];simp
  have hl':s.heap.IsList l (intItems xs):=by rw [← e] ;exact hl
  refine max_intList hh hl' hsz fun v h' tk hv hk=>?_
  obtain ⟨t,hq63⟩:=intItems_at hv
  apply q0g hq63
  obtain ⟨h1,h2⟩:=argBest_gt (numAt xs) (xs.size - 1)
  generalize hM:numAt xs (argBest (fun i j=>decide (numAt xs i>numAt xs j)) (xs.size - 1))=M at *
  have m1:M∈ns:=by rw [← hM,hns,numAt_eq];exact getD_mem (by rw [List.length_map,Array.length_toList];omega)
  have m2:∀ b∈ns,b≤M:=fun b hb=>by
    rw [hns] at hb
    refine q0a (mem_getD hb) ?_;intro j hj zw2;apply q1w zw2
    rw [List.length_map,Array.length_toList] at hj
    rw [← numAt_eq];exact h2 j (by omega)
  obtain ⟨g1,g2⟩:=z2h r a
  rw [hn] at m1 m2
  have:M=maxI a r:=by have:=g2 _ m1;have:=m2 _ g1;omega
  rw [this]
  exact h h' t tk hk
theorem j5n {l:Addr} {vs:Array Value} {ns:List Int} {a:Int} {r:List Int} {Q:Value→Shared→Prop} (hh:A.handled=none) (hl:s.heap.IsList l vs) (hi:IntsAre vs.toList ns) (hn:ns=a::r)
    (h:∀ h' t tk,Kept s.heap h'→Q (.int (minI a r) t) { s with heap:=h',toks:=tk }):wpAny (model p w) A (call (.builtin "min") [.ref l]) Q E s:=by
  obtain ⟨xs,e⟩:=hi.allInts.items
  have hns:ns=xs.toList.map (·.1):=by
    rw [← hi.numsOf,← nums_intItems,← e]
  have hlen:xs.size=ns.length:=by rw [hns];simp
  have hsz:0<xs.size:=by rw [hlen,hn];simp
  have hl':s.heap.IsList l (intItems xs):=by rw [← e] ;exact hl
  refine min_intList hh hl' hsz fun v h' tk hv hk=>?_
  obtain ⟨t,hq63⟩:=intItems_at hv
  apply q0g hq63
  obtain ⟨h1,h2⟩:=argBest_lt (numAt xs) (xs.size - 1)
  generalize hM:numAt xs (argBest (fun i j=>decide (numAt xs i<numAt xs j)) (xs.size - 1))=M at *
  have m1:M∈ns:=by rw [← hM,hns,numAt_eq];exact getD_mem (by rw [List.length_map,Array.length_toList];omega)
  have m2:∀ b∈ns,M≤b:=fun b hb=>by
    rw [hns] at hb
    refine q0a (mem_getD hb) ?_;intro j hj zw2;apply q1w zw2
    rw [List.length_map,Array.length_toList] at hj
    rw [← numAt_eq];exact h2 j (by omega)
  obtain ⟨g1,g2⟩:=z2i r a
  rw [hn] at m1 m2
  have:M=minI a r:=by have:=g2 _ m1;have:=m2 _ g1;omega
  rw [this]
  exact h h' t tk hk
theorem q4w {f:Str} {args:List D} {d:D} (e:builtinD σ f args=some d):∃ fv,bootBuiltins f=some fv∧f≠"__name__"∧((∃ id,fv=.builtin id)∨∃ T,fv=.type T):=by
  refine iteE e (fun h zz=>?_) fun zz e=>iteE e (fun h zz=>?_) fun zz e=>iteE e (fun h zz=>?_) fun zz e=>iteE e (fun h zz=>?_) fun zz e=>iteE e (fun h zz=>?_) fun zz e=>iteE e (fun h zz=>?_) fun zz e=>ns e
  · apply q0g h;exact ⟨.builtin "len",by decide +kernel,by decide +kernel,Or.inl ⟨_,rfl⟩⟩
  · apply q0g h;exact ⟨.builtin "ord",by decide +kernel,by decide +kernel,Or.inl ⟨_,rfl⟩⟩
  · apply q0g h;exact ⟨.builtin "chr",by decide +kernel,by decide +kernel,Or.inl ⟨_,rfl⟩⟩
  · apply q0g h;exact ⟨.type "range",by decide +kernel,by decide +kernel,Or.inr ⟨_,rfl⟩⟩
  · apply q0g h;exact ⟨.builtin "max",by decide +kernel,by decide +kernel,Or.inl ⟨_,rfl⟩⟩
  · apply q0g h;exact ⟨.builtin "min",by decide +kernel,by decide +kernel,Or.inl ⟨_,rfl⟩⟩
set_option tactic.hygienic true in
theorem j0n (st:q0k (p:=p) (w:=w) (tab:=tab) H0 s.heap V m σ) {d:D} {v:Value} {i:Int} {Q:Value→Shared→Prop} (e:lenD σ d=some i) (r:Rep p w tab s.heap V m d v) (hz:i<2 ^ 63)
    (h:∀ t tk,Q (.int i t) { s with toks:=tk }):wpAny (model p w) A (call (.builtin "len") [v]) Q E s:=by
  have lst:((listD σ d).map fun l=>(l.length:Int))=some i→wpAny (model p w) A (call (.builtin "len") [v]) Q E s:=fun e=>by
    refine q0d fun hn=>?_
    refine q0a (Option.map_eq_some_iff.mp e) ?_;intro l el zw2;rcases zw2 with rfl
    refine q1g (q3b st el r) ?_;intro a vs zw2 hl rl;rcases zw2 with rfl
    refine hn ?_
    have hn:vs.size=l.length:=Array.length_toList.symm.trans rl.length
    rw [← hn] at hz h
    exact PyProof.Rows.len_list hl hz (h _ _)
  induction d using D.casesOn<;>first | exact ns e | exact lst e | skip
  · replace e:=Option.some.inj e;subst e
    obtain ⟨t,hq95⟩:=q9b r
    apply q0g hq95
    exact PyProof.Rows.len_str (Int.not_le.mpr hz) (h _ _)
  · rename_i l;replace e:=Option.some.inj e;subst e
    refine q2x (j5g r) ?_;intro a vs zw2 zw3 ht rl;apply q0g zw2
    have hn:vs.size=l.length:=Array.length_toList.symm.trans rl.length
    rw [← hn] at hz h
    exact PyProof.Rows.len_tuple ht hz (h _ _)
theorem q7p {h:Heap} {d:D} {vs:List Value} (r:RepL p w tab h V m [d] vs):∃ v,vs=[v]∧Rep p w tab h V m d v:=by
  rcases r with ⟨v,vs',rfl,h1,h2⟩
  subst h2
  exact ⟨v,rfl,h1⟩
theorem k8m {h:Heap} {d e:D} {vs:List Value} (r:RepL p w tab h V m [d,e] vs):∃ v u,vs=[v,u]∧Rep p w tab h V m d v∧Rep p w tab h V m e u:=by
  refine q0d fun hn=>?_
  rcases r with ⟨v,vs',rfl,h1,h2⟩
  refine q0a (q7p h2) ?_;intro u zw1 h3;rcases zw1 with rfl
  refine hn ?_
  exact ⟨v,u,rfl,h1,h3⟩
theorem z2j (st:q0k (p:=p) (w:=w) (tab:=tab) H0 s.heap V m σ) {a b:Int} {t u q:Tok} {tk:Nat} :
    VP p w tab V m (.rng a b) s (.ref s.heap.objs.size) { s with heap:=s.heap.push { cls:=.type "range",data:=.fields #[.int a t,.int b u,.int 1 q] },toks:=tk }:=by
  refine ⟨q1o,?_⟩
  exact ⟨_,t,u,q,rfl,Out.fresh st (q0n _),IsRange.new ..⟩
set_option maxHeartbeats 1000000 in
theorem q6i (st:q0k (p:=p) (w:=w) (tab:=tab) H0 s.heap V m σ) (hh:A.handled=none) {f:Str} {args:List D} {d:D} {fv:Value} {vs:List Value} {Q:Value→Shared→Prop}
    (e:builtinD σ f args=some d) (hb:bootBuiltins f=some fv) (r:RepL p w tab s.heap V m args vs) (hlen:∀ i,f=Str.ofString "len"→d=.int i→i<2 ^ 63)
    (h:∀ v s',VP p w tab V m d s v s'→Q v s'):wpAny (model p w) A (call fv vs) Q E s:=by
  have nm:∀ {n:Str} {gv:Value},f=n→bootBuiltins n=some gv→fv=gv:=fun h1 h2=>Option.some.inj (hb.symm.trans (h1▸h2))
  have sc:∀ {i:Int} {t:Tok} {tk:Nat},d=.int i→Q (.int i t) { s with toks:=tk }:=fun hd=>h _ _ (hd▸VP.scalar fun zz zz zz=>q1k)
  have over:∀ {g:Int→List Int→Int} {l:List D} {vs:Array Value} {P:Prop},((intsOfD l).bind (overD g))=some d→RepL p w tab s.heap V m l vs.toList→(∀ a r,d=.int (g a r)→IntsAre vs.toList (a::r)→P)→P:=fun e rl k=>by
    refine q0a (bS e) ?_;intro l hl e
    induction l using q1h with
    | nil=>exact ns e
    | cons a r=>exact k a r (Option.some.inj e).symm (q9n hl rl)
  refine iteE e (fun h1 e=>?_) fun zz e=>iteE e (fun h1 e=>?_) fun zz e=>iteE e (fun h1 e=>?_) fun zz e=>iteE e (fun h1 e=>?_) fun zz e=>iteE e (fun h1 e=>?_) fun zz e=>iteE e (fun h1 e=>?_) fun zz e=>ns e
  · rw [nm h1 (by decide +kernel:bootBuiltins (Str.ofString "len")=some (.builtin "len"))]
    refine q0d fun hn=>?_
    refine q0a (bS e) ?_;intro a ha e
    refine q0a (Option.map_eq_some_iff.mp e) ?_;intro i hi zw2;rcases zw2 with rfl
    refine q0a (q7p (q0x ha▸r)) ?_;intro v zw1 rv;rcases zw1 with rfl
    refine hn ?_
    exact j0n st hi rv (hlen i h1 rfl) fun t tk=>sc rfl
  · rw [nm h1 (by decide +kernel:bootBuiltins (Str.ofString "ord")=some (.builtin "ord"))]
    refine q0d fun hn=>?_
    refine q0a (bS e) ?_;intro a ha e
    refine q0a (bS e) ?_;intro x hx e
    refine q0a (Option.map_eq_some_iff.mp e) ?_;intro c hc zw2;rcases zw2 with rfl
    refine q0a (q7p (q0x ha▸r)) ?_;intro v zw1 rv;rcases zw1 with rfl
    obtain ⟨t,rfl⟩:=q9b (q0x hc▸q1e hx▸rv)
    refine hn ?_
    exact P.ord_of_char (sc rfl)
  · rw [nm h1 (by decide +kernel:bootBuiltins (Str.ofString "chr")=some (.builtin "chr"))]
    refine q0a (bS e) ?_;intro a ha e
    refine q0a (bS e) ?_;intro i hi e
    obtain ⟨hz,e⟩:=ifS e
    replace e:=Option.some.inj e;subst e
    simp only [Bool.and_eq_true,decide_eq_true_eq] at hz
    refine q0a (q7p (q0x ha▸r)) ?_;intro v zw1 rv;apply q0g zw1
    obtain ⟨t,hq82⟩:=q6h (q0v hi▸rv)
    apply q0g hq82
    exact P.chr_of_int (by rw [decide_eq_false (by omega),decide_eq_false (by omega)];rfl) (h _ _ (VP.scalar fun zz zz zz=>q2w (x:=[i.toNat])))
  · rw [nm h1 (by decide +kernel:bootBuiltins (Str.ofString "range")=some (.type "range"))]
    induction args using q1h with
    | nil=>exact ns e
    | cons a args=>
      obtain ⟨i,hi,e⟩:=bS e
      induction args using q1h with
      | nil=>
        obtain ⟨hs,e⟩:=ifS e
        replace e:=Option.some.inj e;subst e
        refine q0a (q7p r) ?_;intro v zw1 rv;apply q0g zw1
        obtain ⟨t,hq27⟩:=q6h (q0v hi▸rv)
        apply q0g hq27
        exact call_range_1 (h _ _ (z2j st))
      | cons b args=>
        induction args using q1h with
        | cons _ _=>exact ns e
        | nil=>
          refine q0a (bS e) ?_;intro k hk e
          obtain ⟨hs,e⟩:=ifS e
          replace e:=Option.some.inj e;subst e
          refine q1g (k8m r) ?_;intro v u zw2 rv ru;rcases zw2 with rfl
          obtain ⟨t,rfl⟩:=q6h (q0v hi▸rv)
          obtain ⟨t',hq33⟩:=q6h (q0v hk▸ru)
          apply q0g hq33
          exact call_range_2 (h _ _ (z2j st))
  · rw [nm h1 (by decide +kernel:bootBuiltins (Str.ofString "max")=some (.builtin "max"))]
    induction args using q1h with
    | nil=>exact ns e
    | cons a args=>
      induction args using q1h with
      | nil=>
        induction a using D.casesOn<;>first | exact ns e | skip
        refine q0a (q7p r) ?_;intro v zw1 rv;apply q0g zw1
        refine q1g (q1y rv) ?_;intro x xs zw2 hL rl;apply q0g zw2
        exact over e rl fun a r hd hi=>j5m hh hL hi rfl fun h' t tk hk=>h _ _ ⟨Step.of_keep hk,hd▸q1k⟩
      | cons b args=>
        induction args using q1h with
        | cons _ _=>exact ns e
        | nil=>
          obtain ⟨i,hi,e⟩:=bS e
          refine q0a (Option.map_eq_some_iff.mp e) ?_;intro k hk zw2;rcases zw2 with rfl
          refine q1g (k8m r) ?_;intro v u zw2 rv ru;rcases zw2 with rfl
          obtain ⟨t,rfl⟩:=q6h (q0v hi▸rv)
          obtain ⟨t',hq35⟩:=q6h (q0v hk▸ru)
          apply q0g hq35
          refine max_two_ints hh fun h' tk hk=>h _ _ ⟨Step.of_keep hk,?_⟩
          split<;>exact q1k
  · rw [nm h1 (by decide +kernel:bootBuiltins (Str.ofString "min")=some (.builtin "min"))]
    refine q0a (bS e) ?_;intro a ha e
    refine q0a (bS e) ?_;intro l el e
    refine q0a (q7p (q0x ha▸r)) ?_;intro v zw1 rv;apply q0g zw1
    refine q1g (q3b st el rv) ?_;intro x xs zw2 hL rl;apply q0g zw2
    exact over e rl fun a r hd hi=>j5n hh hL hi rfl fun h' t tk hk=>h _ _ ⟨Step.of_keep hk,hd▸q1k⟩
end
section
variable {p:Program} {w:World} {tab:List (Str × Int)} {A:Around} {E:Value→Shared→Prop} {s:Shared} {H0:Heap} {V:Addr→Prop} {m:List Addr} {σ:Sto}
noncomputable def methId (o:D) (f:Str):Option (String × String):=
  match o with
  | .str _=>if f=Str.ofString "split" then some ("str","str.split") else if f=Str.ofString "join" then some ("str","str.join") else Option.none
  | .loc _=>if f=Str.ofString "append" then some ("list","list.append") else if f=Str.ofString "pop" then some ("list","list.pop") else Option.none
  | _=>Option.none
inductive k8n:D→Str→String × String→Prop
  | split (x:List Nat):k8n (.str x) (Str.ofString "split") ("str","str.split")
  | join (x:List Nat):k8n (.str x) (Str.ofString "join") ("str","str.join")
  | append (k:Nat):k8n (.loc k) (Str.ofString "append") ("list","list.append")
  | pop (k:Nat):k8n (.loc k) (Str.ofString "pop") ("list","list.pop")
theorem k2a {o:D} {f:Str} {id:String × String} (h:methId o f=some id):k8n o f id:=by
  induction o using D.casesOn<;>first | exact ns h | skip
  · exact iteE h (fun h1 h=>h1▸Option.some.inj h▸.split _) fun zz h=>iteE h (fun h1 h=>h1▸Option.some.inj h▸.join _) fun zz h=>ns h
  · exact iteE h (fun h1 h=>h1▸Option.some.inj h▸.append _) fun zz h=>iteE h (fun h1 h=>h1▸Option.some.inj h▸.pop _) fun zz h=>ns h
theorem z7y {o:D} {f:Str} {args:List D} {d:D} (e:methodD σ o f args=some d):(methId o f).isSome=true∧∀ k,o≠.loc k:=by
  refine iteE e (fun h1 e=>?_) fun zz e=>iteE e (fun h1 e=>?_) fun zz e=>ns e
  all_goals
    refine q0a (bS e) ?_;intro x hx zw2
    rw [q1e hx,h1]
    exact ⟨rfl,fun zz h=>nomatch h⟩
theorem j5o {o:D} {f:Str} {args:List D} {r:D × Sto} (e:turnD σ o f args=some r):(methId o f).isSome=true∧∃ k l,o=.loc k∧σ[k]?=some l:=by
  induction o using D.casesOn<;>first | exact ns e | skip
  refine q0d fun hn=>?_
  obtain ⟨l,hl,e⟩:=bS e
  obtain ⟨_,e⟩:=ifS e
  refine hn ?_
  refine ⟨iteE e (fun h1 zz=>?_) fun zz e=>iteE e (fun h1 zz=>?_) fun zz e=>ns e,_,l,rfl,hl⟩
  all_goals rw [h1];rfl
theorem j0o {o:D} {f:Str} {id:String × String} {v:Value} {pos:Pos} {trees:List (Bool × Sem Value)} {Q:Value→Shared→Prop} (hi:methId o f=some id) (r:Rep p w tab s.heap V m o v)
    (hloc:∀ k,o=.loc k→∃ a vs,v=.ref a∧s.heap.PlainList a vs)
    (h:wpAny (model p w) A (callWith pos (.builtin id.2) [v] trees []) Q E s):MethodOn p w A f pos v trees Q E s:=by
  have str:∀ {x:List Nat},o=.str x→∃ t,v=.str ⟨x.toArray⟩ t:=fun e=>q9b (e▸r)
  cases k2a hi with
  | split x=>
    obtain ⟨t,rfl⟩:=str rfl
    exact ⟨"str","str.split",PySem.F.plainAttrs_str,PySem.F.slot_str_split,PySem.F.type_str_split,typeIs_str s _ t,fun a e=>(nomatch e),h⟩
  | join x=>
    obtain ⟨t,rfl⟩:=str rfl
    exact ⟨"str","str.join",PySem.F.plainAttrs_str,PySem.F.slot_str_join,PySem.F.type_str_join,typeIs_str s _ t,fun a e=>(nomatch e),h⟩
  | append k=>
    apply q0d;intro hG;rcases hloc _ rfl with ⟨a,vs,rfl,n,hl⟩;apply hG;clear hG
    exact ⟨"list","list.append",PySem.F.plainAttrs_list,PySem.F.slot_list_append,PySem.F.type_list_append,⟨_,hl,rfl⟩,fun b e=>by cases e;exact ⟨_,hl,rfl⟩,h⟩
  | pop k=>
    apply q0d;intro hG;rcases hloc _ rfl with ⟨a,vs,rfl,n,hl⟩;apply hG;clear hG
    exact ⟨"list","list.pop",PySem.F.plainAttrs_list,PySem.F.slot_list_pop,PySem.F.type_list_pop,⟨_,hl,rfl⟩,fun b e=>by cases e;exact ⟨_,hl,rfl⟩,h⟩
theorem z2k:∀ (l:List (List Nat)) (acc:Array Nat),(l.map fun x=>(⟨x.toArray⟩:Str)).foldl (fun acc q=>acc++(Str.mk #[]).cps++q.cps) acc=(acc.toList++l.flatten).toArray
  | [],acc=>by simp
  | x::l,acc=>by
    simp only [List.map_cons,List.foldl_cons]
    rw [z2k l]
    simp
theorem j5p (l:List (List Nat)):Txt.join ⟨#[]⟩ (l.map fun x=>⟨x.toArray⟩)=⟨l.flatten.toArray⟩:=by
  unfold Txt.join glued
  induction l using q1h with
  | nil=>rfl
  | cons x l=>
    simp only [List.map_cons,List.drop_one,List.tail_cons,List.headD_cons]
    rw [z2k]
    rfl
theorem q4x {h:Heap}:∀ {l:List (Str × Tok)},RepL p w tab h V m ((l.map (·.1)).map fun y=>D.str y.cps.toList) (strValues l)
  | []=>RepL.nil
  | (y,t)::l=>RepL.cons (q2w (x:=y.cps.toList)) q4x
theorem z4o (st:q0k (p:=p) (w:=w) (tab:=tab) H0 s.heap V m σ) {o:D} {f:Str} {id:String × String} {args:List D} {d:D} {v:Value} {vs:List Value} {Q:Value→Shared→Prop}
    (e0:methodD σ o f args=some d) (hi:methId o f=some id) (r:Rep p w tab s.heap V m o v) (ra:RepL p w tab s.heap V m args vs)
    (h:∀ v s',VP p w tab V m d s v s'→Q v s'):wpAny (model p w) A (call (.builtin id.2) (v::vs)) Q E s:=by
  have hL:LIM=65536:=by decide
  refine iteE e0 (fun h1 e=>?_) fun zz e=>iteE e (fun h1 e=>?_) fun zz e=>ns e
  · subst h1
    refine q0a (bS e) ?_;intro x hx e
    rw [q1e hx] at hi r
    refine q0a (bS e) ?_;intro da ha e
    refine q0a (bS e) ?_;intro y hy e
    refine q0a (bS e) ?_;intro c hc e
    obtain ⟨hle,e⟩:=ifS e
    replace e:=Option.some.inj e;subst e
    apply q0w hi
    simp only [Bool.and_eq_true,decide_eq_true_eq,Bool.not_eq_true'] at hle
    obtain ⟨⟨z1,z2⟩,z3⟩:=hle
    obtain ⟨t,hq56⟩:=q9b r
    apply q0g hq56
    refine q0a (q7p (q0x ha▸ra)) ?_;intro u zw1 ru;apply q0g zw1
    obtain ⟨t',hq78⟩:=q9b (q0x hc▸q1e hy▸ru)
    apply q0g hq78
    have hx:(Str.mk x.toArray).length=x.length:=by show x.toArray.size=_;rfl
    have hsl:sizeLine=2 ^ 24:=rfl
    refine call_meets PySem.F.slot_str_split (typeIs_str _ _ _) PySem.F.entry_str_split (PySem.F.args_str_split_2 _ _) (meets_str_split_sep (Str.mk x.toArray) ⟨#[c]⟩ t t' z2 rfl z3 (by exact Nat.le_trans (by assumption) (Nat.le_of_ble_eq_true rfl)) ?_) ?_
    · have:=PySem.StrLaws.occ_length_le (Str.mk x.toArray) ⟨#[c]⟩ 0 (Str.mk x.toArray).length ((Str.mk x.toArray).length+1)
      unfold partsBetween
      simp only [List.length_map,List.length_zip,List.length_cons,List.length_append,List.length_nil]
      omega
    · rw [strsFrom_eq]
      have hi':=q4x (p:=p) (w:=w) (tab:=tab) (V:=V) (m:=m) (h:=s.heap) (l:=numbered s.toks (partsBetween (Str.mk x.toArray) (occurrences (Str.mk x.toArray) ⟨#[c]⟩ 0 (Str.mk x.toArray).length ((Str.mk x.toArray).length+1)) 1))
      rw [numbered_texts] at hi'
      exact h _ _ (VP.newList (vs:=(strValues (numbered s.toks (partsBetween (Str.mk x.toArray) (occurrences (Str.mk x.toArray) ⟨#[c]⟩ 0 (Str.mk x.toArray).length ((Str.mk x.toArray).length+1)) 1))).toArray) st (hi')).1
  · subst h1
    obtain ⟨x,hx,e⟩:=bS e
    rw [q1e hx] at hi r
    obtain ⟨h0,e⟩:=ifS e
    refine q0a (bS e) ?_;intro da ha e
    refine q0a (bS e) ?_;intro ls el e
    refine q0a (bS e) ?_;intro l hl e
    obtain ⟨hz,e⟩:=ifS e
    replace e:=Option.some.inj e;subst e
    replace hi:=Option.some.inj hi;subst hi
    subst h0
    simp only [Bool.and_eq_true,decide_eq_true_eq] at hz
    obtain ⟨t,hq10⟩:=q9b r
    apply q0g hq10
    refine q0a (q7p (q0x ha▸ra)) ?_;intro u zw1 ru;apply q0g zw1
    refine q1g (q3b st el ru) ?_;intro D ws zw2 hD rl;apply q0g zw2
    refine PyProof.Rows.join_list hD (q9o hl rl) ?_ fun t' k=>?_
    · have:((l.map fun x=>(⟨x.toArray⟩:Str)).map (·.length)).sum=l.flatten.length:=by
        rw [List.length_flatten,List.map_map]
        congr 1
      show _+_*0≤_
      omega
    · rw [j5p]
      exact h _ _ (VP.scalar fun zz zz zz=>q2w)
end
end Mine
open PySem PySem.W PyProof.Rows
namespace Mine
open PySem PySem.W PySem.Calls PyProof.Rows PySem.SeqAt PySem.Builtin PySem.Builtin.Str PySem.MeetsSeq
section
variable {p:Program} {w:World} {tab:List (Str × Int)} {A:Around} {E:Value→Shared→Prop} {s:Shared} {H0:Heap} {V:Addr→Prop} {m:List Addr} {σ:Sto}
theorem z2l (f:Array Value→Array Value) (its:Array Value) (n:Nat):∃ n',Obj.mapSeq f { cls:=.type "list",data:=.seq its n }={ cls:=.type "list",data:=.seq (f its) n' }:=⟨_,rfl⟩
theorem q0k.turn {h h':Heap} (st:q0k (p:=p) (w:=w) (tab:=tab) H0 h V m σ) {k:Nat} {a:Addr} {l':List D} {vs':Array Value} (ha:m[k]?=some a) (hs:Heap.SameBut a h h') (hl:h'.PlainList a vs')
    (r:RepL p w tab h V m l' vs'.toList):q0k (p:=p) (w:=w) (tab:=tab) H0 h' V m (σ.set k l')∧(∀ d v,Rep p w tab h V m d v→Rep p w tab h' V m d v):=by
  have mem:a∈m:=List.mem_of_getElem? ha
  have hk:∀ b o,h.get? b=some o→Out V m b→h'.get? b=some o∧Out V m b:=fun b o e ho=>⟨(hs.2 b fun hb=>ho.2 (hb▸mem)).trans e,ho⟩
  have rep:∀ d v,Rep p w tab h V m d v→Rep p w tab h' V m d v:=fun d v r=>r.mono hk fun zz zz e=>e
  refine ⟨⟨fun b o e=>?_,fun b hb=>?_,st.mge,by rw [st.len];simp,st.nodup,st.sep,fun j b ds hj hds=>?_⟩,rep⟩
  · have:b≠a:=by rintro rfl;exact Mine.ns ((st.mge _ mem).symm.trans e)
    exact (hs.2 b this).trans (st.kept b o e)
  · obtain ⟨⟨o,e⟩,h2⟩:=st.vin b hb
    have:b≠a:=by rintro rfl;exact st.sep _ mem hb
    exact ⟨⟨o,(hs.2 b this).trans e⟩,h2⟩
  · by_cases hjk:j=k
    · subst hjk
      rw [ha] at hj;apply q0w hj
      have:j<σ.length:=by rw [← st.len];exact (List.getElem?_eq_some_iff.mp ha).1
      rw [List.getElem?_set_self this] at hds
      apply q0w hds
      exact ⟨vs',hl,r.mono hk fun zz zz e=>e⟩
    · rw [List.getElem?_set_ne (Ne.symm hjk)] at hds
      refine q0a (st.cell j b ds hj hds) ?_;intro vs zw1 h2;rcases zw1 with ⟨n,h1⟩
      have:b≠a:=by
        rintro rfl
        obtain ⟨q1,q2⟩:=List.getElem?_eq_some_iff.mp hj
        obtain ⟨q3,q4⟩:=List.getElem?_eq_some_iff.mp ha
        have hp:=List.pairwise_iff_getElem.mp st.nodup
        rcases Nat.lt_or_gt_of_ne hjk with hlt | hlt
        · exact hp j k q1 q3 hlt (q2.trans q4.symm)
        · exact hp k j q3 q1 hlt (q4.trans q2.symm)
      exact ⟨vs,⟨n,(hs.2 b this).trans h1⟩,h2.mono hk fun zz zz e=>e⟩
theorem z2m {a:Addr} {h':Heap} {tk:Nat} {vs:Array Value} (mem:a∈m) (hs:Heap.SameBut a s.heap h') (hl:h'.PlainList a vs):Step (fun b=>b∈m) s { s with heap:=h',toks:=tk }:=by
  refine ⟨fun b o e ho=>(hs.2 b fun hb=>ho (hb▸mem)).trans e,fun b o e=>?_,rfl,rfl,fun zz zz e=>e,fun h=>h⟩
  by_cases hb:b=a
  · apply q0g hb;obtain ⟨n,e⟩:=hl;exact ⟨_,e⟩
  · exact ⟨o,(hs.2 b hb).trans e⟩
theorem RepL.eraseIdx {h:Heap}:∀ (i:Nat) {ds:List D} {vs:List Value},RepL p w tab h V m ds vs→RepL p w tab h V m (ds.eraseIdx i) (vs.eraseIdx i)
  | _,[],vs,r=>by subst r;rfl
  | 0,d::ds,vs,r=>by
    apply q0d;intro hG;rcases r with ⟨v,ws,rfl,h1,h2⟩;apply hG;clear hG
    exact h2
  | i+1,d::ds,vs,r=>by
    apply q0d;intro hG;rcases r with ⟨v,ws,rfl,h1,h2⟩;apply hG;clear hG
    exact RepL.cons h1 (RepL.eraseIdx i h2)
theorem j0p (st:q0k (p:=p) (w:=w) (tab:=tab) H0 s.heap V m σ) {k i:Nat} {l:List D} {d:D} {a:Addr} {vs:Array Value} {n:Nat} {Q:Value→Shared→Prop} (ha:m[k]?=some a)
    (hl:s.heap.get? a=some { cls:=.type "list",data:=.seq vs n }) (rl:RepL p w tab s.heap V m l vs.toList) (hd:l[i]?=some d)
    (h:∀ v' s',q0k (p:=p) (w:=w) (tab:=tab) H0 s'.heap V m (σ.set k (l.eraseIdx i))→Step (fun b=>b∈m) s s'→Rep p w tab s'.heap V m d v'→Q v' s') :
    ∃ v',vs[i]?=some v'∧Q v' { s with heap:=s.heap.update a (Obj.mapSeq fun xs=>xs.eraseIdxIfInBounds i) }:=by
  refine q0a (rl.get hd) ?_;intro v' hv rv
  refine ⟨v',by simpa using hv,?_⟩
  have hi:i<vs.size:=by
    have:=(List.getElem?_eq_some_iff.mp hv).1;exact this
  obtain ⟨n',hn'⟩:=z2l (fun xs=>xs.eraseIdxIfInBounds i) vs n
  have hP:(s.heap.update a (Obj.mapSeq fun xs=>xs.eraseIdxIfInBounds i)).PlainList a (vs.eraseIdxIfInBounds i):=⟨n',by rw [Heap.get?_update_self _ hl (by rfl),hn']⟩
  have hS:Heap.SameBut a s.heap (s.heap.update a (Obj.mapSeq fun xs=>xs.eraseIdxIfInBounds i)):=Heap.SameBut.update ..
  have hr:RepL p w tab s.heap V m (l.eraseIdx i) (vs.eraseIdxIfInBounds i).toList:=by
    have:(vs.eraseIdxIfInBounds i).toList=vs.toList.eraseIdx i:=by simp [Array.eraseIdxIfInBounds,hi]
    rw [this];exact rl.eraseIdx i
  obtain ⟨q1,q2⟩:=st.turn ha hS hP hr
  exact h v' _ q1 (z2m (List.mem_of_getElem? ha) hS hP) (q2 _ _ rv)
set_option tactic.hygienic true in
set_option maxHeartbeats 1000000 in
theorem j0q (st:q0k (p:=p) (w:=w) (tab:=tab) H0 s.heap V m σ) {o:D} {f:Str} {id:String × String} {args:List D} {d:D} {σ':Sto} {v:Value} {vs:List Value} {Q:Value→Shared→Prop}
    (e:turnD σ o f args=some (d,σ')) (hi:methId o f=some id) (r:Rep p w tab s.heap V m o v) (ra:RepL p w tab s.heap V m args vs)
    (h:∀ v' s',q0k (p:=p) (w:=w) (tab:=tab) H0 s'.heap V m σ'→Step (fun b=>b∈m) s s'→Rep p w tab s'.heap V m d v'→Q v' s'):wpAny (model p w) A (call (.builtin id.2) (v::vs)) Q E s:=by
  have hL:LIM=65536:=by decide
  have hsl:sizeLine=2 ^ 24:=rfl
  induction o using D.casesOn<;>first | exact ns e | skip
  rename_i k
  obtain ⟨l,el,e⟩:=bS e
  obtain ⟨hz,e⟩:=ifS e
  obtain ⟨a,ha,rfl⟩:=r
  have mem:a∈m:=List.mem_of_getElem? ha
  refine q0a (st.cell k a l ha el) ?_;intro ws hP rl
  have hn:ws.size=l.length:=Array.length_toList.symm.trans rl.length
  refine iteE e (fun h1 e=>?_) fun zz e=>iteE e (fun h1 e=>?_) fun zz e=>ns e
  · subst h1
    obtain ⟨d',hd',heq⟩:=Option.map_eq_some_iff.mp e
    cases heq
    apply q0w hi
    refine q0a (q7p (q0x hd'▸ra)) ?_;intro u zw1 ru;apply q0g zw1
    refine wpAny_list_append_plain hP (fun h' hP' hS=>?_) (by omega)
    obtain ⟨q1,q2⟩:=st.turn (l':=l++[d']) ha hS hP' (by simpa using rl.append (RepL.single ru))
    exact h _ _ q1 (z2m mem hS hP') q4s
  · subst h1
    obtain ⟨n,hP⟩:=hP
    induction args using q1h with
    | nil=>
      obtain ⟨d',hd,heq⟩:=Option.map_eq_some_iff.mp e
      cases heq
      apply q0w hi
      subst ra
      have hd':l[ws.size - 1]?=some d:=by rw [hn,← List.getLast?_eq_getElem?];exact hd
      have hdl:l.dropLast=l.eraseIdx (ws.size - 1):=by rw [hn,List.eraseIdx_length_sub_one]
      rw [hdl] at h
      refine q0a (j0p st ha hP rl hd' h) ?_;intro v' hv' hq
      exact call_meets PySem.F.slot_list_pop ⟨_,hP,rfl⟩ PySem.F.entry_list_pop (PySem.F.args_list_pop_1 _) (list_pop_last a ws n v' hv' (by omega)) ⟨hP,hq⟩
    | cons i args=>
      induction args using q1h with
      | cons _ _=>exact ns e
      | nil=>
        obtain ⟨i',hi',e⟩:=bS e
        obtain ⟨h0,e⟩:=ifS e
        refine q0a (Option.map_eq_some_iff.mp e) ?_;intro d' hd heq
        cases heq
        replace hi:=Option.some.inj hi;subst hi
        refine q0a (q7p ra) ?_;intro u zw1 ru;apply q0g zw1
        obtain ⟨t,hq51⟩:=q6h (q0v hi'▸ru)
        apply q0g hq51
        refine q0a (j0p st ha hP rl hd h) ?_;intro v' hv' hq
        have hlt:=(List.getElem?_eq_some_iff.mp hd).1
        have hsi:seqIndex? i' ws.size=some i'.toNat:=by
          unfold seqIndex?
          simp only [show ¬ i'<0 by omega,if_false]
          rw [if_pos (by simp;omega)]
        exact call_meets PySem.F.slot_list_pop ⟨_,hP,rfl⟩ PySem.F.entry_list_pop (PySem.F.args_list_pop_2 _ _) (list_pop_at a ws n i' t i'.toNat v' (by unfold Builtin.List.listFitsIndex;simp;omega) hsi hv' (by omega)) ⟨hP,hq⟩
end
end Mine
open PySem PySem.W PyProof.Rows
namespace Mine
open PySem PySem.W PySem.Calls PyProof.Rows PySem.SeqAt
structure q1d (n:Nat) (A:Around):Prop where
  calm:A.handled=none
  depth:A.depth+n≤900
  units:A.units+4*n≤9000
theorem q1d.less {n:Nat} {A:Around} (r:q1d (n+1) A):q1d n A:=⟨r.calm,by have:=r.depth;exact Nat.le_of_lt (by assumption),by have:=r.units;omega⟩
theorem q1d.in1 {n:Nat} {A:Around} (r:q1d (n+1) A):q1d n A.in1:=⟨r.calm,r.less.depth,by have:=r.units;show A.units+1+_≤_;omega⟩
theorem q1d.line {n:Nat} {A:Around} (r:q1d n A):A.units+resFuel+1<cLine:=by have:=r.units;show A.units+6+1<9900;omega
structure q1m (env:Env) (c:Cx) (V:Addr→Prop):Prop where
  kind:env.scope.kind=.function
  glob:env.globals=mainGlobals
  bui:env.builtins=builtinsNs
  hglob:∀ x,isGlobal c.sc x=true→env.kindOf x=some .globalImplicit
  hloc:∀ x,c.sc.names.lookup x=some .local→env.kindOf x=some .local
  hcell:∀ x,c.sc.names.lookup x=some .cell∨c.sc.names.lookup x=some .free→env.kindOf x=some .cell∧∃ a,env.cells.lookup x=some a
  nodbg:env.kindOf "__debug__"=none
  own:V env.locals
  cellsV:∀ x a,env.cells.lookup x=some a→V a
  apart:∀ x y a,env.cells.lookup x=some a→env.cells.lookup y=some a→x=y
noncomputable def Stored (env:Env) (h:Heap) (x:Str) (v:Value):Prop:=
  (env.kindOf x=some .local∧∃ f,h.Ns env.locals f∧f x=some v)∨(env.kindOf x=some .cell∧∃ a,env.cells.lookup x=some a∧h.IsCell a (some v))
section
variable (p:Program) (w:World) (tab:List (Str × Int))
structure q0i (env:Env) (h:Heap) (V:Addr→Prop) (m:List Addr) (L:Loc):Prop where
  ns:∃ f,h.Ns env.locals f
  cells:∀ x a,env.cells.lookup x=some a→∃ o,h.IsCell a o
  vars:∀ x d,Loc.find x L=some d→∃ v,Stored env h x v∧Rep p w tab h V m d v
structure Mv (eff:Bool) (m n:List Addr) (s s':Shared):Prop where
  fresh:∀ a∈n,s.heap.get? a=none
  still:eff=false→n=[]
  step:Step (fun a=>eff=true∧a∈m) s s'
noncomputable def more (V:Addr→Prop) (a:Addr):Addr→Prop:=fun b=>V b∨b=a
structure k2b (H0:Heap) (V:Addr→Prop) (m:List Addr) (σ:Sto) (s:Shared) (l:List D) (v:Value) (s':Shared) (a:Addr) (vs:Array Value):Prop where
  val:v=.ref a
  new:s.heap.get? a=none
  nv:¬ V a
  obj:s'.heap.PlainList a vs
  rep:RepL p w tab s'.heap (more V a) m l vs.toList
  st:q0k (p:=p) (w:=w) (tab:=tab) H0 s'.heap (more V a) m σ
structure EPn (H0:Heap) (fr eff:Bool) (V:Addr→Prop) (m:List Addr) (σ σ':Sto) (d:D) (s:Shared) (v:Value) (s':Shared) (n:List Addr):Prop where
  mv:Mv eff m n s s'
  sto:eff=false→σ'=σ
  st:q0k (p:=p) (w:=w) (tab:=tab) H0 s'.heap V (m++n) σ'
  rep:Rep p w tab s'.heap V (m++n) d v
  fr:fr=true→∀ l,d=.list l→∃ a vs,k2b p w tab H0 V (m++n) σ' s l v s' a vs
noncomputable def EP (H0:Heap) (fr eff:Bool) (V:Addr→Prop) (m:List Addr) (σ σ':Sto) (d:D) (s:Shared) (v:Value) (s':Shared):Prop:=∃ n,EPn p w tab H0 fr eff V m σ σ' d s v s' n
end
section
variable {p:Program} {w:World} {tab:List (Str × Int)} {A:Around} {s s':Shared} {H0:Heap} {V:Addr→Prop} {m n:List Addr} {σ σ':Sto} {eff:Bool}
theorem q0k.here {h:Heap} (st:q0k (p:=p) (w:=w) (tab:=tab) H0 h V m σ) {a:Addr} (ha:a∈m):∃ o,h.get? a=some o:=by
  refine q0d fun hn=>?_
  obtain ⟨j,hj,e⟩:=List.getElem_of_mem ha
  have e':m[j]?=some a:=(List.getElem?_eq_getElem hj).trans (congrArg some e)
  refine q0a (st.cell j a _ e' (List.getElem?_eq_getElem (st.len▸hj))) ?_;intro vs hl zw2
  obtain ⟨n,hl⟩:=hl
  refine hn ?_
  exact ⟨_,hl⟩
theorem q0k.to {h h':Heap} {V':Addr→Prop} (st:q0k (p:=p) (w:=w) (tab:=tab) H0 h V m σ) (hk:Kept H0 h') (hV:∀ b,V' b→(∃ o,h'.get? b=some o)∧H0.get? b=none)
    (keep:∀ b o,h.get? b=some o→¬ V b→h'.get? b=some o∧¬ V' b):q0k (p:=p) (w:=w) (tab:=tab) H0 h' V' m σ:=by
  refine ⟨hk,hV,st.mge,st.len,st.nodup,fun a ha hb=>(st.here ha).elim fun o e=>(keep a o e (st.sep a ha)).2 hb,fun j a ds h1 h2=>?_⟩
  refine q0a (st.cell j a ds h1 h2) ?_;intro vs hl r
  exact ⟨vs,hl.at fun o e=>(keep a o e (st.sep a (List.mem_of_getElem? h1))).1,r.mono (fun b o e ho=>⟨(keep b o e ho.1).1,(keep b o e ho.1).2,ho.2⟩) fun zz zz e=>e⟩
theorem q0k.lost (st:q0k (p:=p) (w:=w) (tab:=tab) H0 s.heap V m σ) {a:Addr} (h:s.heap.get? a=none):¬ V a:=fun hv=>(st.vin a hv).1.elim fun zz e=>ns (h.symm.trans e)
theorem Step.none {O:Addr→Prop} (x:Step O s s') {a:Addr} (h:s'.heap.get? a=none):s.heap.get? a=none:=by
  induction e:s.heap.get? a using Mine.oC with
  | none=>rfl
  | some o=>exact (x.pres a o e).elim fun zz e'=>ns (h.symm.trans e')
theorem q0i.go {env:Env} {L:Loc} {h h':Heap} {V':Addr→Prop} {m':List Addr} (lo:q0i p w tab env h V m L) (h1:∀ o,h.get? env.locals=some o→h'.get? env.locals=some o) (h2:∀ x a,env.cells.lookup x=some a→∀ o,h.get? a=some o→h'.get? a=some o)
    (out:∀ b o,h.get? b=some o→Out V m b→h'.get? b=some o∧Out V' m' b) (hm:∀ (k:Nat) a,m[k]?=some a→m'[k]?=some a):q0i p w tab env h' V' m' L:=by
  refine ⟨lo.ns.elim fun f h=>⟨f,h.at' h1⟩,fun y a ha=>(lo.cells y a ha).elim fun o h=>⟨o,h.elim fun x q=>⟨x,h2 y a ha x q.1,q.2⟩⟩,fun y d hd=>?_⟩
  refine q0a (lo.vars y d hd) ?_;intro v hs hr
  refine ⟨v,hs.imp (fun q=>⟨q.1,q.2.elim fun f q=>⟨f,q.1.at' h1,q.2⟩⟩) (fun q=>⟨q.1,q.2.elim fun a q=>⟨a,q.1,q.2.elim fun x r=>⟨x,h2 y a q.1 x r.1,r.2⟩⟩⟩),hr.mono out hm⟩
theorem Mv.refl:Mv eff m [] s s:=⟨fun zz h=>(by cases h),fun zz=>rfl,Step.refl⟩
theorem Mv.of_step (x:Step noOne s s'):Mv eff m [] s s':=⟨fun zz h=>(by cases h),fun zz=>rfl,x.mono fun zz zz zz h=>h.elim⟩
theorem Mv.out (x:Mv eff m n s s'):∀ b o,s.heap.get? b=some o→Out V m b→s'.heap.get? b=some o∧Out V (m++n) b:=fun b o e ho=>
  ⟨x.step.keep b o e fun h=>ho.2 h.2,ho.1,fun h=>by
    rcases List.mem_append.mp h with h | h
    · exact ho.2 h
    · exact Mine.ns ((x.fresh b h).symm.trans e)⟩
theorem q3f {k:Nat} {a:Addr} (h:m[k]?=some a):(m++n)[k]?=some a:=by
  rw [List.getElem?_append_left (List.getElem?_eq_some_iff.mp h).1];exact h
theorem Mv.rep (x:Mv eff m n s s') {d:D} {v:Value} (r:Rep p w tab s.heap V m d v):Rep p w tab s'.heap V (m++n) d v:=r.mono x.out fun zz zz h=>q3f h
theorem Mv.repL (x:Mv eff m n s s') {d:List D} {v:List Value} (r:RepL p w tab s.heap V m d v):RepL p w tab s'.heap V (m++n) d v:=r.mono x.out fun zz zz h=>q3f h
theorem Mv.trans {n':List Addr} {s'':Shared} (x:Mv eff m n s s') (y:Mv eff (m++n) n' s' s''):Mv eff m (n++n') s s'':=by
  refine ⟨fun a ha=>?_,fun h=>by rw [x.still h,y.still h];rfl,x.step.trans' y.step fun a o e h=>⟨h.1,?_⟩⟩
  · rcases List.mem_append.mp ha with h | h
    · exact x.fresh a h
    · exact x.step.none (y.fresh a h)
  · rcases List.mem_append.mp h.2 with h | h
    · exact h
    · exact Mine.ns ((x.fresh a h).symm.trans e)
theorem Mv.same (x:Mv eff m n s s') {b:Addr} (hb:V b) (st:q0k (p:=p) (w:=w) (tab:=tab) H0 s.heap V m σ):∀ o,s.heap.get? b=some o→s'.heap.get? b=some o:=fun o e=>
  x.step.keep b o e fun h=>st.sep b h.2 hb
theorem Mv.loc {env:Env} {c:Cx} {L:Loc} (x:Mv eff m n s s') (fo:q1m env c V) (st:q0k (p:=p) (w:=w) (tab:=tab) H0 s.heap V m σ) (lo:q0i p w tab env s.heap V m L):q0i p w tab env s'.heap V (m++n) L:=
  lo.go (x.same fo.own st) (fun y a h=>x.same (fo.cellsV y a h) st) x.out fun zz zz=>q3f
theorem EP.after {fr:Bool} {σ₁ σ₂:Sto} {d:D} {s₁ s₂:Shared} {v:Value} (x:Mv eff m n s s₁) (hs:eff=false→σ₁=σ) (y:EP p w tab H0 fr eff V (m++n) σ₁ σ₂ d s₁ v s₂):EP p w tab H0 fr eff V m σ σ₂ d s v s₂:=by
  obtain ⟨n',y⟩:=y
  refine ⟨n++n',x.trans y.mv,fun h=>(y.sto h).trans (hs h),?_,?_,fun h l hl=>?_⟩
  · rw [← List.append_assoc];exact y.st
  · rw [← List.append_assoc];exact y.rep
  · refine q3i (y.fr h l hl) ?_;intro a vs f
    refine ⟨a,vs,f.val,?_,f.nv,f.obj,?_,?_⟩
    · exact x.step.none f.new
    · rw [← List.append_assoc];exact f.rep
    · rw [← List.append_assoc];exact f.st
theorem q0k.step (st:q0k (p:=p) (w:=w) (tab:=tab) H0 s.heap V m σ) (x:Step noOne s s'):q0k (p:=p) (w:=w) (tab:=tab) H0 s'.heap V m σ:=
  st.to (fun b o e=>x.keep b o (st.kept b o e) fun h=>h) (fun b hb=>(st.vin b hb).imp (fun h=>h.elim fun o e=>⟨o,x.keep b o e fun h=>h⟩) fun h=>h) fun b o e hb=>⟨x.keep b o e fun h=>h,hb⟩
theorem q0k.moreAll {V':Addr→Prop} (st:q0k (p:=p) (w:=w) (tab:=tab) H0 s.heap V m σ) (x:Step noOne s s') (hV:∀ a,V' a→V a∨(s.heap.get? a=none∧∃ o,s'.heap.get? a=some o)):q0k (p:=p) (w:=w) (tab:=tab) H0 s'.heap V' m σ:=by
  refine st.to (fun b o e=>x.keep b o (st.kept b o e) fun h=>h) (fun b hb=>?_) fun b o e hb=>⟨x.keep b o e fun h=>h,fun h=>(hV b h).elim hb fun h=>ns (h.1.symm.trans e)⟩
  refine (hV b hb).elim (fun h=>(st.vin b h).imp (fun h=>h.elim fun o e=>⟨o,x.keep b o e fun h=>h⟩) fun h=>h) fun h=>⟨h.2,?_⟩
  induction e:H0.get? b using Mine.oC with
  | none=>rfl
  | some o=>exact ns (h.1.symm.trans (st.kept b o e))
theorem q0k.more (st:q0k (p:=p) (w:=w) (tab:=tab) H0 s.heap V m σ) (x:Step noOne s s') {a:Addr} (ha:s.heap.get? a=none) {o:Obj} (ho:s'.heap.get? a=some o):q0k (p:=p) (w:=w) (tab:=tab) H0 s'.heap (more V a) m σ:=
  st.moreAll x fun b (h:V b∨b=a)=>h.imp (fun h=>h) fun (h:b=a)=>h▸⟨ha,o,ho⟩
theorem EP.of_vp {fr:Bool} {d:D} {v:Value} (st:q0k (p:=p) (w:=w) (tab:=tab) H0 s.heap V m σ) (x:VP p w tab V m d s v s') (hf:fr=true→FreshV p w tab V m s d v s'):EP p w tab H0 fr eff V m σ σ d s v s':=by
  refine ⟨[],Mv.of_step x.step,fun zz=>rfl,?_,?_,fun h l hl=>?_⟩
  · rw [List.append_nil];exact st.step x.step
  · rw [List.append_nil];exact x.rep
  · apply q0d;intro hG;rcases hf h l hl with ⟨a,vs,h1,h2,h3,h4⟩;apply hG;clear hG
    rw [List.append_nil]
    obtain ⟨k,ho⟩:=id h3
    refine ⟨a,vs,h1,h2,fun hv=>(by obtain ⟨⟨o,e⟩,_⟩:=st.vin a hv;rw [h2] at e;exact Mine.ns e),h3,?_,st.more x.step h2 ho⟩
    exact h4.mono (fun b o e ho=>⟨x.step.keep b o e fun h=>h,(by
      rintro (h | h)
      · exact ho.1 h
      · subst h;rw [h2] at e;exact Mine.ns e),ho.2⟩) fun zz zz e=>e
theorem k2b.own {l:List D} {v:Value} {a:Addr} {vs:Array Value} (f:k2b p w tab H0 V m σ s l v s' a vs):q0k (p:=p) (w:=w) (tab:=tab) H0 s'.heap V (m++[a]) (σ++[l]):=by
  have hm:a∉m:=fun h=>f.st.sep a h (Or.inr rfl)
  have hk:∀ b o,s'.heap.get? b=some o→Out (Mine.more V a) m b→s'.heap.get? b=some o∧Out V (m++[a]) b:=fun b o e ho=>⟨e,fun h=>ho.1 (Or.inl h),fun h=>by
    rcases List.mem_append.mp h with h | h
    · exact ho.2 h
    · exact ho.1 (Or.inr (List.mem_singleton.mp h))⟩
  have va:¬ V a:=f.nv
  refine ⟨f.st.kept,fun b hb=>f.st.vin b (Or.inl hb),fun b hb=>?_,by simp [f.st.len],?_,fun b hb hv=>?_,fun k b ds h1 h2=>?_⟩
  · rcases List.mem_append.mp hb with h | h
    · exact f.st.mge b h
    · rw [List.mem_singleton.mp h];exact (f.st.vin a (Or.inr rfl)).2
  · exact List.nodup_append.mpr ⟨f.st.nodup,by simp,fun x hx y hy=>by rw [List.mem_singleton.mp hy];rintro rfl;exact hm hx⟩
  · rcases List.mem_append.mp hb with h | h
    · exact f.st.sep b h (Or.inl hv)
    · rw [List.mem_singleton.mp h] at hv;exact va hv
  · have hlen:=f.st.len
    rcases Nat.lt_or_ge k m.length with hlt | hge
    · rw [List.getElem?_append_left hlt] at h1
      rw [List.getElem?_append_left (by omega)] at h2
      refine q0a (f.st.cell k b ds h1 h2) ?_;intro ws h3 h4
      exact ⟨ws,h3,h4.mono hk fun zz zz e=>q3f e⟩
    · rw [List.getElem?_append_right hge] at h1
      rw [List.getElem?_append_right (by omega)] at h2
      have:k - m.length=0:=by
        have:=(List.getElem?_eq_some_iff.mp h1).1
        simp at this;assumption
      rw [this] at h1
      rw [show k - σ.length=0 by omega] at h2
      simp at h1 h2
      subst h1 h2
      exact ⟨vs,f.obj,f.rep.mono hk fun zz zz e=>q3f e⟩
end
noncomputable def NoE:Value→Shared→Prop:=fun zz zz=>False
noncomputable def builtinNames:List Str:=["len","ord","chr","range","max","min","set"].map Str.ofString
noncomputable def FnIn (H0:Heap) (mg:Str→Option Value) (f:Str) (fd:q9a):Prop:=
  ∃ a o c' pm doc params,mg f=some (.ref a)∧H0.get? a=some o∧o.data=.func (docDef f params fd.body fd.scope pm (.ref c') doc)∧H0.CodeRec (.ref c') f∧bareArgs params=true∧params.args.map (·.arg)=fd.params
section
variable (p:Program) (w:World) (H0:Heap) (mg mb:Str→Option Value) (G:Gl)
structure Gnd:Prop where
  main:H0.Ns mainGlobals mg
  bi:H0.Ns builtinsNs mb
  bf:∀ x:Str,x≠"__name__"→mb x=bootBuiltins x
  lim:H0.NoLimit
  nob:∀ f∈builtinNames,mg f=none
  fns:∀ f fd,G.fn f=some fd→FnIn H0 mg f fd
  prims:∀ f g,G.prim f=some g→∃ a o fd,mg f=some (.ref a)∧H0.get? a=some o∧o.data=.func fd∧
    ∀ {A s V m σ args vs d} {Q:Value→Shared→Prop},q1d 10 A→q0k (p:=p) (w:=w) (tab:=G.tab) H0 s.heap V m σ→RepL p w G.tab s.heap V m args vs→g args=some d→
      (∀ v s',VP p w G.tab V m d s v s'→Q v s')→wpAny (model p w) A (call (.ref a) vs) Q NoE s
  consts:∀ x d,G.const x=some d→∃ v,mg x=some v∧Rep p w G.tab H0 noOne [] d v
noncomputable def TP (eff:Bool) (V:Addr→Prop) (m:List Addr) (σ σ':Sto) (b:Bool) (s:Shared) (r:Bool) (s':Shared):Prop:=
  r=b∧∃ n,Mv eff m n s s'∧(eff=false→σ'=σ)∧q0k (p:=p) (w:=w) (tab:=G.tab) H0 s'.heap V (m++n) σ'
noncomputable def Own (env:Env) (c:Cx) (a:Addr):Prop:=a=env.locals∨∃ x,c.sc.names.lookup x=some .cell∧env.cells.lookup x=some a
noncomputable def flowV (h:Heap) (V:Addr→Prop) (m:List Addr):Fl→Flow→Prop
  | .next,f=>f=.next
  | .brk,f=>f=.brk
  | .cont,f=>f=.cont
  | .ret d,f=>∃ v,f=.ret v∧Rep p w G.tab h V m d v
structure SPn (env:Env) (c:Cx) (V:Addr→Prop) (m:List Addr) (σ':Sto) (L':Loc) (fl:Fl) (s:Shared) (f:Flow) (s':Shared) (n:List Addr):Prop where
  fresh:∀ a∈n,s.heap.get? a=none
  step:Step (fun a=>a∈m∨Own env c a) s s'
  st:q0k (p:=p) (w:=w) (tab:=G.tab) H0 s'.heap V (m++n) σ'
  lo:q0i p w G.tab env s'.heap V (m++n) L'
  flow:flowV p w G s'.heap V (m++n) fl f
noncomputable def SP (env:Env) (c:Cx) (V:Addr→Prop) (m:List Addr) (σ':Sto) (L':Loc) (fl:Fl) (s:Shared) (f:Flow) (s':Shared):Prop:=∃ n,SPn p w H0 G env c V m σ' L' fl s f s' n
noncomputable def listEmit (elt:Expr) (acc:Value) (env:Env):Sem Unit:=do let _ ← call (.builtin "list.append") [acc,← eval elt env]
structure Snd (n:Nat) (R:Rec):Prop where
  ev:∀ {A env c V m σ s L e d σ'},q1d n A→q1m env c V→q0k (p:=p) (w:=w) (tab:=G.tab) H0 s.heap V m σ→q0i p w G.tab env s.heap V m L→R.ev c L σ e=some (d,σ')→
    wpAny (model p w) A (eval e env) (EP p w G.tab H0 (isFresh e) c.eff V m σ σ' d s) NoE s
  ts:∀ {A env c V m σ s L e b σ'},q1d n A→q1m env c V→q0k (p:=p) (w:=w) (tab:=G.tab) H0 s.heap V m σ→q0i p w G.tab env s.heap V m L→R.ts c L σ e=some (b,σ')→
    wpAny (model p w) A (isTrue e env (eval e env)) (TP p w H0 G c.eff V m σ σ' b s) NoE s
  ex:∀ {A env c V m σ s L st fl L' σ'},q1d n A→q1m env c V→c.eff=true→q0k (p:=p) (w:=w) (tab:=G.tab) H0 s.heap V m σ→q0i p w G.tab env s.heap V m L→R.ex c L σ st=some (fl,L',σ')→
    wpAny (model p w) A (exec st env) (SP p w H0 G env c V m σ' L' fl s) NoE s
  ca:∀ {A V m σ s f fd a args vs d σ'},q1d n A→q0k (p:=p) (w:=w) (tab:=G.tab) H0 s.heap V m σ→G.fn f=some fd→mg f=some (.ref a)→RepL p w G.tab s.heap V m args vs→R.ca f args σ=some (d,σ')→
    wpAny (model p w) A (call (.ref a) vs) (fun v s'=>Step (fun b=>b∈m) s s'∧q0k (p:=p) (w:=w) (tab:=G.tab) H0 s'.heap V m σ'∧Rep p w G.tab s'.heap V m d v) NoE s
end
section
variable {p:Program} {w:World} {H0:Heap} {mg mb:Str→Option Value} {G:Gl} {R:Rec} {k:Nat}
  {A:Around} {env:Env} {c:Cx} {V:Addr→Prop} {m:List Addr} {σ σ':Sto} {s:Shared} {L:Loc} {d:D}
theorem q2c {x:Str} {pos:Pos} {v:Value} {E:Value→Shared→Prop} {Q:Value→Shared→Prop} (fo:q1m env c V) (hs:Stored env s.heap x v) (h:Q v s):wpAny (model p w) A (eval (.Name x pos) env) Q E s:=by
  have hd:(x==("__debug__":Str))=false:=by
    rw [beq_eq_false_iff_ne]
    rintro rfl
    rcases hs with ⟨h1,_⟩ | ⟨h1,_⟩<;>(exact Mine.ns ((fo.nodbg).symm.trans h1))
  rcases hs with ⟨h1,f,h2,h3⟩ | ⟨h1,a,h2,h3⟩
  · exact wpAny_Name (wpAny_loadName_local fo.kind h1 h2 h3 h) hd
  · exact wpAny_Name (wpAny_loadName_cell fo.kind h1 h2 h3 h) hd
theorem Gnd.main_at (gd:Gnd p w H0 mg mb G) (st:q0k (p:=p) (w:=w) (tab:=G.tab) H0 s.heap V m σ):s.heap.Ns mainGlobals mg:=gd.main.keeps st.kept
theorem Gnd.bi_at (gd:Gnd p w H0 mg mb G) (st:q0k (p:=p) (w:=w) (tab:=G.tab) H0 s.heap V m σ):s.heap.Ns builtinsNs mb:=gd.bi.keeps st.kept
theorem q2o {x:Str} {pos:Pos} {v:Value} {E:Value→Shared→Prop} {Q:Value→Shared→Prop} (gd:Gnd p w H0 mg mb G) (fo:q1m env c V) (st:q0k (p:=p) (w:=w) (tab:=G.tab) H0 s.heap V m σ)
    (hx:isGlobal c.sc x=true) (hv:mg x=some v) (h:Q v s):wpAny (model p w) A (eval (.Name x pos) env) Q E s:=by
  have hk:=fo.hglob x hx
  have hd:(x==("__debug__":Str))=false:=by
    rw [beq_eq_false_iff_ne]
    rintro rfl
    exact Mine.ns ((fo.nodbg).symm.trans hk)
  exact Name_function_global fo.kind hk (loadGlobal_global (mg:=mg) (by rw [fo.glob];exact gd.main_at st) hv h) hd
theorem q3n {x:Str} {pos:Pos} {v:Value} {E:Value→Shared→Prop} {Q:Value→Shared→Prop} (gd:Gnd p w H0 mg mb G) (fo:q1m env c V) (st:q0k (p:=p) (w:=w) (tab:=G.tab) H0 s.heap V m σ)
    (hx:isGlobal c.sc x=true) (hm:mg x=none) (hn:x≠"__name__") (hv:bootBuiltins x=some v) (h:Q v s):wpAny (model p w) A (eval (.Name x pos) env) Q E s:=by
  have hk:=fo.hglob x hx
  have hd:(x==("__debug__":Str))=false:=by
    rw [beq_eq_false_iff_ne]
    rintro rfl
    exact Mine.ns ((fo.nodbg).symm.trans hk)
  exact Name_function_global fo.kind hk (loadGlobal_builtin (mg:=mg) (mb:=mb) (by rw [fo.glob];exact gd.main_at st) hm (by rw [fo.bui];exact gd.bi_at st) (by rw [gd.bf x hn,hv]) h) hd
theorem z7z (st:q0k (p:=p) (w:=w) (tab:=G.tab) H0 s.heap V m σ) {v:Value} (r:Rep p w G.tab H0 noOne [] d v):Rep p w G.tab s.heap V m d v:=
  r.mono (fun b o e zz=>⟨st.kept b o e,⟨fun hv=>(by have:=(st.vin b hv).2;rw [e] at this;exact Mine.sn this),fun hm=>(by have:=st.mge b hm;rw [e] at this;exact Mine.sn this)⟩⟩) fun zz zz h=>(by exact Mine.ns h)
theorem EP.val {fr eff:Bool} {v:Value} (st:q0k (p:=p) (w:=w) (tab:=G.tab) H0 s.heap V m σ) (r:Rep p w G.tab s.heap V m d v) (hf:fr=true→∀ l,d≠.list l):EP p w G.tab H0 fr eff V m σ σ d s v s:=
  EP.of_vp st (VP.same r) fun h=>.other (hf h)
theorem z8a (gd:Gnd p w H0 mg mb G) {x:Str} {pos:Pos} (fo:q1m env c V) (st:q0k (p:=p) (w:=w) (tab:=G.tab) H0 s.heap V m σ) (lo:q0i p w G.tab env s.heap V m L)
    (e:evStep G R c L σ (.Name x pos)=some (d,σ')):wpAny (model p w) A (eval (.Name x pos) env) (EP p w G.tab H0 false c.eff V m σ σ' d s) NoE s:=by
  refine v2r e (fun zz e=>?_) fun d' hd e=>?_
  · obtain ⟨hg,e⟩:=ifS e
    refine q0a (Option.map_eq_some_iff.mp e) ?_;intro d' hd heq
    apply Mine.tq2 heq
    refine q0a (gd.consts x _ hd) ?_;intro v hv hr
    exact q2o gd fo st hg hv (EP.val st (z7z st hr) fun h=>ff h)
  · apply q6p e
    refine q0a (lo.vars x _ hd) ?_;intro v hs hr
    exact q2c fo hs (EP.val st hr fun h=>ff h)
set_option tactic.hygienic true in
theorem q9e {q:Const} {kk:Nat} {pos:Pos} (st:q0k (p:=p) (w:=w) (tab:=G.tab) H0 s.heap V m σ)
    (e:evStep G R c L σ (.Constant q kk pos)=some (d,σ')):wpAny (model p w) A (eval (.Constant q kk pos) env) (EP p w G.tab H0 false c.eff V m σ σ' d s) NoE s:=by
  dsimp only [evStep] at e
  refine q0a (Option.map_eq_some_iff.mp e) ?_;intro d' hd heq
  apply Mine.tq2 heq
  cases q<;>skip<;>try ((first | (replace hd:=Option.some.inj hd;subst hd) | exact Mine.ns hd);done)
  · apply q0w hd;exact wpAny_Constant_none (EP.val st q4s fun h=>by exact Mine.ff h)
  · apply q0w hd;exact wpAny_Constant_bool (EP.val st q3v fun h=>by exact Mine.ff h)
  · replace hd:=Option.some.inj hd;subst hd;exact wpAny_Constant_int (EP.of_vp st (VP.scalar fun zz zz zz=>q1k) fun h=>by exact Mine.ff h)
  · rename_i x
    replace hd:=Option.some.inj hd;subst hd;exact wpAny_Constant_str (EP.of_vp st (VP.scalar fun zz zz zz=>by exact ⟨s.toks,by rfl⟩) fun h=>by exact Mine.ff h)
theorem EP.weak {fr eff:Bool} {v:Value} {s':Shared} (x:EP p w G.tab H0 fr eff V m σ σ' d s v s'):EP p w G.tab H0 false eff V m σ σ' d s v s':=
  let ⟨n,y⟩:=x;⟨n,y.mv,y.sto,y.st,y.rep,fun h=>by exact Mine.ff h⟩
theorem z4p (IH:Snd p w H0 mg G k R) (rm:q1d k A) {l r:Expr} {op:Operator} {pos:Pos} (fo:q1m env c V) (st:q0k (p:=p) (w:=w) (tab:=G.tab) H0 s.heap V m σ) (lo:q0i p w G.tab env s.heap V m L)
    (e:evStep G R c L σ (.BinOp l op r pos)=some (d,σ')):wpAny (model p w) A (eval (.BinOp l op r pos) env) (EP p w G.tab H0 true c.eff V m σ σ' d s) NoE s:=by
  refine q0d fun hn=>?_
  refine q0a (Option.bind_eq_some_iff.mp e) ?_;intro zw0 ea e;rcases zw0 with ⟨da,σ1⟩
  refine q0a (Option.bind_eq_some_iff.mp e) ?_;intro zw0 eb e;rcases zw0 with ⟨db,σ2⟩
  refine q0a (Option.map_eq_some_iff.mp e) ?_;intro d0 ed heq
  refine hn ?_
  apply Mine.tq2 heq
  refine wpAny_BinOp (wpAny_mono (IH.ev rm fo st lo ea) (fun va s1 ⟨n1,x1⟩=>?_) fun zz zz h=>h)
  refine wpAny_mono (IH.ev rm fo x1.st (x1.mv.loc fo st lo) eb) (fun vb s2 ⟨n2,x2⟩=>?_) fun zz zz h=>h
  exact j0e x2.st ed (x2.mv.rep x1.rep) x2.rep fun v s3 hvp hfr=>EP.after x1.mv x1.sto (EP.after x2.mv x2.sto (EP.of_vp x2.st hvp fun zz=>hfr))
theorem z4q (IH:Snd p w H0 mg G k R) (rm:q1d k A) {op:UnaryOp} {x:Expr} {pos:Pos} (fo:q1m env c V) (st:q0k (p:=p) (w:=w) (tab:=G.tab) H0 s.heap V m σ) (lo:q0i p w G.tab env s.heap V m L)
    (e:evStep G R c L σ (.UnaryOp op x pos)=some (d,σ')):wpAny (model p w) A (eval (.UnaryOp op x pos) env) (EP p w G.tab H0 false c.eff V m σ σ' d s) NoE s:=by
  refine q0d fun hn=>?_
  obtain ⟨⟨da,σ1⟩,ea,e⟩:=Option.bind_eq_some_iff.mp e
  refine q0a (Option.map_eq_some_iff.mp e) ?_;intro d1 ed heq
  refine hn ?_
  apply Mine.tq2 heq
  refine UnaryOp_ (wpAny_mono (IH.ev rm fo st lo ea) (fun va s1 ⟨n1,x1⟩=>?_) fun zz zz h=>h)
  have r:=x1.rep
  cases op<;>first | exact ns ed | skip
  · obtain ⟨b,hb,rfl⟩:=Option.map_eq_some_iff.mp ed
    obtain hq86:=q5s hb r
    apply q0g hq86
    exact not_of (wpAny_truthy_bool (EP.after x1.mv x1.sto (EP.val x1.st q3v fun h=>ff h)))
  · obtain ⟨i,hi,hq33⟩:=Option.map_eq_some_iff.mp ed
    apply q1w hq33
    obtain ⟨t,hq85⟩:=q4t hi r
    apply q0g hq85
    exact neg_int (EP.after x1.mv x1.sto (EP.of_vp x1.st (VP.scalar fun zz zz zz=>q1k) fun h=>ff h))
theorem z4r (IH:Snd p w H0 mg G k R) (rm:q1d k A) {t a b:Expr} {pos:Pos} (fo:q1m env c V) (st:q0k (p:=p) (w:=w) (tab:=G.tab) H0 s.heap V m σ) (lo:q0i p w G.tab env s.heap V m L)
    (e:evStep G R c L σ (.IfExp t a b pos)=some (d,σ')):wpAny (model p w) A (eval (.IfExp t a b pos) env) (EP p w G.tab H0 false c.eff V m σ σ' d s) NoE s:=by
  obtain ⟨⟨bb,σ1⟩,ea,e⟩:=Option.bind_eq_some_iff.mp e
  refine wpAny_IfExp (wpAny_mono (IH.ts rm fo st lo ea) (fun r s1 hh=>?_) fun zz zz h=>h)
  apply q0d;intro hG;rcases hh with ⟨hr,n1,mv,hs,st1⟩;apply hG;clear hG
  subst hr
  have lo1:=mv.loc fo st lo
  induction r using q2i with
  | true=>exact wpAny_mono (IH.ev rm fo st1 lo1 e) (fun v s2 y=>EP.after mv hs y.weak) fun zz zz h=>h
  | false=>exact wpAny_mono (IH.ev rm fo st1 lo1 e) (fun v s2 y=>EP.after mv hs y.weak) fun zz zz h=>h
theorem q6j (IH:Snd p w H0 mg G k R) (rm:q1d k A) {l:Expr} {ops:List CmpOp} {rs:List Expr} {b:Bool} {Q:Value→Shared→Prop} {P:Prop} (fo:q1m env c V) (st:q0k (p:=p) (w:=w) (tab:=G.tab) H0 s.heap V m σ) (lo:q0i p w G.tab env s.heap V m L)
    (e:compareE G R c L σ l ops rs=some (b,σ')) (hQ:∀ n s1,Mv c.eff m n s s1→(c.eff=false→σ'=σ)→q0k (p:=p) (w:=w) (tab:=G.tab) H0 s1.heap V (m++n) σ'→∀ tk,Q (.bool b) { s1 with toks:=tk })
    (hP:∀ op r,ops=[op]→rs=[r]→notSet r=true→wpAny (model p w) A (eval l env) (fun va s1=>wpAny (model p w) A (eval r env) (fun vb s2=>wpAny (model p w) A (compareOp op va vb) Q NoE s2) NoE s1) NoE s→P):P:=by
  obtain ⟨op,ho,e⟩:=Option.bind_eq_some_iff.mp e
  refine q0a (Option.bind_eq_some_iff.mp e) ?_;intro r hr e
  obtain ⟨hns,e⟩:=ifS e
  refine q0a (Option.bind_eq_some_iff.mp e) ?_;intro zw0 ea e;rcases zw0 with ⟨da,σ1⟩
  refine q0a (Option.bind_eq_some_iff.mp e) ?_;intro zw0 eb e;rcases zw0 with ⟨db,σ2⟩
  refine q0a (Option.map_eq_some_iff.mp e) ?_;intro b0 ed heq
  cases heq
  refine hP op r (q0x ho) (q0x hr) hns (wpAny_mono (IH.ev rm fo st lo ea) (fun va s1 ⟨n1,x1⟩=>?_) fun zz zz h=>h)
  refine wpAny_mono (IH.ev rm fo x1.st (x1.mv.loc fo st lo) eb) (fun vb s2 ⟨n2,x2⟩=>?_) fun zz zz h=>h
  exact q7o x2.st rm.line ed (x2.mv.rep x1.rep) x2.rep (hQ _ s2 (x1.mv.trans x2.mv) (fun h=>(x2.sto h).trans (x1.sto h)) (List.append_assoc m n1 n2▸x2.st))
theorem z0u (IH:Snd p w H0 mg G k R) (rm:q1d k A) {l:Expr} {ops:List CmpOp} {rs:List Expr} {pos:Pos} (fo:q1m env c V) (st:q0k (p:=p) (w:=w) (tab:=G.tab) H0 s.heap V m σ) (lo:q0i p w G.tab env s.heap V m L)
    (e:evStep G R c L σ (.Compare l ops rs pos)=some (d,σ')):wpAny (model p w) A (eval (.Compare l ops rs pos) env) (EP p w G.tab H0 false c.eff V m σ σ' d s) NoE s:=by
  obtain ⟨⟨b,σ1⟩,ea,heq⟩:=Option.map_eq_some_iff.mp e
  apply Mine.tq2 heq
  refine q6j IH rm fo st lo ea (fun n s1 mv hs st1 tk=>EP.after mv hs (EP.of_vp st1 (VP.scalar fun zz zz zz=>q3v) fun h=>ff h)) fun op r ho hr hns h=>?_
  rw [ho,hr]
  exact wpAny_Compare1 h (by induction r using PySem.Expr.casesOn<;>first | rfl | exact ff hns)
theorem z2n (IH:Snd p w H0 mg G k R) (rm:q1d k A) {op:BoolOp} {pos:Pos} (fo:q1m env c V) (es:List Expr) {m:List Addr} {σ σ':Sto} {s:Shared} {d:D}
    (st:q0k (p:=p) (w:=w) (tab:=G.tab) H0 s.heap V m σ) (lo:q0i p w G.tab env s.heap V m L) (e:allV R c L op σ es=some (d,σ')) :
    wpAny (model p w) A (boolOp pos op (evalEach es env)) (EP p w G.tab H0 false c.eff V m σ σ' d s) NoE s:=by
  induction es generalizing m σ s with
  | nil=>exact ns e
  | cons x es ih=>
    induction es using q1h with
    | nil=>exact wpAny_mono (IH.ev rm fo st lo e) (fun v s2 y=>y.weak) fun zz zz h=>h
    | cons y es=>
      refine q0d fun hn=>?_
      obtain ⟨⟨da,σ1⟩,ea,e⟩:=Option.bind_eq_some_iff.mp e
      refine q0a (Option.bind_eq_some_iff.mp e) ?_;intro b hb e
      refine hn ?_
      show wpAny _ A (do
        let v ← eval x env
        standAt pos
        let t ← holding [v] (truthy v)
        match op,t with
        | .And,false | .Or,true=>pure v
        | _,_=>boolOp pos op (evalEach (y::es) env)) _ _ s
      refine wpAny_bind (wpAny_mono (IH.ev rm fo st lo ea) (fun va s1 ⟨n1,x1⟩=>wpAny_bind (wpAny_standAt (wpAny_bind (wpAny_holding ?_)))) fun zz zz h=>h)
      obtain hq5:=q5s hb x1.rep
      apply q0g hq5
      have stop:some (D.bool b,σ1)=some (d,σ')→wpAny (model p w) A (pure (Value.bool b)) (EP p w G.tab H0 false c.eff V m σ σ' d s) NoE s1:=fun e=>by
        apply q6p e;exact wpAny_pure (EP.after x1.mv x1.sto (EP.val x1.st q3v fun h=>ff h))
      have go:allV R c L op σ1 (y::es)=some (d,σ')→wpAny (model p w) A (boolOp pos op (evalEach (y::es) env)) (EP p w G.tab H0 false c.eff V m σ σ' d s) NoE s1:=fun e=>
        wpAny_mono (ih x1.st (x1.mv.loc fo st lo) e) (fun v s2 y=>EP.after x1.mv x1.sto y) fun zz zz h=>h
      refine wpAny_truthy_bool ?_
      cases op<;>(first | induction b using q2i | cases b)<;>first | exact stop e | exact go e
theorem z2o (IH:Snd p w H0 mg G k R) (rm:q1d k A) {op:BoolOp} {es:List Expr} {pos:Pos} (fo:q1m env c V) (st:q0k (p:=p) (w:=w) (tab:=G.tab) H0 s.heap V m σ) (lo:q0i p w G.tab env s.heap V m L)
    (e:evStep G R c L σ (.BoolOp op es pos)=some (d,σ')):wpAny (model p w) A (eval (.BoolOp op es pos) env) (EP p w G.tab H0 false c.eff V m σ σ' d s) NoE s:=by
  exact z2n IH rm fo es st lo e
end
section
variable {p:Program} {w:World} {H0:Heap} {mg mb:Str→Option Value} {G:Gl} {R:Rec} {k:Nat}
  {A:Around} {env:Env} {c:Cx} {V:Addr→Prop} {m:List Addr} {σ σ':Sto} {s:Shared} {L:Loc} {d:D}
noncomputable def AP (p:Program) (w:World) (H0:Heap) (G:Gl) (eff:Bool) (V:Addr→Prop) (m:List Addr) (σ σ':Sto) (ds:List D) (s:Shared) (vs:List Value) (s':Shared):Prop:=
  ∃ n,Mv eff m n s s'∧(eff=false→σ'=σ)∧q0k (p:=p) (w:=w) (tab:=G.tab) H0 s'.heap V (m++n) σ'∧RepL p w G.tab s'.heap V (m++n) ds vs
theorem q3o (IH:Snd p w H0 mg G k R) (rm:q1d k A) {pos:Pos} (fo:q1m env c V) (es:List Expr) {m:List Addr} {σ σ':Sto} {s:Shared} {ds:List D} (hp:es.all plainE=true)
    (st:q0k (p:=p) (w:=w) (tab:=G.tab) H0 s.heap V m σ) (lo:q0i p w G.tab env s.heap V m L) (e:evs R c L σ es=some (ds,σ')) :
    wpAny (model p w) A (spliced (backTo pos (starEach es env))) (AP p w H0 G c.eff V m σ σ' ds s) NoE s:=by
  induction es generalizing m σ s ds with
  | nil=>
    apply q6p e
    exact args_nil ⟨[],Mv.refl,fun zz=>rfl,(List.append_nil m).symm▸st,RepL.nil⟩
  | cons x es ih=>
    obtain ⟨⟨da,σ1⟩,ea,e⟩:=Option.bind_eq_some_iff.mp e
    refine q0a (Option.map_eq_some_iff.mp e) ?_;intro zw0 eb heq;rcases zw0 with ⟨ds',σ2⟩
    cases heq
    have hp:=Bool.and_eq_true_iff.mp hp
    refine args_cons (wpAny_mono (IH.ev rm fo st lo ea) (fun va s1 ⟨n1,x1⟩=>?_) fun zz zz h=>h) (q0t hp.1)
    refine wpAny_mono (ih hp.2 x1.st (x1.mv.loc fo st lo) eb) (fun vs s2 hh=>?_) fun zz zz h=>h
    apply q0d;intro hG;rcases hh with ⟨n2,mv2,hs2,st2,r2⟩;apply hG;clear hG
    exact ⟨n1++n2,x1.mv.trans mv2,fun h=>(hs2 h).trans (x1.sto h),List.append_assoc m n1 n2▸st2,List.append_assoc m n1 n2▸RepL.cons (mv2.rep x1.rep) r2⟩
theorem k2c {es:List Expr} {ds:List D} (e:evs R c L σ es=some (ds,σ')):ds.length=es.length:=by
  induction es generalizing σ ds with
  | nil=>apply q6p e;rfl
  | cons x es ih=>
    obtain ⟨q,_,h⟩:=Option.bind_eq_some_iff.mp e
    refine q0a (Option.map_eq_some_iff.mp h) ?_;intro zw0 h2 heq;rcases zw0 with ⟨ds',σ2⟩
    cases heq
    exact congrArg Nat.succ (ih h2)
theorem z6g (IH:Snd p w H0 mg G k R) (rm:q1d k A) {pos:Pos} {es:List Expr} {f:List D→D} {Q:List Value→Shared→Prop} (fo:q1m env c V) (st:q0k (p:=p) (w:=w) (tab:=G.tab) H0 s.heap V m σ) (lo:q0i p w G.tab env s.heap V m L)
    (e:(if lits es then (evs R c L σ es).map fun q=>(f q.1,q.2) else none)=some (d,σ')) (h:∀ ds vs s1 n,d=f ds→vs.length≤1000→Mv c.eff m n s s1→(c.eff=false→σ'=σ)→q0k (p:=p) (w:=w) (tab:=G.tab) H0 s1.heap V (m++n) σ'→RepL p w G.tab s1.heap V (m++n) ds vs→Q vs s1) :
    wpAny (model p w) A (spliced (backTo pos (starEach es env))) Q NoE s:=by
  refine q0d fun hn=>?_
  obtain ⟨hl,e⟩:=ifS e
  have hl:=Bool.and_eq_true_iff.mp hl
  refine q0a (Option.map_eq_some_iff.mp e) ?_;intro zw0 ea heq;rcases zw0 with ⟨ds,σ1⟩
  refine hn ?_
  cases heq
  refine wpAny_mono (q3o IH rm fo es hl.1 st lo ea) (fun vs s1 hh=>?_) fun zz zz h=>h
  rcases hh with ⟨n1,mv,hs,st1,r1⟩
  exact h ds vs s1 n1 rfl (r1.length▸k2c ea▸of_decide_eq_true hl.2) mv hs st1 r1
theorem k2d {l:List D} {fr:Bool} {n:List Addr} {v:Value} {s':Shared} (heff:c.eff=true) (y:EPn p w G.tab H0 true c.eff V m σ σ' (.list l) s v s' n):EP p w G.tab H0 fr c.eff V m σ (σ'++[l]) (.loc σ'.length) s v s':=by
  refine q3i (y.fr rfl l rfl) ?_;intro a vs f
  refine ⟨n++[a],⟨fun b hb=>?_,fun h=>(by rw [heff] at h;exact Mine.tf h),y.mv.step⟩,fun h=>(by rw [heff] at h;exact Mine.tf h),by rw [← List.append_assoc];exact f.own,?_,fun zz l hl=>by cases hl⟩
  · rcases List.mem_append.mp hb with h | h
    · exact y.mv.fresh b h
    · rw [List.mem_singleton.mp h];exact f.new
  · skip
    refine ⟨a,?_,f.val⟩
    rw [← y.st.len]
    simp
theorem z8b (IH:Snd p w H0 mg G k R) (rm:q1d k A) {es:List Expr} {pos:Pos} (fo:q1m env c V) (st:q0k (p:=p) (w:=w) (tab:=G.tab) H0 s.heap V m σ) (lo:q0i p w G.tab env s.heap V m L)
    (e:evStep G R c L σ (.List es pos)=some (d,σ')):wpAny (model p w) A (eval (.List es pos) env) (EP p w G.tab H0 true c.eff V m σ σ' d s) NoE s:=by
  refine List_ (z6g (f:=.list) IH rm fo st lo e fun ds vs s1 n hd hz mv hs st1 r1=>?_)
  apply q0g hd
  refine wpAny_newObj_type ?_ (Nat.le_trans hz (by decide))
  have hv:=VP.newList (n:=0) (tk:=s1.toks) (dd:=none) (sl:=#[]) (vs:=vs.toArray) (l:=ds) st1 r1
  exact EP.after mv hs (EP.of_vp st1 hv.1 fun zz=>hv.2)
theorem z4s (IH:Snd p w H0 mg G k R) (rm:q1d k A) {es:List Expr} {kk:Nat} {pos:Pos} (fo:q1m env c V) (st:q0k (p:=p) (w:=w) (tab:=G.tab) H0 s.heap V m σ) (lo:q0i p w G.tab env s.heap V m L)
    (e:evStep G R c L σ (.Tuple es kk pos)=some (d,σ')):wpAny (model p w) A (eval (.Tuple es kk pos) env) (EP p w G.tab H0 false c.eff V m σ σ' d s) NoE s:=by
  refine Tuple_ (z6g (f:=.tup) IH rm fo st lo e fun ds vs s1 n hd hz mv hs st1 r1=>?_)
  apply q0g hd
  refine wpAny_newObj_type ?_ (Nat.le_trans hz (by decide))
  exact EP.after mv hs (EP.of_vp st1 (VP.newTuple (n:=0) (tk:=s1.toks) (dd:=none) (sl:=#[]) (vs:=vs.toArray) (l:=ds) st1 r1) fun h=>ff h)
set_option tactic.hygienic true in
theorem z8c (IH:Snd p w H0 mg G k R) (rm:q1d k A) {o i:Expr} {pos:Pos} (fo:q1m env c V) (st:q0k (p:=p) (w:=w) (tab:=G.tab) H0 s.heap V m σ) (lo:q0i p w G.tab env s.heap V m L) (hi:notPlainSlice i=true)
    (e:evStep G R c L σ (.Subscript o i pos)=some (d,σ')):wpAny (model p w) A (eval (.Subscript o i pos) env) (EP p w G.tab H0 false c.eff V m σ σ' d s) NoE s:=by
  have e':itemE G R c L σ o i=some (d,σ'):=by
    induction i using PySem.Expr.casesOn<;>first | exact e | skip
    rename_i lo hi st pos
    induction st using Mine.oC
    · exact ff hi
    · exact ns e
  clear e
  refine q0d fun hn=>?_
  obtain ⟨⟨da,σ1⟩,ea,e⟩:=Option.bind_eq_some_iff.mp e'
  refine q0a (Option.bind_eq_some_iff.mp e) ?_;intro zw0 eb e;rcases zw0 with ⟨db,σ2⟩
  refine q0a (Option.map_eq_some_iff.mp e) ?_;intro d0 ed heq
  refine hn ?_
  apply Mine.tq2 heq
  refine Subscript_ (wpAny_mono (IH.ev rm fo st lo ea) (fun va s1 ⟨n1,x1⟩=>?_) fun zz zz h=>h)
  have lo1:=x1.mv.loc fo st lo
  refine wpAny_mono (IH.ev rm fo x1.st lo1 eb) (fun vb s2 ⟨n2,x2⟩=>?_) fun zz zz h=>h
  refine z7x x2.st ed (x2.mv.rep x1.rep) x2.rep hi fun v tk rv=>?_
  exact EP.after x1.mv x1.sto (EP.after x2.mv x2.sto (EP.of_vp x2.st ⟨Step.toks tk,rv⟩ fun h=>by exact Mine.ff h))
theorem q7q (IH:Snd p w H0 mg G k R) (rm:q1d k A) {oe:Option Expr} {oi:Option Int} (fo:q1m env c V) (st:q0k (p:=p) (w:=w) (tab:=G.tab) H0 s.heap V m σ) (lo:q0i p w G.tab env s.heap V m L)
    (e:evOpt R c L σ oe=some (oi,σ')):wpAny (model p w) A (evalPart oe env) (fun v s'=>k1a oi v∧∃ n,Mv c.eff m n s s'∧(c.eff=false→σ'=σ)∧q0k (p:=p) (w:=w) (tab:=G.tab) H0 s'.heap V (m++n) σ') NoE s:=by
  induction oe using Mine.oC with
  | none=>
    apply q6p e
    exact wpAny_pure ⟨.none,[],Mv.refl,fun zz=>rfl,by rw [List.append_nil];exact st⟩
  | some x=>
    refine q0d fun hn=>?_
    obtain ⟨⟨da,σ1⟩,ea,e⟩:=Option.bind_eq_some_iff.mp e
    refine q0a (Option.map_eq_some_iff.mp e) ?_;intro i hi heq
    refine hn ?_
    apply Mine.tq2 heq
    refine wpAny_mono (IH.ev rm fo st lo ea) (fun va s1 ⟨n1,x1⟩=>?_) fun zz zz h=>h
    obtain ⟨t,hq40⟩:=q4t hi x1.rep
    apply q0g hq40
    exact ⟨.int i t,n1,x1.mv,x1.sto,x1.st⟩
theorem z4t (IH:Snd p w H0 mg G k R) (rm:q1d k A) {o:Expr} {lower upper:Option Expr} {p1 pos:Pos} (fo:q1m env c V) (st:q0k (p:=p) (w:=w) (tab:=G.tab) H0 s.heap V m σ) (lo:q0i p w G.tab env s.heap V m L)
    (e:evStep G R c L σ (.Subscript o (.Slice lower upper none p1) pos)=some (d,σ')):wpAny (model p w) A (eval (.Subscript o (.Slice lower upper none p1) pos) env) (EP p w G.tab H0 false c.eff V m σ σ' d s) NoE s:=by
  refine q0d fun hn=>?_
  obtain ⟨⟨da,σ1⟩,ea,e⟩:=Option.bind_eq_some_iff.mp e
  refine q0a (Option.bind_eq_some_iff.mp e) ?_;intro zw0 el e;rcases zw0 with ⟨dl,σ2⟩
  refine q0a (Option.bind_eq_some_iff.mp e) ?_;intro zw0 eu e;rcases zw0 with ⟨du,σ3⟩
  refine q0a (Option.map_eq_some_iff.mp e) ?_;intro d0 ed heq
  refine hn ?_
  apply Mine.tq2 heq
  refine Subscript_ (wpAny_mono (IH.ev rm fo st lo ea) (fun va s1 ⟨n1,x1⟩=>?_) fun zz zz h=>h)
  have lo1:=x1.mv.loc fo st lo
  refine wpAny_Slice (wpAny_mono (q7q IH rm fo x1.st lo1 el) (fun vl s2 hh=>?_) fun zz zz h=>h)
  apply q0d;intro hG;rcases hh with ⟨hl,n2,mv2,hs2,st2⟩;apply hG;clear hG
  have lo2:=mv2.loc fo x1.st lo1
  refine wpAny_mono (q7q IH rm fo st2 lo2 eu) (fun vu s3 hh=>?_) fun zz zz h=>h
  apply q0d;intro hG;rcases hh with ⟨hu,n3,mv3,hs3,st3⟩;apply hG;clear hG
  refine wpAny_pure ?_
  have ps:Step noOne s3 { s3 with heap:=s3.heap.push { cls:=.type "slice",data:=.fields #[vl,vu,.none] } }:=Step.of_keep (tk:=s3.toks) fun b o e=>Heap.get?_push_of_some _ e
  have st4:=st3.step ps
  have r4:=z5z (V:=V) (m:=m++n1++n2++n3) ps (fun zz h=>h.elim) (mv3.rep (mv2.rep x1.rep))
  refine z4n (s:={ s3 with heap:=s3.heap.push { cls:=.type "slice",data:=.fields #[vl,vu,.none] } }) st4 ed r4 hl hu (Heap.IsSliceOf.new ..) fun v s5 hvp zz=>?_
  exact EP.after x1.mv x1.sto (EP.after mv2 hs2 (EP.after mv3 hs3 (EP.after (n:=[]) (Mv.of_step ps) (fun zz=>rfl) (by rw [List.append_nil];exact EP.of_vp st4 hvp fun h=>by exact Mine.ff h))))
theorem TP.after {eff:Bool} {n:List Addr} {σ₁ σ₂:Sto} {b r:Bool} {s₁ s₂:Shared} (x:Mv eff m n s s₁) (hs:eff=false→σ₁=σ) (y:TP p w H0 G eff V (m++n) σ₁ σ₂ b s₁ r s₂):TP p w H0 G eff V m σ σ₂ b s r s₂:=by
  apply q0d;intro hG;rcases y with ⟨e,n',mv,hs',st⟩;apply hG;clear hG
  exact ⟨e,n++n',x.trans mv,fun h=>(hs' h).trans (hs h),by rw [← List.append_assoc];exact st⟩
theorem TP.here {eff b:Bool} {tk:Nat} (st:q0k (p:=p) (w:=w) (tab:=G.tab) H0 s.heap V m σ):TP p w H0 G eff V m σ σ b s b { s with toks:=tk }:=
  ⟨rfl,[],Mv.of_step (Step.toks tk),fun zz=>rfl,by rw [List.append_nil];exact st⟩
theorem z8d (IH:Snd p w H0 mg G k R) (rm:q1d k A) {op:BoolOp} (fo:q1m env c V) (es:List Expr) {m:List Addr} {σ σ':Sto} {s:Shared} {b:Bool}
    (st:q0k (p:=p) (w:=w) (tab:=G.tab) H0 s.heap V m σ) (lo:q0i p w G.tab env s.heap V m L) (e:allT R c L op σ es=some (b,σ')) :
    wpAny (model p w) A (allTrue op es env) (TP p w H0 G c.eff V m σ σ' b s) NoE s:=by
  induction es generalizing m σ s with
  | nil=>
    apply q6p e
    exact wpAny_pure (TP.here (tk:=s.toks) st)
  | cons x es ih=>
    obtain ⟨⟨da,σ1⟩,ea,e⟩:=Option.bind_eq_some_iff.mp e
    refine wpAny_bind (wpAny_mono (IH.ts rm fo st lo ea) (fun r s1 hh=>?_) fun zz zz h=>h)
    apply q0d;intro hG;rcases hh with ⟨hr,n1,mv,hs,st1⟩;apply hG;clear hG
    subst hr
    have stop:some (r,σ1)=some (b,σ')→wpAny (model p w) A (pure r) (TP p w H0 G c.eff V m σ σ' b s) NoE s1:=fun e=>by
      apply q6p e;exact wpAny_pure (TP.after mv hs (TP.here (tk:=s1.toks) st1))
    have go:allT R c L op σ1 es=some (b,σ')→wpAny (model p w) A (allTrue op es env) (TP p w H0 G c.eff V m σ σ' b s) NoE s1:=fun e=>
      wpAny_mono (ih st1 (mv.loc fo st lo) e) (fun v s2 y=>TP.after mv hs y) fun zz zz h=>h
    cases op<;>(first | induction r using q2i | cases r)<;>first | exact stop e | exact go e
theorem z6h (IH:Snd p w H0 mg G k R) (rm:q1d k A) {x:Expr} {b:Bool} (fo:q1m env c V) (st:q0k (p:=p) (w:=w) (tab:=G.tab) H0 s.heap V m σ) (lo:q0i p w G.tab env s.heap V m L)
    (he:isTrue x env (eval x env)=(do let v ← eval x env;standAt x.pos;holding [v] (truthy v)))
    (e:boolE R c L σ x=some (b,σ')):wpAny (model p w) A (isTrue x env (eval x env)) (TP p w H0 G c.eff V m σ σ' b s) NoE s:=by
  refine q0d fun hn=>?_
  obtain ⟨⟨da,σ1⟩,ea,e⟩:=Option.bind_eq_some_iff.mp e
  refine q0a (Option.map_eq_some_iff.mp e) ?_;intro b' hb heq
  refine hn ?_
  apply Mine.tq2 heq
  refine wpAny_isTrue_value (wpAny_mono (IH.ev rm fo st lo ea) (fun va s1 ⟨n1,x1⟩=>?_) fun zz zz h=>h) he
  obtain hq75:=q5s hb x1.rep
  apply q0g hq75
  exact wpAny_truthy_bool (TP.after x1.mv x1.sto (TP.here (tk:=s1.toks) x1.st))
set_option maxHeartbeats 1000000 in
theorem j5q (IH:Snd p w H0 mg G k R) (rm:q1d k A) {x:Expr} {b:Bool} (fo:q1m env c V) (st:q0k (p:=p) (w:=w) (tab:=G.tab) H0 s.heap V m σ) (lo:q0i p w G.tab env s.heap V m L)
    (e:tsStep G R c L σ x=some (b,σ')):wpAny (model p w) A (isTrue x env (eval x env)) (TP p w H0 G c.eff V m σ σ' b s) NoE s:=by
  induction x using PySem.Expr.casesOn with
  | UnaryOp op x pos=>
    cases op with
    | Not=>
      obtain ⟨⟨r,σ1⟩,ea,heq⟩:=Option.map_eq_some_iff.mp e
      apply Mine.tq2 heq
      refine wpAny_isTrue_Not (wpAny_mono (IH.ts rm fo st lo ea) (fun r' s1 hh=>?_) fun zz zz h=>h)
      exact ⟨congrArg Bool.not hh.1,hh.2⟩
    | _=>exact z6h IH rm fo st lo rfl e
  | BoolOp op es pos=>
    exact z8d IH rm fo es st lo e
  | IfExp t a b' pos=>
    obtain ⟨⟨bb,σ1⟩,ea,e⟩:=Option.bind_eq_some_iff.mp e
    refine wpAny_bind (wpAny_mono (IH.ts rm fo st lo ea) (fun r s1 hh=>?_) fun zz zz h=>h)
    apply q0d;intro hG;rcases hh with ⟨hr,n1,mv,hs,st1⟩;apply hG;clear hG
    subst hr
    have lo1:=mv.loc fo st lo
    induction r using q2i with
    | true=>exact wpAny_mono (IH.ts rm fo st1 lo1 e) (fun v s2 y=>TP.after mv hs y) fun zz zz h=>h
    | false=>exact wpAny_mono (IH.ts rm fo st1 lo1 e) (fun v s2 y=>TP.after mv hs y) fun zz zz h=>h
  | Compare l ops rs pos=>
    refine q6j (Q:=fun v s1=>wpAny (model p w) A (truthy v) (TP p w H0 G c.eff V m σ σ' b s) NoE s1) IH rm fo st lo e (fun n s1 mv hs st1 tk=>wpAny_truthy_bool (TP.after mv hs (TP.here st1))) fun op r ho hr hns h=>?_
    rw [ho,hr]
    exact wpAny_isTrue_Compare1 h (by induction r using PySem.Expr.casesOn<;>first | rfl | exact ff hns)
  | _=>exact z6h IH rm fo st lo rfl e
end
section
variable {p:Program} {w:World} {H0:Heap} {mg mb:Str→Option Value} {G:Gl} {R:Rec} {k:Nat}
  {A:Around} {env:Env} {c:Cx} {V:Addr→Prop} {m:List Addr} {σ σ':Sto} {s:Shared} {L:Loc} {d:D}
theorem q7r {args:List Expr} {pos:Pos} (hp:args.all plainE=true) (hl:args.length<29) :
    ((backTo pos (starEach args env)).all (fun x=>!x.1)&&(backToKw pos (keywordEach [] env)).all (fun x=>x.1.isSome)
      && decide (args.length+([]:List Keyword).length+(if ([]:List Keyword).isEmpty then 0 else 1)<30))=true:=by
  have h1:(backTo pos (starEach args env)).all (fun x=>!x.1)=true:=by
    rw [List.all_eq_true]
    intro x hx
    have:=q2d (pos:=pos) (env:=env) hp
    rw [List.any_eq_false] at this
    simpa using this x hx
  rw [h1]
  have h2:(backToKw pos (keywordEach [] env)).all (fun x=>x.1.isSome)=true:=rfl
  rw [h2]
  simp
  exact Nat.le_trans (by assumption) (Nat.le_of_ble_eq_true rfl)
theorem z6i (IH:Snd p w H0 mg G k R) (rm:q1d k A) {pos:Pos} (fo:q1m env c V) {args:List Expr} {ds:List D} {id:String} {v:Value} {Q:Value→Shared→Prop} (hp:args.all plainE=true)
    (st:q0k (p:=p) (w:=w) (tab:=G.tab) H0 s.heap V m σ) (lo:q0i p w G.tab env s.heap V m L) (e:evs R c L σ args=some (ds,σ'))
    (h:∀ vs s',AP p w H0 G c.eff V m σ σ' ds s vs s'→wpAny (model p w) A (call (.builtin id) (v::vs)) Q NoE s') :
    wpAny (model p w) A (callWith pos (.builtin id) [v] (backTo pos (starEach args env)) []) Q NoE s:=by
  have base:=q3o (pos:=pos) IH rm fo args hp st lo e
  induction args using q1h with
  | nil=>
    dsimp only [evs] at e
    cases e
    exact callWith_method0 (h [] s ⟨[],Mv.refl,fun zz=>rfl,by rw [List.append_nil];exact st,RepL.nil⟩)
  | cons x es=>
    simp only [List.all_cons,Bool.and_eq_true] at hp
    refine callWith_method1 (wpAny_mono base (fun vs s' hs=>?_) fun zz zz h=>h) (q0t hp.1) (q2d hp.2)
    exact h vs s' hs
theorem z2p (IH:Snd p w H0 mg G k R) (rm:q1d k A) {o:Expr} {f:Str} {apos pos:Pos} {args:List Expr} (fo:q1m env c V) (st:q0k (p:=p) (w:=w) (tab:=G.tab) H0 s.heap V m σ) (lo:q0i p w G.tab env s.heap V m L)
    (e:methE R c L σ o f apos args pos=some (d,σ')):wpAny (model p w) A (eval (.Call (.Attribute o f apos) args [] pos) env) (EP p w G.tab H0 false c.eff V m σ σ' d s) NoE s:=by
  obtain ⟨hb,e⟩:=ifS e
  simp only [baseOk,lits,Bool.and_eq_true,decide_eq_true_eq] at hb
  obtain ⟨⟨⟨b1,b2⟩,b3,b4⟩,b5⟩:=hb
  refine q0a (Option.bind_eq_some_iff.mp e) ?_;intro zw0 ea e;rcases zw0 with ⟨dO,σ1⟩
  refine q0a (Option.bind_eq_some_iff.mp e) ?_;intro zw0 eb e;rcases zw0 with ⟨ds,σ2⟩
  have hbase:attributeBase o f env (eval o env)=eval o env:=by induction o using PySem.Expr.casesOn<;>first | rfl | exact ff b1
  refine wpAny_Call_method_late hbase (q7r b3 b5) b2 rfl (wpAny_mono (IH.ev rm fo st lo ea) (fun v s1 ⟨n1,x1⟩=>?_) fun zz zz h=>h)
  have lo1:=x1.mv.loc fo st lo
  refine v2r e (fun hm e=>?_) fun d0 hm e=>?_
  · obtain ⟨heff,e⟩:=ifS e
    refine q0d fun hn=>?_
    rcases j5o e with ⟨hid,k,l,hdo,hk⟩
    obtain ⟨id,hid⟩:=Option.isSome_iff_exists.mp hid
    refine hn ?_
    refine j0o hid x1.rep (fun k' hk'=>?_) (z6i IH rm fo b3 x1.st lo1 eb fun vs s2 ⟨n2,mv2,hs2,st2,r2⟩=>?_)
    · have r:=x1.rep
      rw [show dO=.loc k' from hk'] at r
      refine q0d fun hn=>?_
      obtain ⟨a,ha,hv⟩:=r
      refine q0a (x1.st.cell k' a _ ha (List.getElem?_eq_getElem (x1.st.len▸(List.getElem?_eq_some_iff.mp ha).1))) ?_;intro vs h1 h2
      refine hn ?_
      exact ⟨a,vs,hv,h1⟩
    · refine j0q st2 e hid (mv2.rep x1.rep) r2 fun v3 s3 st3 step3 r3=>?_
      exact EP.after x1.mv x1.sto (EP.after mv2 hs2 ⟨[],⟨fun zz h=>absurd h List.not_mem_nil,fun zz=>rfl,step3.mono fun a zz zz h=>⟨heff,h⟩⟩,fun h=>ff (h.symm.trans heff),(List.append_nil (m++_++_)).symm▸st3,(List.append_nil (m++_++_)).symm▸r3,fun h=>ff h⟩)
  · apply q6p e
    obtain ⟨hid,hnl⟩:=z7y hm
    obtain ⟨id,hid⟩:=Option.isSome_iff_exists.mp hid
    refine j0o hid x1.rep (fun k hk=>absurd hk (hnl k)) (z6i IH rm fo b3 x1.st lo1 eb fun vs s2 ⟨n2,mv2,hs2,st2,r2⟩=>?_)
    exact z4o st2 hm hid (mv2.rep x1.rep) r2 fun v3 s3 hvp=>EP.after x1.mv x1.sto (EP.after mv2 hs2 (EP.of_vp st2 hvp fun h=>ff h))
theorem q7s {h:Heap} {V':Addr→Prop} {m':List Addr}:∀ (n:Nat) {d:D} {v:Value},locFree n d=true→(∀ a,Out V m a→Out V' m' a)→Rep p w G.tab h V m d v→Rep p w G.tab h V' m' d v
  | 0,_,_,h,_,_=>by exact Mine.ff h
  | n+1,d,v,hl,ho,r=>by
    have lst:∀ {ds:List D} {vs:List Value},ds.all (locFree n)=true→RepL p w G.tab h V m ds vs→RepL p w G.tab h V' m' ds vs:=by
      intro ds
      induction ds with
      | nil=>intro vs _ r;exact r
      | cons d ds ih=>
        intro vs hl r
        simp only [List.all_cons,Bool.and_eq_true] at hl
        rcases r with ⟨v,vs',rfl,h1,h2⟩
        exact RepL.cons (q7s n hl.1 ho h1) (ih hl.2 h2)
    induction d using D.casesOn with
    | loc k=>exact Mine.ff hl
    | tup l=>
      apply q0d;intro hG;rcases r with ⟨a,vs,rfl,o,ht,hr⟩;apply hG;clear hG
      exact ⟨a,vs,rfl,ho a o,ht,lst hl hr⟩
    | list l=>
      apply q0d;intro hG;rcases r with ⟨a,vs,rfl,o,ht,hr⟩;apply hG;clear hG
      exact ⟨a,vs,rfl,ho a o,ht,lst hl hr⟩
    | rng x y=>rcases r with ⟨a,t,u,q,rfl,o,r⟩;exact ⟨a,t,u,q,rfl,ho a o,r⟩
    | etab=>rcases r with ⟨a,rfl,o,r⟩;exact ⟨a,rfl,ho a o,r⟩
    | none=>exact r
    | bool b=>exact r
    | int b=>exact r
    | str b=>exact r
theorem q3p {h:Heap} {V':Addr→Prop} {m':List Addr} {n:Nat}:∀ {ds:List D} {vs:List Value},ds.all (locFree n)=true→(∀ a,Out V m a→Out V' m' a)→RepL p w G.tab h V m ds vs→RepL p w G.tab h V' m' ds vs
  | [],vs,_,_,r=>r
  | d::ds,vs,hl,ho,r=>by
    simp only [List.all_cons,Bool.and_eq_true] at hl
    rcases r with ⟨v,vs',rfl,h1,h2⟩
    exact RepL.cons (q7s n hl.1 ho h1) (q3p hl.2 ho h2)
theorem z8e {h h':Heap} {V':Addr→Prop} {m':List Addr} {v:Value} (hd:scalarD d=true) (r:Rep p w G.tab h V m d v):Rep p w G.tab h' V' m' d v:=by
  induction d using D.casesOn<;>skip<;>first | (exact Mine.ff hd;done) | (exact r)
theorem q0k.hide (st:q0k (p:=p) (w:=w) (tab:=G.tab) H0 s.heap V m σ):q0k (p:=p) (w:=w) (tab:=G.tab) H0 s.heap (fun a=>V a∨a∈m) [] []:=
  ⟨st.kept,fun a ha=>ha.elim (st.vin a) fun h=>⟨st.here h,st.mge a h⟩,fun zz h=>absurd h List.not_mem_nil,rfl,List.nodup_nil,fun zz h=>absurd h List.not_mem_nil,fun k a ds h=>ns h⟩
theorem q0k.bare (st:q0k (p:=p) (w:=w) (tab:=G.tab) H0 s.heap V m σ):q0k (p:=p) (w:=w) (tab:=G.tab) H0 s.heap V [] []:=
  ⟨st.kept,st.vin,fun zz h=>(by cases h),rfl,List.nodup_nil,fun zz h=>(by cases h),fun k a ds h=>(by exact Mine.ns h)⟩
theorem j5r {i:Int} (h:lenOk (.int i)=true):i<2 ^ 63:=by
  cases i with
  | ofNat n=>
    have:n≤9223372036854775807:=Nat.le_of_ble_eq_true h
    show (n:Int)<2 ^ 63
    omega
  | negSucc n=>omega
theorem j0r (gd:Gnd p w H0 mg mb G) {f:Str} {es:List Expr} {x:Expr} {pf pos:Pos} {ds:List D} {Q:Value→Shared→Prop} (IH:Snd p w H0 mg G k R) (rm:q1d k A) (fo:q1m env c V) (st:q0k (p:=p) (w:=w) (tab:=G.tab) H0 s.heap V m σ) (lo:q0i p w G.tab env s.heap V m L)
    {σ1:Sto} (hg:isGlobal c.sc f=true) (hp:(x::es).all plainE=true) (ea:evs R c L σ (x::es)=some (ds,σ1)) {a:Addr} {o:Obj} {fn:FuncData} (h1:mg f=some (.ref a)) (h2:H0.get? a=some o) (h3:o.data=.func fn)
    (h:∀ n1 vs s1,Mv c.eff m n1 s s1→(c.eff=false→σ1=σ)→q0k (p:=p) (w:=w) (tab:=G.tab) H0 s1.heap V (m++n1) σ1→RepL p w G.tab s1.heap V (m++n1) ds vs→wpAny (model p w) A (call (.ref a) vs) Q NoE s1) :
    wpAny (model p w) A (eval (.Call (.Name f pf) (x::es) [] pos) env) Q NoE s:=by
  have hx:=(Bool.and_eq_true_iff.mp hp).1
  refine Call_ (q2o gd fo st hg h1 (callWith_def h3 (wpAny_mono (q3o (pos:=pos) IH rm fo (x::es) hp st lo ea) (fun vs s1 hh=>?_) fun zz zz h=>h) (q0t hx)))
  apply q0d;intro hG;rcases hh with ⟨n1,mv,hs,st1,r1⟩;apply hG;clear hG
  exact ⟨st1.kept _ _ h2,h n1 vs s1 mv hs st1 r1⟩
theorem j0s {σ:Sto} {f:Str} {args:List D} (e:builtinD σ f args=some d):f∈builtinNames:=by
  refine iteE e (fun h zz=>?_) fun zz e=>iteE e (fun h zz=>?_) fun zz e=>iteE e (fun h zz=>?_) fun zz e=>iteE e (fun h zz=>?_) fun zz e=>iteE e (fun h zz=>?_) fun zz e=>iteE e (fun h zz=>?_) fun zz e=>ns e
  all_goals rw [h];decide +kernel
theorem z8f (gd:Gnd p w H0 mg mb G) {f:Str} {x:Expr} {es:List Expr} {pf pos:Pos} {ds:List D} (IH:Snd p w H0 mg G k R) (rm:q1d k A) (hk10:10≤k) (fo:q1m env c V) (st:q0k (p:=p) (w:=w) (tab:=G.tab) H0 s.heap V m σ) (lo:q0i p w G.tab env s.heap V m L)
    {σ1:Sto} (hg:isGlobal c.sc f=true) (hp:(x::es).all plainE=true) (ea:evs R c L σ (x::es)=some (ds,σ1)) (e:callD G R σ1 f ds=some (d,σ')) :
    wpAny (model p w) A (eval (.Call (.Name f pf) (x::es) [] pos) env) (EP p w G.tab H0 false c.eff V m σ σ' d s) NoE s:=by
  refine v2r e (fun zz e=>v2r e (fun zz e=>?_) fun g hgp e=>?_) fun fd hfd e=>?_
  · refine q0a (Option.bind_eq_some_iff.mp e) ?_;intro d0 hd0 e
    obtain ⟨hlen,e⟩:=ifS e
    cases e
    refine q6e (q4w hd0) ?_;intro fv hb hn hty
    have hx:=Bool.and_eq_true_iff.mp hp
    have base:=q3o (pos:=pos) IH rm fo (x::es) hp st lo ea
    refine Call_ (q3n gd fo st hg (gd.nob f (j0s hd0)) hn hb ?_)
    have fin:∀ vs s1,AP p w H0 G c.eff V m σ σ' ds s vs s1→wpAny (model p w) A (call fv vs) (EP p w G.tab H0 false c.eff V m σ σ' d s) NoE s1:=fun vs s1 ⟨n1,mv,hs,st1,r1⟩=>
      q6i st1 rm.calm hd0 hb r1 (fun i zz hi=>j5r (hi▸hlen)) fun v s2 hvp=>EP.after mv hs (EP.of_vp st1 hvp fun h=>ff h)
    rcases hty with ⟨id,rfl⟩ | ⟨T,rfl⟩
    · exact callWith_builtin1 (wpAny_mono base fin fun zz zz h=>h) (q0t hx.1) (q2d hx.2)
    · exact callWith_type1 (wpAny_mono base fin fun zz zz h=>h) (q0t hx.1) (q2d hx.2)
  · refine q0a (Option.map_eq_some_iff.mp e) ?_;intro d0 hd0 heq
    apply Mine.tq2 heq
    refine k0v (gd.prims f g hgp) ?_;intro a o fd h1 h2 h3 h4
    exact j0r gd IH rm fo st lo hg hp ea h1 h2 h3 fun n1 vs s1 mv hs st1 r1=>h4 ⟨rm.calm,by have:=rm.depth;omega,by have:=rm.units;omega⟩ st1 r1 hd0 fun v s2 hvp=>EP.after mv hs (EP.of_vp st1 hvp fun h=>ff h)
  · apply q0d;intro hG;rcases gd.fns f fd hfd with ⟨a,o,c',pm,doc,params,h1,h2,h3,h4,h5,h6⟩;apply hG;clear hG
    refine j0r gd IH rm fo st lo hg hp ea h1 h2 h3 fun n1 vs s1 mv hs st1 r1=>?_
    refine iteE e (fun hlf e=>?_) fun zz e=>?_
    · refine q0a (Option.map_eq_some_iff.mp e) ?_;intro zw0 er heq;rcases zw0 with ⟨dr,σr⟩
      apply Mine.tq2 heq
      have r1':RepL p w G.tab s1.heap (fun a=>V a∨a∈m++n1) [] ds vs:=q3p hlf (fun a o=>⟨fun h=>h.elim o.1 o.2,List.not_mem_nil⟩) r1
      refine wpAny_mono (IH.ca rm st1.hide hfd h1 r1' er) (fun v s2 hh=>?_) fun zz zz h=>h
      exact EP.after mv hs (EP.of_vp st1 ⟨hh.1.mono fun zz zz zz h=>absurd h List.not_mem_nil,hh.2.2.mono (fun b o e ho=>⟨e,fun h=>ho.1 (Or.inl h),fun h=>ho.1 (Or.inr h)⟩) fun zz zz h=>ns h⟩ fun h=>ff h)
    · refine q0a (Option.bind_eq_some_iff.mp e) ?_;intro ds' hds e
      refine q0d fun hn=>?_
      refine q0a (Option.bind_eq_some_iff.mp e) ?_;intro zw0 er e;rcases zw0 with ⟨dr,σr⟩
      obtain ⟨hsc,e⟩:=ifS e
      refine hn ?_
      apply q6p e
      have r1':RepL p w G.tab s1.heap V [] ds' vs:=q4u (fun d d' v=>q5t st1 (fun zz x=>x) (fun zz x=>absurd x List.not_mem_nil) (fun zz zz zz zz=>List.not_mem_nil) _) hds r1
      refine wpAny_mono (IH.ca rm st1.bare hfd h1 r1' er) (fun v s2 hh=>?_) fun zz zz h=>h
      exact EP.after mv hs (EP.of_vp st1 ⟨hh.1.mono fun zz zz zz h=>absurd h List.not_mem_nil,z8e hsc hh.2.2⟩ fun h=>ff h)
end
noncomputable def itKinds:List String:=["list_iterator","tuple_iterator","range_iterator","str_ascii_iterator","str_iterator","dict_keyiterator"]
section
variable (p:Program) (w:World) (tab:List (Str × Int))
structure k8o (A:Around) (V:Addr→Prop) (m:List Addr) (s0:Shared) (ds:List D) (I:Addr) (fp:List Addr) (P:Nat→Value→Prop) (St:Nat→Heap→Prop):Prop where
  walks:Walks p w A I fp [I] ds.length P St
  pres:∀ i h,St i h→∃ o T,h.get? I=some o∧o.cls=.type T∧itKinds.contains T=true
  item:∀ i v,P i v→∃ d,ds[i]?=some d∧∀ h' V' m',(∀ b o,s0.heap.get? b=some o→Out V m b→h'.get? b=some o∧Out V' m' b)→(∀ (k:Nat) a,m[k]?=some a→m'[k]?=some a)→Rep p w tab h' V' m' d v
  fpok:∀ b∈fp,b≠I→(∃ o,s0.heap.get? b=some o)∧¬ V b
noncomputable def ItP (A:Around) (V:Addr→Prop) (m:List Addr) (ds:List D) (s:Shared) (it:Value) (s':Shared):Prop:=
  ∃ I fp P St,it=.ref I∧s.heap.get? I=none∧Step noOne s s'∧(∃ o,s'.heap.get? I=some o)∧St 0 s'.heap∧k8o p w tab A V m s ds I fp P St
end
section
variable {p:Program} {w:World} {tab:List (Str × Int)} {A:Around} {E:Value→Shared→Prop} {s:Shared} {H0:Heap} {V:Addr→Prop} {m:List Addr} {σ:Sto} {d:D}
theorem k1b {l I:Addr} {vs:Array Value} {ds:List D} {St:Nat→Heap→Prop} (W:Walks p w A I [I,l] [I] vs.size (fun i v=>vs[i]?=some v) St) (hp:∀ i h,St i h→∃ o T,h.get? I=some o∧o.cls=.type T∧itKinds.contains T=true)
    (hl:∃ o,s.heap.get? l=some o) (hV:¬ V l) (r:RepL p w tab s.heap V m ds vs.toList):k8o p w tab A V m s ds I [I,l] (fun i v=>vs[i]?=some v) St:=by
  have hz:vs.size=ds.length:=r.length
  refine ⟨hz▸W,hp,fun i v hv=>?_,fun b hb hne=>?_⟩
  · have hi:i<ds.length:=hz▸(Array.getElem?_eq_some_iff.mp hv).1
    refine q0a (r.get (List.getElem?_eq_getElem hi)) ?_;intro v' e rv
    have e2:vs.toList[i]?=some v:=(Array.getElem?_toList ..).trans hv
    have:v'=v:=Option.some.inj (e.symm.trans e2)
    exact ⟨_,List.getElem?_eq_getElem hi,fun h' V' m' hk hm=>this▸rv.mono hk hm⟩
  · rcases List.mem_cons.mp hb with hb | hb
    · exact absurd hb hne
    · rw [List.mem_singleton.mp hb];exact ⟨hl,hV⟩
theorem q7t (hh:A.handled=none) {l:Addr} {vs:Array Value} {ds:List D} (hl:s.heap.IsList l vs) (hV:¬ V l) (r:RepL p w tab s.heap V m ds vs.toList) :
    wpAny (model p w) A (pyIter (.ref l)) (ItP p w tab A V m ds s) E s:=by
  refine wpAny_pyIter_list hl ⟨s.heap.objs.size,[s.heap.objs.size,l],fun i v=>vs[i]?=some v,fun i h=>h.IsListIter s.heap.objs.size l i∧h.IsList l vs,rfl,q0n _,q1o,⟨_,Heap.get?_push_size _ rfl⟩,⟨⟨_,Heap.get?_push_size _ rfl,rfl,rfl⟩,hl.push _⟩,?_⟩
  exact k1b (Walks.list hh s.heap.objs.size l (Nat.ne_of_lt (j0a hl)) vs) (fun i h hs=>hs.1.elim fun o q=>⟨o,_,q.1,q.2.1,by decide⟩) (hl.elim fun o q=>⟨o,q.1⟩) hV r
theorem q6u (hh:A.handled=none) {l:Addr} {vs:Array Value} {ds:List D} (hl:s.heap.IsTuple l vs) (hV:¬ V l) (r:RepL p w tab s.heap V m ds vs.toList) :
    wpAny (model p w) A (pyIter (.ref l)) (ItP p w tab A V m ds s) E s:=by
  refine wpAny_pyIter_tuple hl ⟨s.heap.objs.size,[s.heap.objs.size,l],fun i v=>vs[i]?=some v,fun i h=>h.IsTupleIter s.heap.objs.size l i∧h.IsTuple l vs,rfl,q0n _,q1o,⟨_,Heap.get?_push_size _ rfl⟩,⟨⟨_,Heap.get?_push_size _ rfl,rfl,rfl⟩,hl.push _⟩,?_⟩
  exact k1b (Walks.tuple hh s.heap.objs.size l (Nat.ne_of_lt (z7u hl)) vs) (fun i h hs=>hs.1.elim fun o q=>⟨o,_,q.1,q.2.1,by decide⟩) (hl.elim fun o q=>⟨o,q.1⟩) hV r
theorem j0t (a b:Int) {i:Nat} (h:i<(b - a).toNat):(intsD a b)[i]?=some (.int (a+i)):=by
  unfold intsD
  simp [h]
theorem q6v {a:Int} (h:small a=true):-(2 ^ 62:Int)≤a∧a<2 ^ 62:=by
  have:=of_decide_eq_true h
  constructor<;>omega
theorem z6j (hh:A.handled=none) {l:Addr} {a b:Int} {t u q:Tok} (hl:IsRange s.heap l a b 1 t u q) (ha:small a=true) (hb:small b=true) :
    wpAny (model p w) A (pyIter (.ref l)) (ItP p w tab A V m (intsD a b) s) E s:=by
  refine wpAny_pyIter_range hl (small_one (q6v ha).1 (q6v ha).2 (q6v hb).1 (q6v hb).2) ?_
  have hlen:(intsD a b).length=(b - a).toNat:=by simp [intsD]
  have W:=(Walks.range (prog:=p) (w:=w) hh s.heap.objs.size a 1 (b - a).toNat).bound
  refine ⟨s.heap.objs.size,[s.heap.objs.size],_,_,rfl,q0n _,q1o,⟨_,Heap.get?_push_size _ rfl⟩,?_,⟨by rw [hlen];exact W,fun i h hs=>⟨_,_,hs,rfl,by decide⟩,fun i v hv=>?_,fun b hb hne=>absurd (List.mem_singleton.mp hb) hne⟩⟩
  · rw [rangeSize_nat]
    have e1:(a+((0:Nat):Int)*1)=a:=by simp
    show IsRangeIter _ _ (a+((0:Nat):Int)*1) ((((b - a).toNat:Nat):Int) - ((0:Nat):Int)) 1
    rw [e1]
    exact Heap.get?_push_size _ rfl
  · obtain ⟨hi,t,hq61⟩:=hv
    apply q0g hq61
    exact ⟨_,j0t a b hi,fun h' V' m' zz zz=>(Int.mul_one (i:Int)).symm▸q1k⟩
theorem k8p (hh:A.handled=none) {x:List Nat} {t:Tok} :
    wpAny (model p w) A (pyIter (.str ⟨x.toArray⟩ t)) (ItP p w tab A V m (x.map fun c=>.str [c]) s) E s:=by
  have hlen:(x.map fun c=>D.str [c]).length=(Str.mk x.toArray).cps.size:=by simp
  have item:∀ i v,SignAt ⟨x.toArray⟩ i v→∃ d,(x.map fun c=>D.str [c])[i]?=some d∧∀ h' V' m',(∀ b o,s.heap.get? b=some o→Out V m b→h'.get? b=some o∧Out V' m' b)→(∀ (k:Nat) a,m[k]?=some a→m'[k]?=some a)→Rep p w tab h' V' m' d v:=by
    rintro i v ⟨c,u,hc,hq77⟩
    apply q0g hq77
    have hc':x[i]?=some c:=by simpa using hc
    exact ⟨.str [c],by simp [hc'],fun h' V' m' zz zz=>q2w (x:=[c])⟩
  have fp:∀ b∈[s.heap.objs.size],b≠s.heap.objs.size→(∃ o,s.heap.get? b=some o)∧¬ V b:=fun b hb hne=>by
    simp only [List.mem_cons,List.not_mem_nil,or_false] at hb
    exact absurd hb hne
  cases ha:(Str.mk x.toArray).cps.all (·<128)
  · exact wpAny_pyIter_wide ha ⟨s.heap.objs.size,[s.heap.objs.size],SignAt ⟨x.toArray⟩,fun i h=>h.IsStrIter s.heap.objs.size "str_iterator" ⟨x.toArray⟩ t i,rfl,q0n _,q1o,⟨_,Heap.get?_push_size _ rfl⟩,⟨_,Heap.get?_push_size _ rfl,rfl,rfl⟩,
      by rw [hlen];exact Walks.strWide hh _ _ t,fun i h ⟨o,e,c,_⟩=>⟨o,_,e,c,by decide⟩,item,fp⟩
  · exact wpAny_pyIter_ascii ha ⟨s.heap.objs.size,[s.heap.objs.size],SignAt ⟨x.toArray⟩,fun i h=>h.IsStrIter s.heap.objs.size "str_ascii_iterator" ⟨x.toArray⟩ t i,rfl,q0n _,q1o,⟨_,Heap.get?_push_size _ rfl⟩,⟨_,Heap.get?_push_size _ rfl,rfl,rfl⟩,
      by rw [hlen];exact Walks.strAscii hh _ _ t,fun i h ⟨o,e,c,_⟩=>⟨o,_,e,c,by decide⟩,item,fp⟩
theorem j5s (hh:A.handled=none) (st:q0k (p:=p) (w:=w) (tab:=tab) H0 s.heap V m σ) {items:List D} {v:Value} (e:seqItems σ d=some items) (r:Rep p w tab s.heap V m d v) :
    wpAny (model p w) A (pyIter v) (ItP p w tab A V m items s) E s:=by
  induction d using D.casesOn<;>first | exact ns e | skip
  · replace e:=Option.some.inj e;subst e;obtain ⟨t,rfl⟩:=q9b r;exact k8p hh
  · replace e:=Option.some.inj e;subst e;refine q2x (j5g r) ?_;intro a vs zw2 o ht rl;apply q0g zw2;exact q6u hh ht o.1 rl
  · replace e:=Option.some.inj e;subst e;apply q0d;intro hG;rcases r with ⟨a,vs,rfl,o,ht,rl⟩;apply hG;clear hG;exact q7t hh ht o.1 rl
  · obtain ⟨hs,e⟩:=ifS e
    apply q0w e
    apply q0d;intro hG;rcases r with ⟨a,t,u,q,rfl,_,hr⟩;apply hG;clear hG
    exact z6j hh hr (Bool.and_eq_true_iff.mp hs).1 (Bool.and_eq_true_iff.mp hs).2
  · obtain ⟨a,ha,rfl⟩:=r
    obtain ⟨vs,hl,rl⟩:=st.cell _ a _ ha e
    exact q7t hh hl.isList (st.sep a (List.mem_of_getElem? ha)) rl
end
theorem q3q (env:Env):∀ (names:List (Str × NameKind)) (cs:List (Str × Addr)),(∀ x,(x,NameKind.free)∈names→∃ a,env.cells.lookup x=some a)→(∀ x a,cs.lookup x=some a→env.cells.lookup x=some a)→
    ∃ cl,(forIn names cs fun (x:Str × NameKind) r=>if x.2==.free then (do let a ← cellOf env x.1;pure (ForInStep.yield ((x.1,a)::r))) else pure (ForInStep.yield r):Sem (List (Str × Addr)))=pure cl∧
      (∀ x a,cl.lookup x=some a→env.cells.lookup x=some a)∧(∀ x,(x,NameKind.free)∈names∨(cs.lookup x).isSome=true→cl.lookup x=env.cells.lookup x)
  | [],cs,_,h2=>by
    refine ⟨cs,by rw [List.forIn_nil],h2,fun x hx=>?_⟩
    rcases hx with hx | hx
    · cases hx
    · obtain ⟨a,ha⟩:=Option.isSome_iff_exists.mp hx
      rw [ha,h2 x a ha]
  | (y,k)::names,cs,h1,h2=>by
    by_cases hk:k=.free
    · subst hk
      obtain ⟨a,ha⟩:=h1 y List.mem_cons_self
      refine q6e (q3q env names ((y,a)::cs) (fun x hx=>h1 x (List.mem_cons_of_mem _ hx)) (fun x b hb=>by
        rw [List.lookup_cons] at hb
        induction hxy:x==y using q2i with
        | true=>rw [hxy] at hb;apply q0w hb;rw [beq_iff_eq.mp hxy];exact ha
        | false=>rw [hxy] at hb;exact h2 x b hb)) ?_;intro cl e1 e2 e3
      refine ⟨cl,?_,e2,fun x hx=>e3 x ?_⟩
      · rw [List.forIn_cons]
        have:cellOf env y=pure a:=by unfold cellOf;rw [ha]
        rw [this]
        exact e1
      · rw [List.lookup_cons]
        induction hxy:x==y using q2i with
        | true=>exact Or.inr rfl
        | false=>
          rcases hx with hx | hx
          · rcases List.mem_cons.mp hx with h | h
            · cases h;simp at hxy
            · exact Or.inl h
          · exact Or.inr hx
    · refine q6e (q3q env names cs (fun x hx=>h1 x (List.mem_cons_of_mem _ hx)) h2) ?_;intro cl e1 e2 e3
      refine ⟨cl,?_,e2,fun x hx=>e3 x ?_⟩
      · rw [List.forIn_cons]
        have hb:(k==NameKind.free)=false:=by simpa using hk
        rw [hb]
        exact e1
      · rcases hx with hx | hx
        · rcases List.mem_cons.mp hx with h | h
          · cases h;exact absurd rfl hk
          · exact Or.inl h
        · exact Or.inr hx
structure j0u (h:Heap) (names:List (Str × NameKind)) (acc cs:List (Str × Addr)):Prop where
  from_:∀ x a,cs.lookup x=some a→acc.lookup x=some a∨(h.objs.size≤a∧(pushCells h names).IsCell a none∧(x,NameKind.cell)∈names)
  cell:∀ x,(x,NameKind.cell)∈names→∃ a,cs.lookup x=some a∧h.objs.size≤a
  other:∀ x,(x,NameKind.cell)∉names→cs.lookup x=acc.lookup x
  apart:∀ x y a,cs.lookup x=some a→cs.lookup y=some a→x=y
theorem q5u:∀ (names:List (Str × NameKind)) (hp:Heap) (acc:List (Str × Addr)),(∀ x a,acc.lookup x=some a→a<hp.objs.size)→(∀ x y a,acc.lookup x=some a→acc.lookup y=some a→x=y)→
    j0u hp names acc (cellsFrom hp.objs.size names acc)
  | [],hp,acc,_,h2=>⟨fun x a e=>Or.inl e,fun x hx=>(by cases hx),fun x zz=>rfl,h2⟩
  | (y,k)::names,hp,acc,h1,h2=>by
    by_cases hk:k=.cell
    · subst hk
      have e:cellsFrom hp.objs.size ((y,NameKind.cell)::names) acc=cellsFrom (hp.push { cls:=.type "cell",data:=.cell none }).objs.size names ((y,hp.objs.size)::acc):=by
        rw [Heap.size_push];rfl
      have ep:pushCells hp ((y,NameKind.cell)::names)=pushCells (hp.push { cls:=.type "cell",data:=.cell none }) names:=rfl
      have look:∀ x a,List.lookup x ((y,hp.objs.size)::acc)=some a→(x=y∧a=hp.objs.size)∨(x≠y∧acc.lookup x=some a):=fun x a hb=>by
        rw [List.lookup_cons] at hb
        induction hxy:x==y using q2i with
        | true=>rw [hxy] at hb;apply q0w hb;exact Or.inl ⟨beq_iff_eq.mp hxy,rfl⟩
        | false=>rw [hxy] at hb;exact Or.inr ⟨by simpa using hxy,hb⟩
      have S:=q5u names (hp.push { cls:=.type "cell",data:=.cell none }) ((y,hp.objs.size)::acc) (fun x a hb=>by
        rw [Heap.size_push]
        rcases look x a hb with ⟨_,h⟩ | ⟨_,h⟩
        · exact h▸Nat.lt_succ_self _
        · exact Nat.lt_succ_of_lt (h1 x a h)) (fun x x' a hb hb'=>by
        rcases look x a hb with ⟨q1,q2⟩ | ⟨q1,q2⟩<;>rcases look x' a hb' with ⟨q3,q4⟩ | ⟨q3,q4⟩
        · rw [q1,q3]
        · exact absurd (q2▸h1 x' a q4) (Nat.lt_irrefl _)
        · exact absurd (q4▸h1 x a q2) (Nat.lt_irrefl _)
        · exact h2 x x' a q2 q4)
      rw [e]
      refine ⟨fun x a hx=>?_,fun x hx=>?_,fun x hx=>?_,S.apart⟩
      · rcases S.from_ x a hx with h3 | ⟨h3,h4,h5⟩
        · rcases look x a h3 with ⟨rfl,rfl⟩ | ⟨_,q⟩
          · exact Or.inr ⟨Nat.le_refl _,⟨_,by rw [ep];exact pushCells_keeps _ _ _ _ (Heap.get?_push_size _ rfl),rfl⟩,List.mem_cons_self⟩
          · exact Or.inl q
        · rw [Heap.size_push] at h3
          exact Or.inr ⟨by exact Nat.le_of_lt (by assumption),by exact h4,List.mem_cons_of_mem _ h5⟩
      · by_cases hm:(x,NameKind.cell)∈names
        · refine q0a (S.cell x hm) ?_;intro a q1 q2
          rw [Heap.size_push] at q2
          exact ⟨a,q1,by exact Nat.le_of_lt (by assumption)⟩
        · rcases List.mem_cons.mp hx with h | h
          · cases h
            refine ⟨hp.objs.size,?_,Nat.le_refl _⟩
            rw [S.other _ hm];simp
          · exact absurd h hm
      · have hxy:¬ x=y:=fun h=>hx (by rw [h];exact List.mem_cons_self)
        rw [S.other x fun h=>hx (List.mem_cons_of_mem _ h),List.lookup_cons]
        have:(x==y)=false:=by simpa using hxy
        rw [this]
    · have hb:(k==NameKind.cell)=false:=by simpa using hk
      have e:cellsFrom hp.objs.size ((y,k)::names) acc=cellsFrom hp.objs.size names acc:=by
        show (if k==NameKind.cell then _ else _)=_
        rw [hb];rfl
      have ep:pushCells hp ((y,k)::names)=pushCells hp names:=by
        show (if k==NameKind.cell then _ else _)=_
        rw [hb];rfl
      have S:=q5u names hp acc h1 h2
      rw [e]
      refine ⟨fun x a hx=>?_,fun x hx=>?_,fun x hx=>S.other x fun h=>hx (List.mem_cons_of_mem _ h),S.apart⟩
      · rcases S.from_ x a hx with h3 | ⟨h3,h4,h5⟩
        · exact Or.inl h3
        · exact Or.inr ⟨h3,by rw [ep];exact h4,List.mem_cons_of_mem _ h5⟩
      · rcases List.mem_cons.mp hx with h | h
        · cases h;exact absurd rfl hk
        · exact S.cell x h
theorem q9f (sc:Scope) (env:Env) (x:Str):(relabel sc env).names.lookup x=(sc.names.lookup x).map fun k=>if (k==.free&&env.scope.kind==.function&&env.kindOf x==some .cell) then .cell else k:=by
  unfold relabel
  dsimp only
  induction sc.names with
  | nil=>rfl
  | cons y r ih=>
    obtain ⟨y,k⟩:=y
    induction hxy:x==y using q2i with
    | true=>
      have hx:=beq_iff_eq.mp hxy
      apply q1w hx
      by_cases hc:(k==NameKind.free&&env.scope.kind==ScopeKind.function&&env.kindOf x==some NameKind.cell)=true
      · simp only [List.map_cons,hc,if_true,List.lookup_cons,beq_self_eq_true,Option.map_some]
      · simp only [List.map_cons,hc,if_false,List.lookup_cons,beq_self_eq_true,Option.map_some,Bool.false_eq_true]
    | false=>
      simp only [List.map_cons,List.lookup_cons,hxy]
      rw [← ih]
      split<;>simp [List.lookup_cons,hxy]
theorem q7u {sc:Scope}:∀ {L:Loc} {x:Str} {d:D},Loc.find x (Loc.keep sc L)=some d→sc.names.lookup x=some .free∧Loc.find x L=some d
  | [],x,d,h=>by exact Mine.ns h
  | (y,e)::L,x,d,h=>by
    by_cases hb:decide (sc.names.lookup y=some .free)=true
    · have e1:Loc.keep sc ((y,e)::L)=(y,e)::Loc.keep sc L:=if_pos hb
      rw [e1] at h
      by_cases hxy:x=y
      · subst hxy
        have e2:Loc.find x ((x,e)::Loc.keep sc L)=e:=if_pos rfl
        have e3:Loc.find x ((x,e)::L)=e:=if_pos rfl
        rw [e2] at h
        rw [e3]
        exact ⟨of_decide_eq_true hb,h⟩
      · have e2:Loc.find x ((y,e)::Loc.keep sc L)=Loc.find x (Loc.keep sc L):=if_neg hxy
        have e3:Loc.find x ((y,e)::L)=Loc.find x L:=if_neg hxy
        rw [e2] at h
        rw [e3]
        exact q7u h
    · have e1:Loc.keep sc ((y,e)::L)=Loc.keep sc L:=if_neg hb
      rw [e1] at h
      obtain ⟨h1,h2⟩:=q7u h
      refine ⟨h1,?_⟩
      by_cases hxy:x=y
      · subst hxy
        rw [h1] at hb
        exact absurd rfl hb
      · have e3:Loc.find x ((y,e)::L)=Loc.find x L:=if_neg hxy
        rw [e3];exact h2
section
variable {p:Program} {w:World} {tab:List (Str × Int)} {A:Around} {E:Value→Shared→Prop} {s:Shared} {H0:Heap} {V:Addr→Prop} {m:List Addr} {σ:Sto} {env:Env} {c:Cx} {L:Loc}
theorem q3w {names:List (Str × NameKind)} {x:Str} {k:NameKind} (h:names.lookup x=some k):(x,k)∈names:=mem_of_lookup h
structure k8q (p:Program) (w:World) (tab:List (Str × Int)) (H0:Heap) (V:Addr→Prop) (m:List Addr) (σ:Sto) (c:Cx) (sc:Scope) (L:Loc) (cs0:List (Str × Addr)) (s:Shared) (cenv:Env) (s':Shared) (V':Addr→Prop):Prop where
  fo:q1m cenv { c with sc:=sc,eff:=false } V'
  st:q0k (p:=p) (w:=w) (tab:=tab) H0 s'.heap V' m σ
  lo:q0i p w tab cenv s'.heap V' m (Loc.keep sc L)
  step:Step noOne s s'
  sub:∀ a,V a→V' a
  only:∀ a,V' a→V a∨s.heap.get? a=none
  ns:∃ f,s'.heap.Ns cenv.locals f
  fresh:∀ a,Own cenv { c with sc:=sc,eff:=false } a→s.heap.get? a=none
  cells:∀ x a,cenv.cells.lookup x=some a→(∃ y,cs0.lookup y=some a)∨s.heap.get? a=none
theorem z2q {o sc:Scope} (h:compOk o sc=true):sc.kind=.function∧(∀ x,(x,NameKind.local)∈sc.names→sc.names.lookup x=some .local)∧(∀ x,(x,NameKind.cell)∈sc.names→sc.names.lookup x=some .cell)∧
    (∀ x,(x,NameKind.free)∈sc.names→sc.names.lookup x=some .free∧(o.names.lookup x=some .cell∨o.names.lookup x=some .free))∧sc.names.lookup ("__debug__":Str)=none:=by
  have a:=Bool.and_eq_true_iff.mp h
  have b:=Bool.and_eq_true_iff.mp a.1
  have h2:=List.all_eq_true.mp b.2
  exact ⟨of_decide_eq_true b.1,fun x hx=>of_decide_eq_true (h2 _ hx),fun x hx=>of_decide_eq_true (h2 _ hx),fun x hx=>⟨of_decide_eq_true (Bool.and_eq_true_iff.mp (h2 _ hx)).1,((Bool.or_eq_true _ _).mp (Bool.and_eq_true_iff.mp (h2 _ hx)).2).imp of_decide_eq_true of_decide_eq_true⟩,Option.isNone_iff_eq_none.mp a.2⟩
set_option maxHeartbeats 1000000 in
theorem z8g {sc:Scope} {cl:List (Str × Addr)} {Q:Env→Shared→Prop} (fo:q1m env c V) (st:q0k (p:=p) (w:=w) (tab:=tab) H0 s.heap V m σ) (lo:q0i p w tab env s.heap V m L) (hok:compOk c.sc sc=true)
    (c1:∀ x a,cl.lookup x=some a→env.cells.lookup x=some a) (c2:∀ x,(x,NameKind.free)∈sc.names→cl.lookup x=env.cells.lookup x)
    (h:∀ cenv s' V',k8q p w tab H0 V m σ c sc L env.cells s { cenv with scope:=relabel sc env } s' V'→Q cenv s') :
    wpAny (model p w) A (newFunctionEnv sc env.globals cl [] env.qual none .none (some env)) Q E s:=by
  refine q4n (z2q hok) ?_;intro k1 k2 k3 k4 k5
  refine wpAny_bind (wpAny_alloc ?_)
  refine wpAny_bind (wpAny_layCells _ (fun name kind cells=>by cases hkc:kind==NameKind.cell<;>simp [hkc]) _ _ _ _ ?_)
  have hz:(s.heap.push { cls:=.type "dict",data:=.dict #[] }).objs.size=s.heap.objs.size+1:=Heap.size_push ..
  have clt:∀ x a,cl.lookup x=some a→a<s.heap.objs.size:=fun x a ha=>(lo.cells x a (c1 x a ha)).elim fun o q=>q.elim fun zz q=>Heap.lt_size q.1
  have S:=q5u sc.names (s.heap.push { cls:=.type "dict",data:=.dict #[] }) cl (fun x a ha=>by rw [hz];exact Nat.lt_succ_of_lt (clt x a ha)) (fun x y a hx hy=>fo.apart x y a (c1 x a hx) (c1 y a hy))
  generalize hcs:cellsFrom (s.heap.push { cls:=.type "dict",data:=.dict #[] }).objs.size sc.names cl=cs at S
  suffices key:Q { scope:=sc,locals:=s.heap.objs.size,globals:=env.globals,cells:=cs,qual:=env.qual,func:=none,code:=env.code,frame:=env.frame,builtins:=env.builtins }
      { s with heap:=pushCells (s.heap.push { cls:=.type "dict",data:=.dict #[] }) sc.names } by
    refine wpAny_bind ?_
    refine wpAny_pure (wpAny_pure ?_)
    rw [← hcs] at key
    exact key
  have keep:∀ b o,s.heap.get? b=some o→(pushCells (s.heap.push { cls:=.type "dict",data:=.dict #[] }) sc.names).get? b=some o:=fun b o e=>pushCells_keeps _ _ _ _ (Heap.get?_push_of_some _ e)
  have hns:(pushCells (s.heap.push { cls:=.type "dict",data:=.dict #[] }) sc.names).Ns s.heap.objs.size fun zz=>none:=(Heap.Ns.new s.heap (.type "dict")).keeps (pushCells_keeps _ _)
  have newc:∀ x a,cs.lookup x=some a→env.cells.lookup x=some a∨(s.heap.get? a=none∧(pushCells (s.heap.push { cls:=.type "dict",data:=.dict #[] }) sc.names).IsCell a none):=fun x a ha=>
    (S.from_ x a ha).imp (c1 x a) fun q=>⟨Heap.get?_none_of_le (Nat.le_of_succ_le (Nat.le_trans (Nat.le_of_eq hz.symm) q.1)),q.2.1⟩
  have cellC:∀ x,(x,NameKind.cell)∈sc.names→∃ a,cs.lookup x=some a∧s.heap.get? a=none:=fun x hx=>(S.cell x hx).elim fun a q=>⟨a,q.1,Heap.get?_none_of_le (Nat.le_of_succ_le (Nat.le_trans (Nat.le_of_eq hz.symm) q.2))⟩
  have freeC:∀ x,sc.names.lookup x=some .free→env.kindOf x=some .cell∧∃ a,env.cells.lookup x=some a∧cs.lookup x=some a:=fun x hx=>by
    refine q0d fun hn=>?_
    obtain ⟨q1,q2⟩:=k4 x (q3w hx)
    obtain ⟨q3,a,q4⟩:=fo.hcell x q2
    refine hn ?_
    exact ⟨q3,a,q4,by rw [S.other x fun hc=>(by have:=k3 x hc;rw [hx] at this;cases this),c2 x (q3w hx),q4]⟩
  have apart:=S.apart
  clear S hcs clt c1 c2 hz
  generalize pushCells (s.heap.push { cls:=.type "dict",data:=.dict #[] }) sc.names=hh at keep hns newc ⊢
  have kind:∀ {k:Option NameKind} (x:Str),sc.names.lookup x=k→(relabel sc env).names.lookup x=k.map fun k=>if (k==.free&&env.scope.kind==.function&&env.kindOf x==some .cell) then .cell else k:=fun x e=>e▸q9f sc env x
  have presC:∀ x a,cs.lookup x=some a→∃ o,hh.IsCell a o:=fun x a ha=>(newc x a ha).elim (fun q=>(lo.cells x a q).elim fun o ho=>⟨o,ho.keeps keep⟩) fun q=>⟨none,q.2⟩
  have only:∀ a,(V a∨a=s.heap.objs.size∨∃ x,cs.lookup x=some a)→V a∨(s.heap.get? a=none∧∃ o,hh.get? a=some o):=fun a ha=>by
    rcases ha with ha | rfl | ⟨x,hx⟩
    · exact Or.inl ha
    · exact Or.inr ⟨q0n _,hns.elim fun o q=>q.elim fun zz q=>q.elim fun zz q=>⟨o,q.1⟩⟩
    · exact (newc x a hx).imp (fo.cellsV x a) fun q=>⟨q.1,q.2.elim fun o q=>⟨o,q.1⟩⟩
  have hstep:Step noOne s { s with heap:=hh }:=Step.of_keep (tk:=s.toks) keep
  have st2:q0k (p:=p) (w:=w) (tab:=tab) H0 ({ s with heap:=hh }:Shared).heap (fun a=>V a∨a=s.heap.objs.size∨∃ x,cs.lookup x=some a) m σ:=st.moreAll hstep only
  refine h _ _ (fun a=>V a∨a=s.heap.objs.size∨∃ x,cs.lookup x=some a) ⟨⟨k1,fo.glob,fo.bui,fun x hx=>?_,fun x hx=>kind x hx,fun x hx=>?_,kind _ k5,Or.inr (Or.inl rfl),fun x a ha=>Or.inr (Or.inr ⟨x,ha⟩),apart⟩,st2,⟨⟨_,hns⟩,presC,fun x d hd=>?_⟩,hstep,fun a ha=>Or.inl ha,fun a ha=>(only a ha).imp (fun q=>q) And.left,⟨_,hns⟩,fun a ha=>?_,fun x a hx=>(newc x a hx).imp (fun q=>⟨x,q⟩) And.left⟩
  · exact kind x (of_decide_eq_true hx)
  · rcases hx with hx | hx
    · exact ⟨kind x hx,(cellC x (q3w hx)).elim fun a q=>⟨a,q.1⟩⟩
    · rcases freeC x hx with ⟨q1,a,q2,q3⟩
      refine ⟨(kind x hx).trans ?_,a,q3⟩
      simp [fo.kind,q1]
  · obtain ⟨q1,q2⟩:=q7u hd
    refine q0d fun hn=>?_
    refine q0a (lo.vars x d q2) ?_;intro v hs hr
    rcases freeC x q1 with ⟨q3,a,q4,q5⟩
    refine hn ?_
    refine ⟨v,Or.inr ⟨(kind x q1).trans (by simp [fo.kind,q3]),a,q5,?_⟩,hr.mono (fun b o e ho=>⟨keep b o e,fun hv=>(only b hv).elim ho.1 fun q=>ns (q.1.symm.trans e),ho.2⟩) fun zz zz e=>e⟩
    rcases hs with ⟨r1,_⟩ | ⟨r1,b,r2,r3⟩
    · rw [q3] at r1;cases r1
    · exact (Option.some.inj (r2.symm.trans q4))▸r3.keeps keep
  · rcases ha with rfl | ⟨x,hx,hxa⟩
    · exact q0n _
    · refine q0a (cellC x (q3w hx)) ?_;intro b r1 r2
      exact Option.some.inj (r1.symm.trans hxa)▸r2
end
theorem q2k {x:Str} {d:D}:∀ {L:Loc},Loc.find x (Loc.put x d L)=some d
  | []=>if_pos rfl
  | (y,e)::L=>by
    by_cases h:x=y
    · have e1:Loc.put x d ((y,e)::L)=(y,some d)::L:=if_pos h
      rw [e1];exact if_pos h
    · have e1:Loc.put x d ((y,e)::L)=(y,e)::Loc.put x d L:=if_neg h
      rw [e1]
      exact (if_neg h).trans q2k
theorem q1j {x y:Str} {d:D} (h:y≠x):∀ {L:Loc},Loc.find y (Loc.put x d L)=Loc.find y L
  | []=>if_neg h
  | (z,e)::L=>by
    by_cases hx:x=z
    · have e1:Loc.put x d ((z,e)::L)=(z,some d)::L:=if_pos hx
      have hy:¬ y=z:=fun h'=>h (h'.trans hx.symm)
      rw [e1]
      exact (if_neg hy).trans (if_neg hy).symm
    · have e1:Loc.put x d ((z,e)::L)=(z,e)::Loc.put x d L:=if_neg hx
      rw [e1]
      by_cases hy:y=z
      · exact (if_pos hy).trans (if_pos hy).symm
      · exact (if_neg hy).trans ((q1j h).trans (if_neg hy).symm)
section
variable {p:Program} {w:World} {tab:List (Str × Int)} {A:Around} {E:Value→Shared→Prop} {s:Shared} {H0:Heap} {V:Addr→Prop} {m:List Addr} {σ:Sto} {env:Env} {c:Cx} {L:Loc} {d:D}
theorem q0k.own {h h':Heap} (st:q0k (p:=p) (w:=w) (tab:=tab) H0 h V m σ) {a:Addr} (ha:V a) (hs:Heap.SameBut a h h') (hp:∃ o,h'.get? a=some o) :
    q0k (p:=p) (w:=w) (tab:=tab) H0 h' V m σ∧(∀ d v,Rep p w tab h V m d v→Rep p w tab h' V m d v):=by
  refine ⟨st.to (fun b o e=>(hs.2 b fun h=>ns ((st.vin _ ha).2.symm.trans (h▸e))).trans (st.kept b o e)) (fun b hb=>⟨?_,(st.vin b hb).2⟩) fun b o e hb=>⟨(hs.2 b fun h=>hb (h▸ha)).trans e,hb⟩,fun d v r=>r.mono (fun b o e ho=>⟨(hs.2 b fun h=>ho.1 (h▸ha)).trans e,ho⟩) fun zz zz e=>e⟩
  by_cases hba:b=a
  · exact hba▸hp
  · exact (st.vin b hb).1.elim fun o e=>⟨o,(hs.2 b hba).trans e⟩
structure AsP (p:Program) (w:World) (tab:List (Str × Int)) (H0:Heap) (env:Env) (c:Cx) (V:Addr→Prop) (m:List Addr) (σ:Sto) (L':Loc) (s s':Shared):Prop where
  step:Step (Own env c) s s'
  st:q0k (p:=p) (w:=w) (tab:=tab) H0 s'.heap V m σ
  lo:q0i p w tab env s'.heap V m L'
  rep:∀ d v,Rep p w tab s.heap V m d v→Rep p w tab s'.heap V m d v
theorem AsP.trans {L' L'':Loc} {s' s'':Shared} (x:AsP p w tab H0 env c V m σ L' s s') (y:AsP p w tab H0 env c V m σ L'' s' s''):AsP p w tab H0 env c V m σ L'' s s'':=
  ⟨x.step.trans y.step,y.st,y.lo,fun d v r=>y.rep d v (x.rep d v r)⟩
theorem z6k {O:Addr→Prop} {a:Addr} {h':Heap} {tk:Nat} (ha:O a) (hs:Heap.SameBut a s.heap h') (hp:∃ o,h'.get? a=some o):Step O s { s with heap:=h',toks:=tk }:=by
  refine ⟨fun b o e ho=>(hs.2 b fun hb=>ho (hb▸ha)).trans e,fun b o e=>?_,rfl,rfl,fun zz zz e=>e,fun h=>h⟩
  by_cases hb:b=a
  · apply q0g hb;exact hp
  · exact ⟨o,(hs.2 b hb).trans e⟩
theorem q4f {h:Heap} {a:Addr} {f:Str→Option Value} {v:Option Value} (h1:h.Ns a f) (h2:h.IsCell a v):False:=by
  rcases h1 with ⟨o,es,ep,e,d,_⟩
  obtain ⟨o',e',d'⟩:=h2
  rw [e] at e';replace e':=Option.some.inj e';subst e'
  rw [d] at d';cases d'
set_option tactic.hygienic true in
theorem q1u {x:Str} {v:Value} {L':Loc} (fo:q1m env c V) (st:q0k (p:=p) (w:=w) (tab:=tab) H0 s.heap V m σ) (lo:q0i p w tab env s.heap V m L) (r:Rep p w tab s.heap V m d v) (e:put1 c.sc x d L=some L') :
    wpAny (model p w) A (storeName env x v) (fun zz s'=>AsP p w tab H0 env c V m σ L' s s') E s:=by
  refine Mine.iteE e ?_ ?_<;>clear e<;>intro _ e
  rotate_left
  · exact Mine.ns e
  rename_i hx
  replace e:=Option.some.inj e;subst e
  rcases z9z hx with hk | hk
  · have hkl:=fo.hloc x hk
    obtain ⟨f,hn⟩:=lo.ns
    refine wpAny_storeName_local hkl hn (fun h' hn' hs=>?_) (by rw [fo.kind];rfl)
    have hp:∃ o,h'.get? env.locals=some o:=let ⟨o,_,_,e,_⟩:=hn';⟨o,e⟩
    obtain ⟨q1,q2⟩:=st.own fo.own hs hp
    refine ⟨z6k (Or.inl rfl) hs hp,q1,⟨⟨_,hn'⟩,fun y a ha=>?_,fun y d' hy=>?_⟩,q2⟩
    · obtain ⟨o,ho⟩:=lo.cells y a ha
      have:a≠env.locals:=by rintro rfl;exact q4f hn ho
      exact ⟨o,ho.sameBut hs this⟩
    · by_cases hyx:y=x
      · subst hyx
        rw [q2k] at hy
        apply q0w hy
        exact ⟨v,Or.inl ⟨hkl,_,hn',if_pos rfl⟩,q2 _ _ r⟩
      · rw [q1j hyx] at hy
        refine q0a (lo.vars y d' hy) ?_;intro u hu ru
        refine ⟨u,?_,q2 _ _ ru⟩
        rcases hu with ⟨h1,g,h2,h3⟩ | ⟨h1,a,h2,h3⟩
        · refine Or.inl ⟨h1,_,hn',?_⟩
          rw [if_neg hyx]
          have:f y=g y:=by
            apply q0d;intro hG;rcases hn with ⟨o,es,ep,e1,d1,_,k1⟩;apply hG;clear hG
            apply q0d;intro hG;rcases h2 with ⟨o',es',ep',e2,d2,_,k2⟩;apply hG;clear hG
            rw [e1] at e2;replace e2:=Option.some.inj e2;subst e2
            rw [d1] at d2;cases d2
            rw [← k1,← k2]
          rw [this];exact h3
        · have:a≠env.locals:=by rintro rfl;exact q4f hn h3
          exact Or.inr ⟨h1,a,h2,h3.sameBut hs this⟩
  · skip
    obtain ⟨hkc,a,ha⟩:=fo.hcell x (Or.inl hk)
    obtain ⟨o,ho⟩:=lo.cells x a ha
    obtain ⟨f,hn⟩:=lo.ns
    refine wpAny_storeName_cell fo.kind hkc ha ho fun h' hv hs=>?_
    have hp:∃ o,h'.get? a=some o:=let ⟨o,e,_⟩:=hv;⟨o,e⟩
    have hne:env.locals≠a:=by rintro rfl;exact q4f hn ho
    obtain ⟨q1,q2⟩:=st.own (fo.cellsV x a ha) hs hp
    refine ⟨z6k (tk:=s.toks) (Or.inr ⟨x,hk,ha⟩) hs hp,q1,⟨⟨f,hn.sameBut hs hne⟩,fun y b hb=>?_,fun y d' hy=>?_⟩,q2⟩
    · by_cases hba:b=a
      · apply q0g hba;exact ⟨_,hv⟩
      · obtain ⟨o',ho'⟩:=lo.cells y b hb
        exact ⟨o',ho'.sameBut hs hba⟩
    · by_cases hyx:y=x
      · subst hyx
        rw [q2k] at hy
        apply q0w hy
        exact ⟨v,Or.inr ⟨hkc,a,ha,hv⟩,q2 _ _ r⟩
      · rw [q1j hyx] at hy
        refine q0a (lo.vars y d' hy) ?_;intro u hu ru
        refine ⟨u,?_,q2 _ _ ru⟩
        rcases hu with ⟨h1,g,h2,h3⟩ | ⟨h1,b,h2,h3⟩
        · exact Or.inl ⟨h1,g,h2.sameBut hs hne,h3⟩
        · have:b≠a:=by rintro rfl;exact hyx (fo.apart y x _ h2 ha)
          exact Or.inr ⟨h1,b,h2,h3.sameBut hs this⟩
end
section
variable {p:Program} {w:World} {tab:List (Str × Int)} {A:Around} {E:Value→Shared→Prop} {s:Shared} {H0:Heap} {V:Addr→Prop} {m:List Addr} {σ:Sto} {env:Env} {c:Cx} {L:Loc} {d:D}
theorem j0v {n:Nat} {I:Addr} {fp:List Addr} {P:Nat→Value→Prop} {St:Nat→Heap→Prop} (W:Walks p w A I fp [I] n P St):∀ (k i:Nat) (s:Shared) (Q:List Value→Shared→Prop),St i s.heap→i+k≤n→
    (∀ vs h' tk,vs.length=k→(∀ (j:Nat) v,vs[j]?=some v→P (i+j) v)→St (i+k) h'→(∀ b o,b≠I→s.heap.get? b=some o→h'.get? b=some o)→Q vs { s with heap:=h',toks:=tk })→
    wpAny (model p w) A (draw (.ref I) k) Q E s
  | 0,i,s,Q,hst,_,hQ=>by
    show wpAny _ _ (pure []) Q E s
    exact wpAny_pure (hQ [] s.heap s.toks rfl (fun j v h=>by exact Mine.ns h) hst fun zz zz zz e=>e)
  | k+1,i,s,Q,hst,hle,hQ=>by
    show wpAny _ _ (pyNext (.ref I) >>= _) Q E s
    refine wpAny_bind (W.item i s _ _ (by omega) hst fun v h1 tk1 hp hst1 hk1=>?_)
    refine wpAny_bind (wpAny_holding (j0v W k (i+1) _ _ hst1 (by omega) fun vs h2 tk2 hl hvs hst2 hk2=>wpAny_pure ?_))
    refine hQ (v::vs) h2 tk2 (by simp [hl]) (fun j u hj=>?_) (by rw [show i+(k+1)=i+1+k by omega];exact hst2) fun b o hb e=>hk2 b o hb (hk1 b o (by simpa using hb) e)
    induction j using j5f with
    | zero=>simp at hj;subst hj;exact hp
    | succ j=>rw [show i+(j+1)=i+1+j by omega];exact hvs j u (hj)
theorem q6k (hh:A.handled=none) {v:Value} {ds:List D} {Q:List Value→Shared→Prop} (hn:wpAny (model p w) A (notIterableAtAll v) (fun b s'=>b=false∧s'=s) E s)
    (hit:∀ E',wpAny (model p w) A (pyIter v) (ItP p w tab A V m ds s) E' s)
    (h:∀ vs s',RepL p w tab s'.heap V m ds vs→Step noOne s s'→Q vs s'):wpAny (model p w) A (unpackItems v ds.length none) Q E s:=by
  refine wpAny_bind (wpAny_mono hn (fun b s0 hb=>?_) fun zz zz e=>e)
  obtain ⟨hq7,h0⟩:=hb
  apply q0g hq7
  have h0:=h0.symm
  subst h0
  refine wpAny_bind (wpAny_holding (wpAny_mono (hit _) (fun it s1 hi=>?_) fun zz zz e=>e))
  apply q0d;intro hG;rcases hi with ⟨I,fp,P,St,rfl,hI,st1,⟨oI,hoI⟩,hst,ok⟩;apply hG;clear hG
  refine wpAny_bind (wpAny_holding (j0v ok.walks ds.length 0 s1 _ hst (by omega) fun vs h2 tk2 hl hvs hst2 hk2=>?_))
  rw [if_neg (by omega)]
  rw [Nat.zero_add] at hst2
  refine wpAny_bind (wpAny_holding (ok.walks.done _ _ _ hst2 fun h3 tk3 hk3=>?_))
  refine wpAny_pure (h vs _ ?_ ?_)
  · refine RepL.of_get hl fun i d v hd hv=>?_
    refine q0a (ok.item i v (by have:=hvs i v hv;rwa [Nat.zero_add] at this)) ?_;intro d' hd' hr
    rw [hd] at hd';replace hd':=Option.some.inj hd';apply q0g hd'
    refine hr _ V m (fun b o e ho=>⟨?_,ho⟩) fun zz zz e=>e
    have hbI:b≠I:=by rintro rfl;exact Mine.ns ((hI).symm.trans e)
    exact hk3 b o (by simpa using hbI) (hk2 b o hbI (st1.keep b o e fun h=>h))
  · have hk:∀ b o,s.heap.get? b=some o→h3.get? b=some o:=fun b o e=>by
      have hbI:b≠I:=by rintro rfl;exact Mine.ns ((hI).symm.trans e)
      exact hk3 b o (by simpa using hbI) (hk2 b o hbI (st1.keep b o e fun h=>h))
    exact ⟨fun b o e zz=>hk b o e,fun b o e=>⟨o,hk b o e⟩,st1.os,st1.drawn,st1.gens,st1.bare⟩
set_option tactic.hygienic true in
theorem q4y (fo:q1m env c V):∀ (ts:List PySem.Expr) {xs:List Str} {ds:List D} {vs:List Value} {L L':Loc} {s:Shared},nameTs ts=some xs→q0k (p:=p) (w:=w) (tab:=tab) H0 s.heap V m σ→q0i p w tab env s.heap V m L→
    RepL p w tab s.heap V m ds vs→puts c.sc xs ds L=some L'→
    wpAny (model p w) A (assignInOrder ((assignEach ts env).map (·.2)) vs) (fun zz s'=>AsP p w tab H0 env c V m σ L' s s') E s
  | [],xs,ds,vs,L,L',s,hx,st,lo,r,e=>by
    replace hx:=Option.some.inj hx
    subst hx
    induction ds using q1h with
    | nil=>
      replace e:=Option.some.inj e
      subst e
      show wpAny _ _ (pure ()) _ _ s
      exact wpAny_pure ⟨Step.refl,st,lo,fun zz zz r=>r⟩
    | cons d ds=>exact Mine.ns e
  | t::ts,xs,ds,vs,L,L',s,hx,st,lo,r,e=>by
    induction t using PySem.Expr.casesOn<;>skip<;>try (exact Mine.ns hx;done)
    rename_i x pos
    refine q0a (Option.map_eq_some_iff.mp hx) ?_;intro ys hy zw2;rcases zw2 with rfl
    induction ds using q1h with
    | nil=>exact Mine.ns e
    | cons d ds=>
      refine q0d fun hn=>?_
      refine q0a (Option.bind_eq_some_iff.mp e) ?_;intro L1 e1 e2
      rcases r with ⟨v,vs',rfl,r1,r2⟩
      refine hn ?_
      show wpAny _ _ (do holding vs' (assign (.Name x pos) env v);assignInOrder ((assignEach ts env).map (·.2)) vs') _ _ s
      refine wpAny_bind (wpAny_holding (wpAny_assign_Name (wpAny_mono (q1u fo st lo r1 e1) (fun zz s1 as=>?_) fun zz zz h=>h)))
      have r2':RepL p w tab s1.heap V m ds vs':=RepL.of_get r2.length fun i d' v' h1 h2=>by
        refine q0a (r2.get h1) ?_;intro u hu ru
        rw [h2] at hu;replace hu:=Option.some.inj hu;apply q0g hu
        exact as.rep _ _ ru
      exact wpAny_mono (q4y fo ts hy as.st as.lo r2' e2) (fun zz s2 as2=>as.trans as2) fun zz zz h=>h
set_option tactic.hygienic true in
theorem q9p:∀ {ts:List PySem.Expr} {xs:List Str},nameTs ts=some xs→(assignEach ts env).length=ts.length∧xs.length=ts.length∧(assignEach ts env).findIdx? (·.1)=none
  | [],xs,h=>by replace h:=Option.some.inj h;subst h;exact ⟨rfl,rfl,rfl⟩
  | t::ts,xs,h=>by
    induction t using PySem.Expr.casesOn<;>skip<;>try (exact Mine.ns h;done)
    refine q0a (Option.map_eq_some_iff.mp h) ?_;intro ys hy zw2;apply q1w zw2
    refine q3k (q9p hy) ?_;intro h1 h2 h3
    rename_i x pos
    have e:assignEach (.Name x pos::ts) env=(false,assign (.Name x pos) env)::assignEach ts env:=rfl
    rw [e]
    refine ⟨by simp [h1],by simp [h2],?_⟩
    rw [List.findIdx?_cons]
    simp [h3]
theorem q4g {sc:Scope}:∀ {xs:List Str} {ds:List D} {L L':Loc},puts sc xs ds L=some L'→ds.length=xs.length
  | [],[],_,_,_=>rfl
  | [],_::_,_,_,h=>by exact Mine.ns h
  | _::_,[],_,_,h=>by exact Mine.ns h
  | x::xs,d::ds,L,L',h=>by
    refine q0a (Option.bind_eq_some_iff.mp h) ?_;intro L1 zw1 h2
    simp [q4g h2]
theorem z2r {l:Addr} {vs:Array Value} (hl:s.heap.IsList l vs):wpAny (model p w) A (notIterableAtAll (.ref l)) (fun b s'=>b=false∧s'=s) E s:=by
  refine wpAny_bind (wpAny_specialOf hl.typeIs slot_list_iter.lookup ?_)
  exact wpAny_pure ⟨rfl,rfl⟩
theorem q9q {l:Addr} {vs:Array Value} (hl:s.heap.IsTuple l vs):wpAny (model p w) A (notIterableAtAll (.ref l)) (fun b s'=>b=false∧s'=s) E s:=by
  refine wpAny_bind (wpAny_specialOf hl.typeIs PySem.F.slot_tuple_iter.lookup ?_)
  exact wpAny_pure ⟨rfl,rfl⟩
theorem AsP.before {L':Loc} {s' s'':Shared} (x:Step noOne s s') (y:AsP p w tab H0 env c V m σ L' s' s''):AsP p w tab H0 env c V m σ L' s s'':=
  ⟨(x.mono fun zz zz zz h=>h.elim).trans y.step,y.st,y.lo,fun d v r=>y.rep d v (z5z x (fun zz h=>h.elim) r)⟩
theorem q0i.step {s':Shared} (fo:q1m env c V) (st:q0k (p:=p) (w:=w) (tab:=tab) H0 s.heap V m σ) (lo:q0i p w tab env s.heap V m L) (x:Step noOne s s'):q0i p w tab env s'.heap V m L:=by
  have:=(Mv.of_step (eff:=false) (m:=m) x).loc fo st lo
  simpa using this
set_option tactic.hygienic true in
theorem q2f (hh:A.handled=none) (fo:q1m env c V) (st:q0k (p:=p) (w:=w) (tab:=tab) H0 s.heap V m σ) (lo:q0i p w tab env s.heap V m L) {t:PySem.Expr} {v:Value} {L':Loc} (r:Rep p w tab s.heap V m d v)
    (e:give c.sc σ t d L=some L'):wpAny (model p w) A (assign t env v) (fun zz s'=>AsP p w tab H0 env c V m σ L' s s') E s:=by
  induction t using PySem.Expr.casesOn<;>skip<;>try (exact Mine.ns e;done)
  · exact wpAny_assign_Name (q1u fo st lo r e)
  · rename_i ts kk pos
    refine q0a (Option.bind_eq_some_iff.mp e) ?_;intro xs hx e
    refine q3k (q9p (env:=env) hx) ?_;intro q1 q2 q3
    refine wpAny_bind (wpAny_standAt ?_)
    have go:∀ {ds:List D},puts c.sc xs ds L=some L'→wpAny (model p w) A (notIterableAtAll v) (fun b s'=>b=false∧s'=s) E s→(∀ E',wpAny (model p w) A (pyIter v) (ItP p w tab A V m ds s) E' s)→
        wpAny (model p w) A (unpack v (assignEach ts env)) (fun zz s'=>AsP p w tab H0 env c V m σ L' s s') E s:=by
      intro ds hp hn hit
      unfold unpack
      have hlen:(assignEach ts env).length=ds.length:=by rw [q1,← q2,q4g hp]
      rw [hlen,q3]
      refine wpAny_bind (wpAny_holding (q6k (V:=V) (m:=m) hh hn hit fun vs s1 r1 step1=>?_))
      exact wpAny_mono (q4y fo ts hx (st.step step1) (lo.step fo st step1) r1 hp) (fun zz s2 as=>as.before step1) fun zz zz h=>h
    induction d using D.casesOn<;>skip<;>try (exact Mine.ns e;done)
    · rename_i ds
      apply q0d;intro hG;rcases r with ⟨a,vs,rfl,o,ht,rl⟩;apply hG;clear hG
      exact go e (q9q ht) fun E'=>q6u hh ht o.1 rl
    · rename_i ds
      apply q0d;intro hG;rcases r with ⟨a,vs,rfl,o,ht,rl⟩;apply hG;clear hG
      exact go e (z2r ht) fun E'=>q7t hh ht o.1 rl
    · rename_i k e0
      refine q0a (Option.bind_eq_some_iff.mp e) ?_;intro ds hk e
      obtain ⟨a,ha,rfl⟩:=r
      refine q0a (st.cell k a ds ha hk) ?_;intro vs hl rl
      exact go e (z2r hl.isList) fun E'=>q7t hh hl.isList (st.sep a (List.mem_of_getElem? ha)) rl
end
section
variable {p:Program} {w:World} {tab:List (Str × Int)} {A:Around} {E:Value→Shared→Prop} {s:Shared} {H0:Heap} {V:Addr→Prop} {m:List Addr} {σ:Sto} {env:Env} {c:Cx} {L:Loc} {d:D}
noncomputable def lgL:List String:=["enumerate","zip","dict_itemiterator","dict_reverseitemiterator","odict_iterator","itertools.zip_longest","itertools.pairwise"]
theorem j0w {t:PySem.Expr} {I:Addr} {v:Value} {o:Obj} {T:String} {Q:Unit→Shared→Prop} (ho:s.heap.get? I=some o) (hc:o.cls=.type T) (hk:lgL.contains T=false) (hQ:Q () s) :
    wpAny (model p w) A (letOwnedTupleGo t (.ref I) v) Q E s:=by
  have go:∀ a,wpAny (model p w) A (letOwnedTupleGo (.Tuple [] 0 default) (.ref I) (.ref a)) Q E s:=fun a=>by
    refine wpAny_bind (wpAny_load ho ?_)
    rw [hc];generalize o.data=dt
    induction dt using Data.casesOn<;>first | exact wpAny_pure hQ | skip
    show wpAny _ _ (if (lgL.contains T&&_)=true then _ else _) _ _ _
    rw [hk];exact wpAny_pure hQ
  induction t using PySem.Expr.casesOn<;>first | exact wpAny_pure hQ | (induction v using Value.casesOn<;>first | exact wpAny_pure hQ | exact go _)
theorem k1c {t:PySem.Expr} {I:Addr} {v:Value} {Q:Unit→Shared→Prop} (h:∃ o T,s.heap.get? I=some o∧o.cls=.type T∧itKinds.contains T=true) (hQ:Q () s) :
    wpAny (model p w) A (letOwnedTupleGo t (.ref I) v) Q E s:=by
  refine q1g h ?_;clear h;intro o T ho hc hk
  have all:itKinds.all (fun x=>!lgL.contains x)=true:=by decide
  exact j0w ho hc ((Bool.not_eq_true' _).mp (List.all_eq_true.mp all T (List.contains_iff_mem.mp hk))) hQ
theorem j0x {e0:PySem.Expr} {k n:Nat} {I:Addr} {fp:List Addr} {P:Nat→Value→Prop} {St:Nat→Heap→Prop} {acc:Value} {q:Pos} {t:PySem.Expr} {R:Result→Shared→Prop}
    (W:Walks p w A I fp [I] n P St) (hkind:∀ i h,St i h→∃ o T,h.get? I=some o∧o.cls=.type T∧itKinds.contains T=true) (J:Nat→Shared→Prop) (body:Value→Sem Unit)
    (hturn:compTurn e0 k (.ref I) acc env=(do
      standAt q
      match ← pyNext (.ref I) with
      | none=>pure (.done .next)
      | some v=>do
        letOwnedTupleGo t (.ref I) v
        body v
        again (.compLoop e0 k (.ref I) acc env)))
    (hden:(model p w).den (.compLoop e0 k (.ref I) acc env)=((compTurn e0 k (.ref I) acc env).onRaise (fun x=>do noteFrame x env;theTreesLotGoes x)))
    (hun:A.under (.compLoop e0 k (.ref I) acc env)=A)
    (hbody:∀ i v s h' tk,i<n→P i v→J i s→St (i+1) h'→(∀ b o,b≠I→s.heap.get? b=some o→h'.get? b=some o)→wpAny (model p w) A (body v) (fun zz s'=>J (i+1) s'∧St (i+1) s'.heap) NoE { s with heap:=h',toks:=tk })
    (hdone:∀ s h' tk,J n s→(∀ b o,b≠I→s.heap.get? b=some o→h'.get? b=some o)→R (.ok .next) { s with heap:=h',toks:=tk })
    (hJ:J 0 s) (hst:St 0 s.heap):codeAny (model p w) A (.compLoop e0 k (.ref I) acc env) R s:=by
  refine codeAny_loop rfl (fun r s=>∃ i,r+i=n∧J i s∧St i s.heap) (fun r s hI=>?_) n ⟨0,by omega,hJ,hst⟩
  refine q6e hI ?_;clear hI;intro i hr hJi hsti
  rw [hden,hun]
  refine wpAny_noted ?_
  rw [hturn]
  refine wpAny_bind (wpAny_standAt (wpAny_bind ?_))
  rcases Nat.lt_or_ge i n with hlt | hge
  · refine W.item i s _ _ hlt hsti fun v h' tk hp hst' hk=>?_
    refine wpAny_bind (k1c (hkind _ _ hst') ?_)
    refine wpAny_bind (wpAny_mono (hbody i v s h' tk hlt hp hJi hst' fun b o hb e=>hk b o (by simpa using hb) e) (fun _ s' ⟨j,st'⟩=>?_) fun zz zz e=>e.elim)
    exact wpAny_pure ⟨rfl,r - 1,by omega,i+1,by omega,j,st'⟩
  · have:i=n:=by omega
    subst this
    exact W.done s _ _ hsti fun h' tk hk=>wpAny_pure (hdone s h' tk hJi fun b o hb e=>hk b o (by simpa using hb) e)
theorem j0y {G:Gl} {R:Rec} {mg:Str→Option Value} {n:Nat} {cenv:Env} {cc:Cx} (IH:Snd p w H0 mg G n R) (rm:q1d n A) (fo:q1m cenv cc V) (heff:cc.eff=false):∀ (ifs:List PySem.Expr) {s:Shared} {b:Bool},
    q0k (p:=p) (w:=w) (tab:=G.tab) H0 s.heap V m σ→q0i p w G.tab cenv s.heap V m L→oks R cc L σ ifs=some b→
    wpAny (model p w) A (forIn ifs true fun c r=>if r=true then do let ok ← isTrue c cenv (eval c cenv);pure (ForInStep.yield ok) else pure (ForInStep.yield r)) (fun r s'=>r=b∧Step noOne s s') NoE s:=by
  have stay:∀ (ifs:List PySem.Expr) (s:Shared),wpAny (model p w) A (forIn ifs false fun c r=>if r=true then do let ok ← isTrue c cenv (eval c cenv);pure (ForInStep.yield ok) else pure (ForInStep.yield r)) (fun r s'=>r=false∧s'=s) NoE s:=by
    intro ifs
    induction ifs with
    | nil=>intro s;exact wpAny_pure ⟨rfl,rfl⟩
    | cons x ifs ih=>
      intro s
      rw [List.forIn_cons]
      exact wpAny_bind (wpAny_pure (ih s))
  intro ifs
  induction ifs with
  | nil=>
    intro s b st lo e
    replace e:=Option.some.inj e
    subst e
    exact wpAny_pure ⟨rfl,Step.refl⟩
  | cons x ifs ih=>
    intro s b st lo e
    refine q0a (Option.bind_eq_some_iff.mp e) ?_;intro zw0 e1 e2;rcases zw0 with ⟨r,σ1⟩
    rw [List.forIn_cons]
    refine wpAny_bind (wpAny_bind (wpAny_mono (IH.ts rm fo st lo e1) (fun r' s1 hh=>?_) fun zz zz h=>h))
    apply q0d;intro hG;rcases hh with ⟨hr,n1,mv,hs,st1⟩;apply hG;clear hG
    refine wpAny_pure ?_
    subst hr
    have hn:=mv.still heff
    subst hn
    have hσ:=hs heff
    subst hσ
    have step1:Step noOne s s1:=mv.step.mono fun zz zz zz h=>by rw [heff] at h;cases h.1
    rw [List.append_nil] at st1
    induction r' using q2i with
    | true=>
      exact wpAny_mono (ih st1 (lo.step fo st step1) e2) (fun _ s2 ⟨h1,h2⟩=>⟨h1,step1.trans h2⟩) fun zz zz h=>h
    | false=>
      replace e2:=Option.some.inj ((if_neg Bool.false_ne_true).symm.trans e2)
      apply q1w e2
      exact wpAny_mono (stay ifs s1) (fun _ s2 ⟨h1,h2⟩=>⟨h1,by rw [h2];exact step1⟩) fun zz zz h=>h
end
theorem j0z {sc:Scope} {x y:Str} {d d':D} {L L':Loc} (h:put1 sc x d L=some L') (hy:Loc.find y L=some d') (hn:Loc.find x L=none):Loc.find y L'=some d':=by
  refine Mine.iteE h ?_ ?_<;>clear h<;>intro hc h
  · replace h:=Option.some.inj h;subst h
    have:y≠x:=by rintro rfl;exact Mine.ns ((hn).symm.trans hy)
    rw [q1j this];exact hy
  · exact Mine.ns h
theorem q4z {sc:Scope}:∀ {xs:List Str} {ds:List D} {L L':Loc} {y:Str} {d':D},puts sc xs ds L=some L'→Loc.find y L=some d'→y∉xs→Loc.find y L'=some d'
  | [],[],L,L',y,d',h,hy,_=>by replace h:=Option.some.inj h;subst h;exact hy
  | [],_::_,_,_,_,_,h,_,_=>by exact Mine.ns h
  | _::_,[],_,_,_,_,h,_,_=>by exact Mine.ns h
  | x::xs,d::ds,L,L',y,d',h,hy,hn=>by
    refine q0a (Option.bind_eq_some_iff.mp h) ?_;intro L1 h1 h2
    refine q4z h2 ?_ fun hm=>hn (List.mem_cons_of_mem _ hm)
    refine Mine.iteE h1 ?_ ?_<;>clear h1<;>intro hc h1
    · apply q0w h1
      rw [q1j fun h=>hn (by rw [h];exact List.mem_cons_self)];exact hy
    · exact Mine.ns h1
set_option tactic.hygienic true in
theorem z2s {sc:Scope} {σ:Sto} {t:PySem.Expr} {d d':D} {L L':Loc} {y:Str} (h:give sc σ t d L=some L') (hy:Loc.find y L=some d') (hf:freshT t L=true):Loc.find y L'=some d':=by
  unfold freshT at hf
  rw [List.all_eq_true] at hf
  induction t using PySem.Expr.casesOn<;>skip<;>try (exact Mine.ns h;done)
  · rename_i x pos
    exact j0z h hy (by simpa using hf x (by simp [namesOfT]))
  · rename_i ts kk pos
    obtain ⟨xs,hx,h⟩:=Option.bind_eq_some_iff.mp h
    have hn:y∉xs:=fun hm=>by
      have:=hf y (by simp [namesOfT,hx,hm])
      rw [hy] at this;exact Mine.ff this
    induction d using D.casesOn<;>skip<;>try (exact Mine.ns h;done)
    · exact q4z h hy hn
    · exact q4z h hy hn
    · refine q0a (Option.bind_eq_some_iff.mp h) ?_;intro ds zw1 h
      exact q4z h hy hn
section
variable {p:Program} {w:World} {H0:Heap} {mg mb:Str→Option Value} {G:Gl} {R:Rec} {n:Nat}
  {A:Around} {V:Addr→Prop} {m:List Addr} {σ:Sto} {s:Shared} {L:Loc} {cenv:Env} {cc:Cx}
theorem q0i.weak {L1:Loc} {h:Heap} (lo:q0i p w G.tab cenv h V m L1) (hL:∀ y d,Loc.find y L=some d→Loc.find y L1=some d):q0i p w G.tab cenv h V m L:=
  ⟨lo.ns,lo.cells,fun y d h=>lo.vars y d (hL y d h)⟩
theorem z8h {elt:PySem.Expr} {gens:List Comprehension} {scope:Scope} {pos:Pos} {k:Nat} {g:Comprehension} {it acc:Value} {env:Env} (hg:gens[k]?=some g) (ha:g.is_async=0) (hr:gens[k+1]?=none) :
    compTurn (.ListComp elt gens scope pos) k it acc env=(do
      standAt g.iter.pos
      match ← pyNext it with
      | none=>pure (.done .next)
      | some v=>do
        letOwnedTupleGo g.target it v
        (do
          assign g.target env v
          let ok ← forIn g.ifs true fun c r=>if r=true then do let ok ← isTrue c env (eval c env);pure (ForInStep.yield ok) else pure (ForInStep.yield r)
          if ok=true then listEmit elt acc env else pure ())
        again (.compLoop (.ListComp elt gens scope pos) k it acc env)):=by
  have h0:((0:Int) !=0)=false:=rfl
  unfold compTurn
  dsimp only;rw [hg];dsimp only
  rw [ha,h0,if_neg Bool.false_ne_true,if_neg Bool.false_ne_true]
  congr 1
  funext _
  congr 1
  funext r
  induction r using Mine.oC with
  | none=>rfl
  | some v=>
    dsimp only
    congr 1
    funext _
    conv=>rhs;rw [bind_assoc]
    congr 1
    funext _
    conv=>rhs;rw [bind_assoc]
    congr 1
    funext ok
    induction ok using q2i with
    | false=>rfl
    | true=>rw [if_pos rfl,if_pos rfl,hr];rfl
end
section
variable {p:Program} {w:World} {H0:Heap} {mg mb:Str→Option Value} {G:Gl} {R:Rec} {n:Nat}
  {A:Around} {V:Addr→Prop} {m:List Addr} {σ:Sto} {s:Shared} {L:Loc} {cenv:Env} {cc:Cx}
theorem q0k.vol {h h':Heap} {O:Addr→Prop} (st:q0k (p:=p) (w:=w) (tab:=G.tab) H0 h V m σ) (hO:∀ a,O a→V a) (hk:∀ b o,h.get? b=some o→¬ O b→h'.get? b=some o) (hp:∀ b o,h.get? b=some o→∃ o',h'.get? b=some o') :
    q0k (p:=p) (w:=w) (tab:=G.tab) H0 h' V m σ∧(∀ b o,h.get? b=some o→Out V m b→h'.get? b=some o∧Out V m b):=
  ⟨st.to (fun b o e=>hk b o (st.kept b o e) fun h=>ns ((st.vin b (hO b h)).2.symm.trans e)) (fun b hb=>⟨(st.vin b hb).1.elim fun o e=>hp b o e,(st.vin b hb).2⟩) fun b o e hb=>⟨hk b o e fun h=>hb (hO b h),hb⟩,fun b o e ho=>⟨hk b o e fun h=>ho.1 (hO b h),ho⟩⟩
theorem q4h (fo:q1m cenv cc V):∀ a,Own cenv cc a→V a:=fun a h=>by
  rcases h with rfl | ⟨x,_,h⟩
  · exact fo.own
  · exact fo.cellsV x a h
theorem q0i.keep {h h':Heap} {O V':Addr→Prop} (lo:q0i p w G.tab cenv h V m L) (hk:∀ b o,h.get? b=some o→¬ O b→h'.get? b=some o) (h1:¬ O cenv.locals) (h2:∀ x a,cenv.cells.lookup x=some a→¬ O a)
    (out:∀ b o,h.get? b=some o→Out V m b→h'.get? b=some o∧Out V' m b):q0i p w G.tab cenv h' V' m L:=
  lo.go (fun o e=>hk _ o e h1) (fun x a hx o e=>hk a o e (h2 x a hx)) out fun zz zz e=>e
theorem z8i (IH:Snd p w H0 mg G n R) (rm:q1d n A) {elt:PySem.Expr} {D:Addr} {l:List Mine.D} {ys:Array Value}
    (fo:q1m cenv cc V) (heff:cc.eff=false) (st:q0k (p:=p) (w:=w) (tab:=G.tab) H0 s.heap V m σ) (lo:q0i p w G.tab cenv s.heap V m L) (e:(R.ev cc L σ elt).map (fun r=>[r.1])=some l)
    (hVD:V D) (hOD:¬ Own cenv cc D) (hP:s.heap.PlainList D ys) (hz:ys.size+l.length≤LIM) :
    wpAny (model p w) A (listEmit elt (.ref D) cenv)
      (fun zz s'=>Step (fun a=>a=D∨Own cenv cc a) s s'∧q0i p w G.tab cenv s'.heap V m L∧∃ vs,s'.heap.PlainList D (ys++vs)∧RepL p w G.tab s'.heap V m l vs.toList) NoE s:=by
  have hL:LIM=65536:=by decide
  have hsl:sizeLine=2 ^ 24:=rfl
  refine q0a (Option.map_eq_some_iff.mp e) ?_;intro zw0 e1 heq;rcases zw0 with ⟨d,σ1⟩
  subst heq
  refine wpAny_bind (wpAny_mono (IH.ev rm fo st lo e1) (fun v s1 ⟨n1,x1⟩=>?_) fun zz zz h=>h)
  have hn:=x1.mv.still heff
  subst hn
  have hσ:=x1.sto heff
  apply q1w hσ
  have st1:=x1.st
  have r1:=x1.rep
  rw [List.append_nil] at st1 r1
  have step1:Step noOne s s1:=x1.mv.step.mono fun zz zz zz h=>by rw [heff] at h;cases h.1
  have hP1:=hP.at fun o e=>step1.keep D o e fun h=>h
  refine wpAny_bind (wpAny_list_append_plain hP1 (fun h' hP' hS=>wpAny_pure ?_) (by exact Nat.le_trans (Nat.le_of_lt (by assumption)) (Nat.le_of_ble_eq_true rfl)))
  have hO:∀ b o,s1.heap.get? b=some o→¬ (b=D)→h'.get? b=some o:=fun b o e hb=>(hS.2 b hb).trans e
  have hpr:∀ b o,s1.heap.get? b=some o→∃ o',h'.get? b=some o':=fun b o e=>by
    by_cases hb:b=D
    · apply q0g hb;obtain ⟨k,e'⟩:=hP';exact ⟨_,e'⟩
    · exact ⟨o,hO b o e hb⟩
  obtain ⟨st2,out2⟩:=st1.vol (O:=fun a=>a=D) (fun a h=>h▸hVD) hO hpr
  have lo1:=lo.step fo st step1
  refine ⟨?_,?_,#[v],hP',RepL.single (r1.mono out2 fun zz zz e=>e)⟩
  · refine (step1.mono fun zz zz zz h=>h.elim).trans (s':=s1) ⟨fun b o e hb=>hO b o e fun h=>hb (Or.inl h),hpr,rfl,rfl,fun zz zz e=>e,fun h=>h⟩
  · refine lo1.keep (O:=fun a=>a=D) hO ?_ ?_ out2
    · rintro h
      refine k0x lo1.ns ?_;intro f o es ep e1 e2 zw6
      obtain ⟨k,e3⟩:=hP1
      rw [h,e3] at e1;replace e1:=Option.some.inj e1;subst e1;cases e2
    · rintro x a hx h
      refine q3l (lo1.cells x a hx) ?_;intro v o e1 e2
      obtain ⟨k,e3⟩:=hP1
      rw [h,e3] at e1;replace e1:=Option.some.inj e1;subst e1;cases e2
set_option maxHeartbeats 2000000 in
theorem j1a {elt:PySem.Expr} {gens:List Comprehension} {scope:Scope} {pos:Pos} {k:Nat} {g:Comprehension} {I D:Addr} {fp:List Addr} {P:Nat→Value→Prop} {St:Nat→Heap→Prop} {items l:List Mine.D} {ys0:Array Value} {VP:Addr→Prop} {sP:Shared}
    (IH:Snd p w H0 mg G n R) (rm:q1d n A) (fo:q1m cenv cc V) (heff:cc.eff=false) (hVI:V I) (hVD:V D) (hDI:D≠I) (hOI:¬ Own cenv cc I) (hOD:¬ Own cenv cc D) (hIl:I≠cenv.locals) (hIc:∀ x a,cenv.cells.lookup x=some a→a≠I)
    (ok:k8o p w G.tab A VP m sP items I fp P St) (hold:∀ b o,sP.heap.get? b=some o→Out VP m b→s.heap.get? b=some o∧Out V m b) (hfp:∀ a,(a=D∨Own cenv cc a)→a∉fp)
    (hg:gens[k]?=some g) (ha:g.is_async=0) (hrest:gens[k+1]?=none) (st:q0k (p:=p) (w:=w) (tab:=G.tab) H0 s.heap V m σ) (lo:q0i p w G.tab cenv s.heap V m L) (hP:s.heap.PlainList D ys0)
    (hcp:cpItems R cc L σ g (fun L'=>(R.ev cc L' σ elt).map fun r=>[r.1]) items=some l) (hz:ys0.size+l.length≤LIM) (hfr:freshT g.target L=true) (hst:St 0 s.heap) :
    codeAny (model p w) A (.compLoop (.ListComp elt gens scope pos) k (.ref I) (.ref D) cenv) (fun r s'=>r=.ok .next∧
      (∀ b o,s.heap.get? b=some o→¬ (b=D∨b=I∨Own cenv cc b)→s'.heap.get? b=some o)∧(∀ b o,s.heap.get? b=some o→b≠I→∃ o',s'.heap.get? b=some o')∧
      (s'.os=s.os∧s'.drawn=s.drawn∧(∀ (j:Nat) g,s.gens[j]?=some g→s'.gens[j]?=some g)∧(AllBare s.gens→AllBare s'.gens))∧
      ∃ vs,s'.heap.PlainList D (ys0++vs)∧RepL p w G.tab s'.heap V m l vs.toList∧q0i p w G.tab cenv s'.heap V m L) s:=by
  refine j0x ok.walks ok.pres (fun i s1=>∃ done rest vs,l=done++rest∧cpItems R cc L σ g (fun L'=>(R.ev cc L' σ elt).map fun r=>[r.1]) (items.drop i)=some rest∧s1.heap.PlainList D (ys0++vs)∧RepL p w G.tab s1.heap V m done vs.toList∧
      q0k (p:=p) (w:=w) (tab:=G.tab) H0 s1.heap V m σ∧q0i p w G.tab cenv s1.heap V m L∧Step (fun a=>a=D∨a=I∨Own cenv cc a) s s1) _ (z8h hg ha hrest) rfl rfl ?_ ?_
    ⟨[],l,#[],rfl,hcp,hP,RepL.nil,st,lo,Step.refl⟩ hst
  · intro i v s1 h' tk hi hp hJ hst' hk
    refine k0w hJ ?_;clear hJ;intro done rest vs zw3 hcp1 hP1 hr1 st1 lo1 step1;rcases zw3 with rfl
    have hpI:∀ b o,s1.heap.get? b=some o→∃ o',h'.get? b=some o':=fun b o e=>by
      by_cases hb:b=I
      · apply q0g hb;refine q3l (ok.pres _ _ hst') ?_;intro o' zw1 e' zw3;exact ⟨o',e'⟩
      · exact ⟨o,hk b o hb e⟩
    obtain ⟨st2,out2⟩:=st1.vol (O:=fun a=>a=I) (fun a h=>h▸hVI) (fun b o e hb=>hk b o hb e) hpI
    have lo2:q0i p w G.tab cenv h' V m L:=lo1.keep (O:=fun a=>a=I) (fun b o e hb=>hk b o hb e) (Ne.symm hIl) (fun x a hx=>hIc x a hx) out2
    refine q0a (ok.item i v hp) ?_;intro d hd hrep
    have rd:Rep p w G.tab h' V m d v:=hrep h' V m (fun b o e ho=>by
      obtain ⟨q1,q2⟩:=hold b o e ho
      refine ⟨hk b o (fun hb=>q2.1 (hb▸hVI)) (step1.keep b o q1 fun hb=>?_),q2⟩
      rcases hb with hb | hb | hb
      · exact q2.1 (hb▸hVD)
      · exact q2.1 (hb▸hVI)
      · exact q2.1 (q4h fo b hb)) fun zz zz e=>e
    have hdrop:items.drop i=d::items.drop (i+1):=by
      rw [List.drop_eq_getElem_cons hi]
      congr 1
      rw [List.getElem?_eq_getElem hi] at hd;exact Option.some.inj hd
    rw [hdrop] at hcp1
    refine q0d fun hn=>?_
    refine q0a (Option.bind_eq_some_iff.mp hcp1) ?_;intro L1 eL hcp1
    refine q0a (Option.bind_eq_some_iff.mp hcp1) ?_;intro okb eok hcp1
    refine q0a (Option.bind_eq_some_iff.mp hcp1) ?_;intro l1 el1 hcp1
    refine q0a (Option.map_eq_some_iff.mp hcp1) ?_;intro rest' erest zw2;rcases zw2 with rfl
    refine hn ?_
    have hP2:h'.PlainList D (ys0++vs):=hP1.at fun o e=>hk D o hDI e
    have hr2:RepL p w G.tab h' V m done vs.toList:=hr1.mono out2 fun zz zz e=>e
    refine wpAny_bind (wpAny_mono (q2f (s:={ s1 with heap:=h',toks:=tk }) rm.calm fo st2 lo2 rd eL) (fun zz s3 as=>?_) fun zz zz e=>e)
    refine wpAny_bind (wpAny_mono (j0y IH rm fo heff g.ifs as.st as.lo eok) (fun okr s4 ⟨hok,step4⟩=>?_) fun zz zz e=>e)
    subst hok
    have st4:=as.st.step step4
    have lo4:=as.lo.step fo as.st step4
    have hP4:s4.heap.PlainList D (ys0++vs):=(hP2.at fun o e=>as.step.keep D o e hOD).at fun o e=>step4.keep D o e fun h=>h
    have hr4:RepL p w G.tab s4.heap V m done vs.toList:=q4r (V:=V) (m:=m) step4 (fun zz h=>h.elim) (q4r (s:={ s1 with heap:=h',toks:=tk }) (V:=V) (m:=m) as.step (fun a h=>Or.inl (q4h fo a h)) hr2)
    have lo4L:q0i p w G.tab cenv s4.heap V m L:=lo4.weak fun y d hy=>z2s eL hy hfr
    have step14:Step (fun a=>a=D∨a=I∨Own cenv cc a) s s4:=by
      refine step1.trans (Step.trans (s':={ s1 with heap:=h',toks:=tk }) ⟨fun b o e hb=>hk b o (fun h=>hb (Or.inr (Or.inl h))) e,hpI,rfl,rfl,fun zz zz e=>e,fun h=>h⟩ ?_)
      exact (as.step.mono fun a o zz h=>Or.inr (Or.inr h)).trans (step4.mono fun zz zz zz h=>h.elim)
    have st4i:St (i+1) s4.heap:=ok.walks.frame _ _ _ hst' fun b hb o e=>step4.keep b o (as.step.keep b o e fun h=>hfp b (Or.inr h) hb) fun h=>h
    have hvl:vs.size=done.length:=hr1.length
    induction okr using q2i with
    | false=>
      simp only [Bool.false_eq_true,if_false,Option.some.injEq] at el1 ⊢
      apply q1w el1
      refine wpAny_pure ⟨⟨done,rest',vs,rfl,erest,hP4,hr4,st4,lo4L,step14⟩,st4i⟩
    | true=>
      have hz':(ys0++vs).size+l1.length≤LIM:=by
        simp only [List.length_append] at hz
        simp only [Array.size_append]
        omega
      refine wpAny_mono (z8i IH rm fo heff st4 lo4 el1 hVD hOD hP4 hz') (fun zz s5 hh=>?_) fun zz zz e=>e
      refine q0d fun hn=>?_
      rcases hh with ⟨step5,lo5,vs1,hP5,hr5⟩
      have hO5:∀ a,(a=D∨Own cenv cc a)→V a:=fun a h=>h.elim (fun h=>h▸hVD) (q4h fo a)
      obtain ⟨st5,out5⟩:=st4.vol hO5 step5.keep step5.pres
      refine hn ?_
      refine ⟨⟨done++l1,rest',vs++vs1,by simp,erest,by rw [← Array.append_assoc];exact hP5,?_,st5,lo5.weak fun y d hy=>z2s eL hy hfr,step14.trans (step5.mono fun a zz zz h=>h.elim Or.inl fun h=>Or.inr (Or.inr h))⟩,?_⟩
      · rw [Array.toList_append]
        exact (hr4.mono out5 fun zz zz e=>e).append hr5
      · exact ok.walks.frame _ _ _ st4i fun b hb o e=>step5.keep b o e fun h=>hfp b h hb
  · intro s1 h' tk hJ hk
    refine k0w hJ ?_;clear hJ;intro done rest vs zw3 hcp1 hP1 hr1 st1 lo1 step1;apply q0g zw3
    rw [List.drop_length] at hcp1
    replace hcp1:=Option.some.inj hcp1
    apply q1w hcp1
    have out2:∀ b o,s1.heap.get? b=some o→Out V m b→h'.get? b=some o∧Out V m b:=fun b o e ho=>⟨hk b o (fun hb=>ho.1 (hb▸hVI)) e,ho⟩
    refine ⟨rfl,fun b o e hb=>hk b o (fun h=>hb (Or.inr (Or.inl h))) (step1.keep b o e hb),fun b o e hb=>?_,⟨step1.os,step1.drawn,step1.gens,step1.bare⟩,vs,hP1.at fun o e=>hk D o hDI e,by simpa using hr1.mono out2 fun zz zz e=>e,
      lo1.keep (O:=fun a=>a=I) (fun b o e hb=>hk b o hb e) (Ne.symm hIl) (fun x a hx=>hIc x a hx) out2⟩
    obtain ⟨o',e'⟩:=step1.pres b o e
    exact ⟨o',hk b o' hb e'⟩
end
section
variable {p:Program} {w:World} {H0:Heap} {mg mb:Str→Option Value} {G:Gl} {R:Rec} {n:Nat}
  {A:Around} {V:Addr→Prop} {m:List Addr} {σ:Sto} {s:Shared} {L:Loc} {cenv env:Env} {cc c:Cx}
theorem v7m {c:Prop} [Decidable c] {P Q:Prop} (a:P) (b:Q):if c then P else Q:=by
  by_cases h:c
  · rw [if_pos h];exact a
  · rw [if_neg h];exact b
theorem z4u {elt:PySem.Expr} {gens:List Comprehension} {scope:Scope} {pos:Pos} {k:Nat} {g:Comprehension} {it acc:Value} {RR:Result→Shared→Prop} (hg:gens[k]?=some g) (ha:g.is_async=0)
    (h0:codeAny (model p w) A (.compLoop (.ListComp elt gens scope pos) k it acc env) RR s)
    (h:wpAny (model p w) A (pyIter it) (fun it' s'=>codeAny (model p w) A (.compLoop (.ListComp elt gens scope pos) k it' acc env) RR s') (notedBy (model p w) A env fun x s'=>RR (.error x) s') s) :
    codeAny (model p w) A (.compStart (.ListComp elt gens scope pos) k it acc env) RR s:=by
  refine codeAny_of_tree ?_
  show wpAny _ A ((compStart (.ListComp elt gens scope pos) k it acc env).onRaise (fun x=>do noteFrame x env;standAt theWindowsPlace)) _ _ s
  refine wpAny_notedAt ?_
  have hcl:clausesOf (.ListComp elt gens scope pos)=gens:=rfl
  unfold compStart
  rw [hcl,hg]
  have hz:((0:Int) !=0)=false:=rfl
  rw [show Option.elim (some g) false (fun x=>x.is_async !=0)=false by show (g.is_async !=0)=false;rw [ha];exact hz,if_neg Bool.false_ne_true]
  refine wpAny_bind (wpAny_askSetting (wpAny_ite (v7m ?_ ?_)))
  · first
      | exact wpAny_bind (wpAny_pure (wpAny_pure (And.intro rfl h0)))
      | exact wpAny_pure (And.intro rfl h0)
  · first
      | exact wpAny_bind (wpAny_rule (wpAny_bind (wpAny_standAt (wpAny_bind (wpAny_mono h (fun it' s' h'=>wpAny_pure (And.intro rfl h')) fun zz zz x=>x)))))
      | (refine wpAny_bind (wpAny_rule ?_);exact wpAny_bind (wpAny_standAt (wpAny_bind (wpAny_mono h (fun it' s' h'=>wpAny_pure (And.intro rfl h')) fun zz zz x=>x))))
theorem q2t {e:PySem.Expr} (h:notSet e=true) (x:Value):foldedSetIterable e env x=pure x:=by
  induction e using PySem.Expr.casesOn<;>first | rfl | exact Mine.ff h
end
section
variable {p:Program} {w:World} {H0:Heap} {mg mb:Str→Option Value} {G:Gl} {R:Rec} {n:Nat}
  {A:Around} {V:Addr→Prop} {m:List Addr} {σ σ':Sto} {s:Shared} {L:Loc} {env:Env} {c:Cx} {d:D}
theorem q1m.of {c':Cx} {V':Addr→Prop} (fo:q1m env c V) (hs:c'.sc=c.sc) (hV:∀ a,V a→V' a):q1m env c' V':=
  ⟨fo.kind,fo.glob,fo.bui,by rw [hs];exact fo.hglob,by rw [hs];exact fo.hloc,by rw [hs];exact fo.hcell,fo.nodbg,hV _ fo.own,fun x a h=>hV a (fo.cellsV x a h),fo.apart⟩
theorem q0i.moreV {s':Shared} {V':Addr→Prop} (fo:q1m env c V) (st:q0k (p:=p) (w:=w) (tab:=G.tab) H0 s.heap V m σ) (lo:q0i p w G.tab env s.heap V m L) (x:Step noOne s s') (hV:∀ a,V' a→V a∨s.heap.get? a=none):q0i p w G.tab env s'.heap V' m L:=by
  refine lo.keep (O:=noOne) x.keep (fun h=>h) (fun zz zz zz h=>h) fun b o e ho=>⟨x.keep b o e fun h=>h,fun hv=>?_,ho.2⟩
  rcases hV b hv with h | h
  · exact ho.1 h
  · exact Mine.ns ((h).symm.trans e)
set_option maxHeartbeats 2000000 in
theorem q5a (IH:Snd p w H0 mg G n R) (rm:q1d n A) {elt:PySem.Expr} {gens:List Comprehension} {sc:Scope} {pos:Pos} {use:Option (Value→Sem Unit)} {Q:Value→Shared→Prop} (fo:q1m env c V) (st:q0k (p:=p) (w:=w) (tab:=G.tab) H0 s.heap V m σ) (lo:q0i p w G.tab env s.heap V m L)
    (e:evStep G R c L σ (.ListComp elt gens sc pos)=some (d,σ'))
    (hQ:∀ D C s5,EP p w G.tab H0 true c.eff (more V C) m σ σ' d s (.ref D) s5→Step noOne s s5→s.heap.get? C=none→(∃ f,s5.heap.Ns C f)→compPost (model p w) A NoE use Q (.ref D) C (.ok .next) s5) :
    wpAny (model p w) A (comprehension (.ListComp elt gens sc pos) sc env (firstIterPos gens pos) (newList []) (firstAsync gens) (firstIter gens env) use) Q NoE s:=by
  obtain ⟨g,hg1,e⟩:=Option.bind_eq_some_iff.mp e
  have hg1:=q0x hg1
  apply q0g hg1
  refine q0d fun hn=>?_
  obtain ⟨hc,e⟩:=ifS e
  simp only [Bool.and_eq_true,decide_eq_true_eq] at hc
  obtain ⟨⟨⟨ha,hns⟩,hok⟩,hfr⟩:=hc
  refine q0a (Option.bind_eq_some_iff.mp e) ?_;intro zw0 e1 e;rcases zw0 with ⟨d1,σ1⟩
  refine q0a (Option.bind_eq_some_iff.mp e) ?_;intro items e2 e
  obtain ⟨_,e⟩:=ifS e
  refine q0a (Option.bind_eq_some_iff.mp e) ?_;intro l e3 e
  obtain ⟨hz,e⟩:=ifS e
  refine hn ?_
  cases e
  refine q4n (z2q hok) ?_;intro k1 k2 k3 k4 k5
  refine q6e (q3q env sc.names [] (fun x hx=>by
    obtain ⟨_,q⟩:=k4 x hx
    exact (fo.hcell x q).2) (fun x a h=>by simp at h)) ?_;intro cl hcl c1 c2
  have hclos:closureFor sc env=pure cl:=by
    refine Eq.trans ?_ hcl
    unfold closureFor
    rw [bind_pure]
  have ha':firstAsync [g]=false:=by
    apply q0d;intro hG;rcases g with ⟨t,i,f,a⟩;apply hG;clear hG
    dsimp only  at ha
    apply q0g ha
    rfl
  rw [ha']
  refine wpAny_comprehension_free (g:=g) (gs:=[]) (cl:=cl) (use:=use) rfl (q2t hns) hclos k1 (fun x hx hl=>k2 x.1 (by obtain ⟨a,b⟩:=x;subst hl;exact hx)) ?_
  have hfirst:firstIter [g] env=eval g.iter env:=by rcases g with ⟨t,i,f,a⟩;rfl
  rw [hfirst]
  refine wpAny_mono (IH.ev rm (fo.of (c':={ c with eff:=false }) rfl fun zz h=>h) st lo e1) (fun v s1 ⟨n1,x1⟩=>?_) fun zz zz h=>h
  have hn:=x1.mv.still rfl
  subst hn
  have hσ:=x1.sto rfl
  dsimp only  at e2
  subst hσ
  have st1:=x1.st
  have r1:=x1.rep
  rw [List.append_nil] at st1 r1
  have step1:Step noOne s s1:=x1.mv.step.mono fun zz zz zz h=>by cases h.1
  have lo1:=lo.step fo st step1
  refine wpAny_mono (j5s rm.calm st1 e2 r1) (fun it s2 hit=>?_) fun zz zz h=>h
  apply q0d;intro hG;rcases hit with ⟨I,fp,P,St,rfl,hI,step2,⟨oI,hoI⟩,hst,ok⟩;apply hG;clear hG
  have st2:=st1.more step2 hI hoI
  refine wpAny_newObj_type ?_
  generalize hs3:({ s2 with heap:=s2.heap.push { cls:=.type "list",dict:=none,data:=.seq ([]:List Value).toArray } }:Shared)=s3
  have step3:Step noOne s2 s3:=by rw [← hs3];exact Step.of_keep (tk:=s2.toks) fun b o e=>Heap.get?_push_of_some _ e
  have hD2:=q0n s2.heap
  generalize hDe:s2.heap.objs.size=D at hD2
  have hP3:s3.heap.PlainList D #[]:=by rw [← hs3,← hDe];exact ⟨0,Heap.get?_push_size _ rfl⟩
  obtain ⟨kD,hoD⟩:=id hP3
  have st3:=st2.more step3 hD2 hoD
  have pres:∀ {a b:Shared},Step noOne a b→∀ x,b.heap.get? x=none→a.heap.get? x=none:=fun {a b} h x hx=>by
    induction e:a.heap.get? x using Mine.oC with
    | none=>rfl
    | some o=>rw [h.keep x o e fun h=>h] at hx;exact Mine.sn hx
  have fo3:q1m env c (more (more V I) D):=fo.of rfl fun a h=>Or.inl (Or.inl h)
  have lo3:q0i p w G.tab env s3.heap (more (more V I) D) m L:=lo1.moreV fo st1 (step2.trans step3) fun a h=>by
    rcases h with (h | rfl) | rfl
    · exact Or.inl h
    · exact Or.inr hI
    · exact Or.inr (pres step2 _ hD2)
  refine z8g fo3 st3 lo3 hok c1 (fun x hx=>c2 x (Or.inl hx)) fun cenv s4 V4 F=>?_
  have presV:∀ a,V a→∃ o,s1.heap.get? a=some o:=fun a h=>(st1.vin a h).1
  have pI3:∃ o,s3.heap.get? I=some o:=⟨_,step3.keep _ _ hoI fun h=>h⟩
  have some3:∀ {a:Addr},(∃ o,s3.heap.get? a=some o)→¬ s3.heap.get? a=none:=fun ⟨o,e⟩ h=>by rw [e] at h;exact Mine.sn h
  have to3:∀ b o,s1.heap.get? b=some o→s3.heap.get? b=some o:=fun b o e=>step3.keep b o (step2.keep b o e fun h=>h) fun h=>h
  have hDI:D≠I:=fun h=>by rw [h,hoI] at hD2;exact Mine.sn hD2
  have neD:∀ b o,s1.heap.get? b=some o→b≠D:=fun b o e h=>by rw [h] at e;rw [step2.keep _ _ e fun h=>h] at hD2;exact Mine.sn hD2
  have neI:∀ b o,s1.heap.get? b=some o→b≠I:=fun b o e h=>by rw [h,hI] at e;exact Mine.ns e
  have hold:∀ b o,s1.heap.get? b=some o→Out V m b→s4.heap.get? b=some o∧Out V4 m b:=fun b o e ho=>⟨F.step.keep b o (to3 b o e) fun h=>h,(fun hv=>by
    rcases F.only b hv with h | h
    · rcases h with (h | h) | h
      · exact ho.1 h
      · exact neI b o e h
      · exact neD b o e h
    · rw [to3 b o e] at h;exact Mine.sn h),ho.2⟩
  have ownNone:∀ a,Own { cenv with scope:=relabel sc env } { c with sc:=sc,eff:=false } a→s3.heap.get? a=none:=F.fresh
  have loop:=j1a (scope:=sc) (pos:=pos) (gens:=[g]) (k:=0) (ys0:=#[]) IH rm F.fo rfl (F.sub _ (Or.inl (Or.inr rfl))) (F.sub _ (Or.inr rfl)) hDI (fun h=>some3 pI3 (ownNone _ h)) (fun h=>some3 ⟨_,hoD⟩ (ownNone _ h))
    (fun h=>some3 pI3 (ownNone _ (Or.inl h))) (fun x a h hne=>by
      rcases F.cells x a h with ⟨y,q⟩ | q
      · obtain ⟨o,e⟩:=presV a (fo.cellsV y a q);exact neI a o e hne
      · exact some3 pI3 (hne▸q)) ok hold
    (fun a h hm=>by
      rcases Decidable.em (a=I) with rfl | hne
      · rcases h with h | h
        · exact hDI h.symm
        · exact some3 pI3 (ownNone _ h)
      · obtain ⟨⟨o,e⟩,hv⟩:=ok.fpok a hm hne
        rcases h with h | h
        · exact neD a o e h
        · exact some3 ⟨o,to3 a o e⟩ (ownNone _ h)) rfl ha rfl F.st F.lo (hP3.at fun o e=>F.step.keep _ _ e fun h=>h) e3 (by simpa using hz) hfr (ok.walks.frame _ _ _ (ok.walks.frame _ _ _ hst fun b hb o e=>step3.keep b o e fun h=>h) fun b hb o e=>F.step.keep b o e fun h=>h)
  have stD:∀ b o,s.heap.get? b=some o→s1.heap.get? b=some o:=fun b o e=>step1.keep b o e fun h=>h
  have hDs:s.heap.get? D=none:=pres step1 _ (pres step2 _ hD2)
  have hDC:D≠cenv.locals:=fun h=>some3 ⟨_,hoD⟩ (h▸ownNone _ (Or.inl rfl))
  have post:codeAny (model p w) A (.compLoop (.ListComp elt [g] sc pos) 0 (.ref I) (.ref D) { cenv with scope:=relabel sc env }) (compPost (model p w) A NoE use Q (.ref D) cenv.locals) s4:=by
    refine codeAny_mono loop fun r s5 hr=>?_
    apply q0d;intro hG;rcases hr with ⟨rfl,q1,q2,q3,vs,hP5,hr5,lo5⟩;apply hG;clear hG
    have hCs:s.heap.get? cenv.locals=none:=pres step1 _ (pres step2 _ (pres step3 _ (ownNone _ (Or.inl rfl))))
    have hDC':D≠cenv.locals:=hDC
    obtain ⟨f5,hns5⟩:=lo5.ns
    have keepF:∀ b o,s.heap.get? b=some o→s5.heap.get? b=some o:=fun b o e=>by
      have e1:=stD b o e
      have e3:=to3 b o e1
      have hno:¬ Own { cenv with scope:=relabel sc env } { c with sc:=sc,eff:=false } b:=fun h=>some3 ⟨o,e3⟩ (ownNone _ h)
      refine q1 b o (F.step.keep b o e3 fun h=>h) fun h=>?_
      rcases h with h | h | h
      · exact neD b o e1 h
      · exact neI b o e1 h
      · exact hno h
    have stepF:Step noOne s s5:=
      ⟨fun b o e zz=>keepF b o e,fun b o e=>⟨o,keepF b o e⟩,q3.1.trans (F.step.os.trans (step3.os.trans (step2.os.trans step1.os))),q3.2.1.trans (F.step.drawn.trans (step3.drawn.trans (step2.drawn.trans step1.drawn))),
        fun j g h=>q3.2.2.1 j g (F.step.gens j g (step3.gens j g (step2.gens j g (step1.gens j g h)))),fun h=>q3.2.2.2 (F.step.bare (step3.bare (step2.bare (step1.bare h))))⟩
    have hPF:s5.heap.PlainList D vs:=by simpa using hP5
    have outF:∀ b o,s5.heap.get? b=some o→Out V4 m b→s5.heap.get? b=some o∧Out (more (more V cenv.locals) D) m b:=fun b o e ho=>
      ⟨e,fun h=>ho.1 (h.elim (fun h=>h.elim (fun h=>F.sub b (Or.inl (Or.inl h))) fun h=>h▸F.fo.own) fun h=>F.sub b (Or.inr h)),ho.2⟩
    have rF:RepL p w G.tab s5.heap (more (more V cenv.locals) D) m l vs.toList:=hr5.mono outF fun zz zz e=>e
    have rF':RepL p w G.tab s5.heap (more V cenv.locals) m l vs.toList:=rF.mono (fun b o e ho=>⟨e,fun h=>ho.1 (Or.inl h),ho.2⟩) fun zz zz e=>e
    obtain ⟨kF,hoF⟩:=id hPF
    have hC5:∃ o,s5.heap.get? cenv.locals=some o:=let ⟨o,_,_,e,_⟩:=hns5;⟨o,e⟩
    obtain ⟨oC,hoC⟩:=hC5
    have st5:=st.more stepF hCs hoC
    have st5':q0k (p:=p) (w:=w) (tab:=G.tab) H0 s5.heap (more (more V cenv.locals) D) m σ1:=st.moreAll stepF fun a h=>by
      rcases h with (h | rfl) | rfl
      · exact Or.inl h
      · exact Or.inr ⟨hCs,oC,hoC⟩
      · exact Or.inr ⟨hDs,_,hoF⟩
    have nvD:¬ V D:=fun h=>by obtain ⟨o,e⟩:=(st.vin D h).1;rw [hDs] at e;exact Mine.ns e
    have nvD':¬ more V cenv.locals D:=fun h=>h.elim nvD hDC'
    have dm:D∉m:=(Out.fresh st hDs).2
    refine hQ D cenv.locals s5 ⟨[],Mv.of_step stepF,fun zz=>rfl,by rw [List.append_nil];exact st5,?_,fun zz l' hl=>?_⟩ stepF hCs ⟨f5,hns5⟩
    · rw [List.append_nil]
      exact ⟨D,vs,rfl,⟨nvD',dm⟩,hPF.isList,rF'⟩
    · cases hl
      rw [List.append_nil]
      exact ⟨D,vs,rfl,hDs,nvD',hPF,rF,st5'⟩
  exact z4u rfl ha post (ok.walks.self 0 _ _ _ (ok.walks.frame _ _ _ (ok.walks.frame _ _ _ hst fun b hb o e=>step3.keep b o e fun h=>h) fun b hb o e=>F.step.keep b o e fun h=>h) post)
theorem EP.drop {fr eff:Bool} {v:Value} {s':Shared} {C:Addr} {h':Heap} (x:EP p w G.tab H0 fr eff (more V C) m σ σ' d s v s') (hC:s.heap.get? C=none) (hVC:¬ V C) (hs:Heap.SameBut C s'.heap h'):EP p w G.tab H0 fr eff V m σ σ' d s v { s' with heap:=h' }:=by
  obtain ⟨n,x⟩:=x
  have out:∀ {W:Addr→Prop} {m'} b o,s'.heap.get? b=some o→Out (fun a=>W a∨a=C) m' b→h'.get? b=some o∧Out W m' b:=fun b o e ho=>⟨(hs.2 b fun h=>ho.1 (Or.inr h)).trans e,fun h=>ho.1 (Or.inl h),ho.2⟩
  have drop:∀ {W:Addr→Prop} {m' σ''},q0k (p:=p) (w:=w) (tab:=G.tab) H0 s'.heap (fun a=>W a∨a=C) m' σ''→¬ W C→q0k (p:=p) (w:=w) (tab:=G.tab) H0 h' W m' σ'':=fun {W m' σ''} st hW=>by
    refine ⟨fun b o e=>(hs.2 b fun h=>?_).trans (st.kept b o e),fun b hb=>?_,st.mge,st.len,st.nodup,fun b hb hv=>st.sep b hb (Or.inl hv),fun k b ds h1 h2=>?_⟩
    · have:=(st.vin C (Or.inr rfl)).2;rw [h,this] at e;exact Mine.ns e
    · obtain ⟨⟨o,e⟩,h2⟩:=st.vin b (Or.inl hb)
      exact ⟨⟨o,(hs.2 b fun h=>hW (h▸hb)).trans e⟩,h2⟩
    · refine q0a (st.cell k b ds h1 h2) ?_;intro vs zw1 h4;rcases zw1 with ⟨k',h3⟩
      exact ⟨vs,⟨k',(hs.2 b fun h=>st.sep b (List.mem_of_getElem? h1) (Or.inr h)).trans h3⟩,h4.mono out fun zz zz e=>e⟩
  have ne:∀ b o,s.heap.get? b=some o→b≠C:=fun b o e h=>by rw [h,hC] at e;exact Mine.ns e
  refine ⟨n,⟨x.mv.fresh,x.mv.still,⟨fun b o e hb=>(hs.2 b (ne b o e)).trans (x.mv.step.keep b o e hb),fun b o e=>?_,x.mv.step.os,x.mv.step.drawn,x.mv.step.gens,x.mv.step.bare⟩⟩,x.sto,drop x.st hVC,x.rep.mono out fun zz zz e=>e,fun h l hl=>?_⟩
  · obtain ⟨o',e'⟩:=x.mv.step.pres b o e
    exact ⟨o',(hs.2 b (ne b o e)).trans e'⟩
  · refine q3i (x.fr h l hl) ?_;intro a vs f
    have haC:a≠C:=fun h=>f.nv (Or.inr h)
    obtain ⟨k',hk'⟩:=f.obj
    have sw:∀ b,((fun b=>more V a b∨b=C) b)→more (more V C) a b:=fun b h=>by
      rcases h with (h | h) | h
      · exact Or.inl (Or.inl h)
      · exact Or.inr h
      · exact Or.inl (Or.inr h)
    have sw':∀ b,more (more V C) a b→((fun b=>more V a b∨b=C) b):=fun b h=>by
      rcases h with (h | h) | h
      · exact Or.inl (Or.inl h)
      · exact Or.inr h
      · exact Or.inl (Or.inr h)
    have st':q0k (p:=p) (w:=w) (tab:=G.tab) H0 s'.heap (fun b=>more V a b∨b=C) (m++n) σ':=by
      have:(fun b=>more V a b∨b=C)=more (more V C) a:=by funext b;exact propext ⟨sw b,sw' b⟩
      rw [this];exact f.st
    have rep':RepL p w G.tab s'.heap (fun b=>more V a b∨b=C) (m++n) l vs.toList:=by
      have:(fun b=>more V a b∨b=C)=more (more V C) a:=by funext b;exact propext ⟨sw b,sw' b⟩
      rw [this];exact f.rep
    exact ⟨a,vs,f.val,f.new,fun h=>f.nv (Or.inl h),⟨k',(hs.2 a haC).trans hk'⟩,rep'.mono out fun zz zz e=>e,drop st' fun h=>h.elim hVC fun h=>haC h.symm⟩
theorem q9g (IH:Snd p w H0 mg G n R) (rm:q1d n A) {elt:PySem.Expr} {gens:List Comprehension} {sc:Scope} {pos:Pos} (fo:q1m env c V) (st:q0k (p:=p) (w:=w) (tab:=G.tab) H0 s.heap V m σ) (lo:q0i p w G.tab env s.heap V m L)
    (e:evStep G R c L σ (.ListComp elt gens sc pos)=some (d,σ')):wpAny (model p w) A (eval (.ListComp elt gens sc pos) env) (EP p w G.tab H0 true c.eff V m σ σ' d s) NoE s:=by
  refine q5a IH rm fo st lo e fun D C s5 x step hC ⟨f,hns⟩=>⟨f,hns,fun h' hs=>?_⟩
  exact x.drop hC (fun h=>by obtain ⟨o,e⟩:=(st.vin C h).1;exact Mine.ns ((hC).symm.trans e)) hs
end
section
variable {p:Program} {w:World} {H0:Heap} {mg mb:Str→Option Value} {G:Gl} {R:Rec} {k:Nat}
  {A:Around} {V:Addr→Prop} {m:List Addr} {σ σ':Sto} {s:Shared} {L:Loc} {env:Env} {c:Cx} {d:D}
theorem z8j (gd:Gnd p w H0 mg mb G) (IH:Snd p w H0 mg G k R) (rm:q1d k A) (hk10:10≤k) {f:Str} {es:List PySem.Expr} {pf pos:Pos} (fo:q1m env c V) (st:q0k (p:=p) (w:=w) (tab:=G.tab) H0 s.heap V m σ) (lo:q0i p w G.tab env s.heap V m L)
    (e:nameCall G R c L σ f es=some (d,σ')):wpAny (model p w) A (eval (.Call (.Name f pf) es [] pos) env) (EP p w G.tab H0 false c.eff V m σ σ' d s) NoE s:=by
  obtain ⟨hc,e⟩:=ifS e
  simp only [Bool.and_eq_true,lits] at hc
  refine q0a (Option.bind_eq_some_iff.mp e) ?_;intro zw0 e1 e2;rcases zw0 with ⟨ds,σ1⟩
  induction es using q1h with
  | nil=>exact ff hc.1.2
  | cons x es=>exact z8f gd IH rm hk10 fo st lo hc.1.1.1.1 hc.1.1.2.1 e1 e2
set_option tactic.hygienic true in
set_option maxHeartbeats 1000000 in
theorem j5t (gd:Gnd p w H0 mg mb G) (IH:Snd p w H0 mg G k R) (rm:q1d k A) (hk10:10≤k) {x:PySem.Expr} (fo:q1m env c V) (st:q0k (p:=p) (w:=w) (tab:=G.tab) H0 s.heap V m σ) (lo:q0i p w G.tab env s.heap V m L)
    (e:evStep G R c L σ x=some (d,σ')):wpAny (model p w) A (eval x env) (EP p w G.tab H0 (isFresh x) c.eff V m σ σ' d s) NoE s:=by
  induction x using PySem.Expr.casesOn with
  | Constant q kk pos=>exact q9e st e
  | Name y pos=>exact z8a gd fo st lo e
  | BoolOp op es pos=>exact z2o IH rm fo st lo e
  | BinOp l op r pos=>exact z4p IH rm fo st lo e
  | UnaryOp op y pos=>exact z4q IH rm fo st lo e
  | IfExp t a b pos=>exact z4r IH rm fo st lo e
  | ListComp elt gens sc pos=>exact q9g IH rm fo st lo e
  | Compare l ops rs pos=>exact z0u IH rm fo st lo e
  | Call f args ks pos=>
    induction ks using q1h with
    | cons _ _=>exact ns e
    | nil=>
      induction f using PySem.Expr.casesOn with
      | Name g pf=>exact z8j gd IH rm hk10 fo st lo e
      | Attribute o mth apos=>exact z2p IH rm fo st lo e
      | _=>exact ns e
  | Subscript o i pos=>
    by_cases hi:notPlainSlice i=true
    · exact z8c IH rm fo st lo hi e
    · induction i using PySem.Expr.casesOn<;>try (exact absurd rfl hi)
      rename_i lo' hi' st' p1
      induction st' using Mine.oC with
      | none=>exact z4t IH rm fo st lo e
      | some _=>exact absurd rfl hi
  | List es pos=>exact z8b IH rm fo st lo e
  | Tuple es kk pos=>exact z4s IH rm fo st lo e
  | _=>exact ns e
end
section
variable {p:Program} {w:World} {H0:Heap} {mg mb:Str→Option Value} {G:Gl} {R:Rec} {k:Nat}
  {A:Around} {V:Addr→Prop} {m n:List Addr} {σ σ':Sto} {s:Shared} {L L':Loc} {env:Env} {c:Cx} {d:D} {fl:Fl}
theorem SPn.chain {s1 s2:Shared} {f:Flow} {n':List Addr} (h1:∀ a∈n,s.heap.get? a=none) (h2:Step (fun a=>a∈m∨Own env c a) s s1) (y:SPn p w H0 G env c V (m++n) σ' L' fl s1 f s2 n'):SPn p w H0 G env c V m σ' L' fl s f s2 (n++n'):=
  ⟨fun a ha=>(List.mem_append.mp ha).elim (h1 a) fun h=>h2.none (y.fresh a h),h2.trans' y.step fun a o e h=>h.imp (fun h=>(List.mem_append.mp h).elim (fun h=>h) fun h=>ns ((h1 a h).symm.trans e)) fun h=>h,
    List.append_assoc m n n'▸y.st,List.append_assoc m n n'▸y.lo,List.append_assoc m n n'▸y.flow⟩
theorem SP.after {eff:Bool} {s1 s2:Shared} {f:Flow} (x:Mv eff m n s s1) (y:SP p w H0 G env c V (m++n) σ' L' fl s1 f s2):SP p w H0 G env c V m σ' L' fl s f s2:=
  y.elim fun n' y=>⟨n++n',y.chain x.fresh (x.step.mono fun zz zz zz h=>Or.inl h.2)⟩
theorem SP.then {σ1:Sto} {L1:Loc} {s1 s2:Shared} {f1 f:Flow} {fl1:Fl} (x:SP p w H0 G env c V m σ1 L1 fl1 s f1 s1)
    (y:∀ n,q0k (p:=p) (w:=w) (tab:=G.tab) H0 s1.heap V (m++n) σ1→q0i p w G.tab env s1.heap V (m++n) L1→SP p w H0 G env c V (m++n) σ' L' fl s1 f s2):SP p w H0 G env c V m σ' L' fl s f s2:=
  x.elim fun n x=>(y n x.st x.lo).elim fun n' y=>⟨n++n',y.chain x.fresh x.step⟩
theorem SPn.here {f:Flow} (st:q0k (p:=p) (w:=w) (tab:=G.tab) H0 s.heap V m σ) (lo:q0i p w G.tab env s.heap V m L) (hf:flowV p w G s.heap V m fl f):SPn p w H0 G env c V m σ L fl s f s []:=
  ⟨fun zz h=>absurd h List.not_mem_nil,Step.refl,(List.append_nil m).symm▸st,(List.append_nil m).symm▸lo,(List.append_nil m).symm▸hf⟩
theorem SPn.of_mv {eff:Bool} {s1:Shared} (x:Mv eff m n s s1) (st:q0k (p:=p) (w:=w) (tab:=G.tab) H0 s1.heap V (m++n) σ) (lo:q0i p w G.tab env s1.heap V (m++n) L):SPn p w H0 G env c V m σ L .next s .next s1 n:=
  ⟨x.fresh,x.step.mono fun zz zz zz h=>Or.inl h.2,st,lo,rfl⟩
theorem SPn.before {s1 s2:Shared} {f:Flow} (x:Step (Own env c) s s1) (y:SPn p w H0 G env c V m σ' L' fl s1 f s2 n):SPn p w H0 G env c V m σ' L' fl s f s2 n:=
  ⟨fun a h=>x.none (y.fresh a h),(x.mono fun zz zz zz h=>Or.inr h).trans y.step,y.st,y.lo,y.flow⟩
theorem SPn.turn {M:Flow→Prop} {K:Loc→Sto→Option (Fl × Loc × Sto)} {fl1:Fl} {L3:Loc} {σ3:Sto} {f:Flow} {s4:Shared} (y:SPn p w H0 G env c V m σ3 L3 fl1 s f s4 n)
    (h:flowOn K (fl1,L3,σ3)=some (fl,L',σ')) (go:K L3 σ3=some (fl,L',σ')→SPn p w H0 G env c V m σ3 L3 .next s .next s4 n→M .next) (hc:M .next→M .cont)
    (out:SPn p w H0 G env c V m σ' L' fl s .next s4 n→M .brk) (outV:∀ v,SPn p w H0 G env c V m σ' L' fl s (.ret v) s4 n→M (.ret v)):M f:=by
  have z:SPn p w H0 G env c V m σ3 L3 .next s .next s4 n:=⟨y.fresh,y.step,y.st,y.lo,rfl⟩
  have hf:=y.flow
  cases fl1 with
  | next=>replace hf:=(hf:_=_);apply q0g hf;exact go h z
  | cont=>replace hf:=(hf:_=_);apply q0g hf;exact hc (go h z)
  | brk=>replace hf:=(hf:_=_);apply q0g hf;cases h;exact out z
  | ret d=>obtain ⟨v,rfl,r'⟩:=hf;cases h;exact outV v ⟨y.fresh,y.step,y.st,y.lo,v,rfl,r'⟩
theorem SP.here {f:Flow} (st:q0k (p:=p) (w:=w) (tab:=G.tab) H0 s.heap V m σ) (lo:q0i p w G.tab env s.heap V m L) (hf:flowV p w G s.heap V m fl f):SP p w H0 G env c V m σ L fl s f s:=⟨[],SPn.here st lo hf⟩
theorem z2t {h:Heap}:flowV p w G h V m .next .next:=rfl
theorem z2u (IH:Snd p w H0 mg G k R) (rm:q1d k A) {x:PySem.Expr} {pos:Pos} (fo:q1m env c V) (st:q0k (p:=p) (w:=w) (tab:=G.tab) H0 s.heap V m σ) (lo:q0i p w G.tab env s.heap V m L)
    (e:exStep G R c L σ (.Return (some x) pos)=some (fl,L',σ')):wpAny (model p w) A (exec (.Return (some x) pos) env) (SP p w H0 G env c V m σ' L' fl s) NoE s:=by
  refine q0a (Option.map_eq_some_iff.mp e) ?_;intro zw0 e1 heq;rcases zw0 with ⟨d,σ1⟩
  apply Mine.tq3 heq
  refine wpAny_Return_some (wpAny_mono (IH.ev rm fo st lo e1) (fun v s1 ⟨n1,x1⟩=>?_) fun zz zz h=>h)
  exact SP.after x1.mv (SP.here x1.st (x1.mv.loc fo st lo) ⟨v,rfl,x1.rep⟩)
theorem z8k (IH:Snd p w H0 mg G k R) (rm:q1d k A) {f:PySem.Expr} {as:List PySem.Expr} {ks:List Keyword} {pc pos:Pos} (fo:q1m env c V) (st:q0k (p:=p) (w:=w) (tab:=G.tab) H0 s.heap V m σ) (lo:q0i p w G.tab env s.heap V m L)
    (e:exStep G R c L σ (.Expr (.Call f as ks pc) pos)=some (fl,L',σ')):wpAny (model p w) A (exec (.Expr (.Call f as ks pc) pos) env) (SP p w H0 G env c V m σ' L' fl s) NoE s:=by
  refine q0a (Option.bind_eq_some_iff.mp e) ?_;intro zw0 e1 e2;rcases zw0 with ⟨d,σ1⟩
  refine wpAny_Expr (wpAny_mono (IH.ev rm fo st lo e1) (fun v s1 ⟨n1,x1⟩=>?_) fun zz zz h=>h) (by unfold interactive;rw [fo.kind];rfl) rfl
  refine Mine.iteE e2 ?_ ?_<;>clear e2<;>intro hd e2
  · replace hd:=z4g hd;subst hd
    apply z0k e2
    have r:=x1.rep
    apply q0g r
    exact SP.after x1.mv (SP.here x1.st (x1.mv.loc fo st lo) z2t)
  · exact Mine.ns e2
theorem q3r (IH:Snd p w H0 mg G k R) (rm:q1d k A) (fo:q1m env c V) (heff:c.eff=true) (sts:List Stmt) {m:List Addr} {σ σ':Sto} {L L':Loc} {s:Shared} {fl:Fl} (st:q0k (p:=p) (w:=w) (tab:=G.tab) H0 s.heap V m σ) (lo:q0i p w G.tab env s.heap V m L)
    (e:exs R c L σ sts=some (fl,L',σ')):wpAny (model p w) A (execs sts env) (SP p w H0 G env c V m σ' L' fl s) NoE s:=by
  induction sts generalizing m σ L s with
  | nil=>
    apply z0k e
    exact wpAny_execs_nil (SP.here st lo z2t)
  | cons x sts ih=>
    obtain ⟨⟨fl1,L1,σ1⟩,e1,e2⟩:=Option.bind_eq_some_iff.mp e
    refine wpAny_execs_cons (wpAny_mono (IH.ex rm fo heff st lo e1) (fun f s1 h1=>?_) fun zz zz h=>h)
    obtain ⟨n1,y⟩:=id h1
    have hf:=y.flow
    cases fl1 with
    | next=>
      replace hf:=(hf:_=_);subst hf
      exact wpAny_mono (ih y.st y.lo e2) (fun f s2 h2=>h2.elim fun n' z=>⟨n1++n',z.chain y.fresh y.step⟩) fun zz zz h=>h
    | brk=>replace hf:=(hf:_=_);subst hf;apply z0k e2;exact h1
    | cont=>replace hf:=(hf:_=_);subst hf;apply z0k e2;exact h1
    | ret d=>obtain ⟨v,rfl,r⟩:=hf;apply z0k e2;exact h1
theorem j5u (IH:Snd p w H0 mg G k R) (rm:q1d k A) {t:PySem.Expr} {a b:List Stmt} {pos:Pos} (fo:q1m env c V) (heff:c.eff=true) (st:q0k (p:=p) (w:=w) (tab:=G.tab) H0 s.heap V m σ) (lo:q0i p w G.tab env s.heap V m L)
    (e:exStep G R c L σ (.If t a b pos)=some (fl,L',σ')):wpAny (model p w) A (exec (.If t a b pos) env) (SP p w H0 G env c V m σ' L' fl s) NoE s:=by
  refine q0a (Option.bind_eq_some_iff.mp e) ?_;intro zw0 e1 e2;rcases zw0 with ⟨bb,σ1⟩
  refine wpAny_If (wpAny_mono (IH.ts rm fo st lo e1) (fun r s1 hh=>?_) fun zz zz h=>h)
  apply q0d;intro hG;rcases hh with ⟨hr,n1,mv,hs,st1⟩;apply hG;clear hG
  subst hr
  have lo1:=mv.loc fo st lo
  induction r using q2i with
  | true=>exact wpAny_mono (q3r IH rm fo heff a st1 lo1 e2) (fun f s2 y=>SP.after mv y) fun zz zz h=>h
  | false=>exact wpAny_mono (q3r IH rm fo heff b st1 lo1 e2) (fun f s2 y=>SP.after mv y) fun zz zz h=>h
end
section
variable {p:Program} {w:World} {H0:Heap} {mg mb:Str→Option Value} {G:Gl} {R:Rec} {k:Nat}
  {A:Around} {V:Addr→Prop} {m n:List Addr} {σ σ' σ1:Sto} {s s1:Shared} {L L':Loc} {env:Env} {c:Cx} {d:D} {fl:Fl}
set_option tactic.hygienic true in
theorem z0v {x:Str} {e:PySem.Expr} {v:Value} (heff:c.eff=true) (y:EP p w G.tab H0 (isFresh e) c.eff V m σ σ1 d s v s1):EP p w G.tab H0 false c.eff V m σ (owned c x e d σ1).2 (owned c x e d σ1).1 s v s1:=by
  unfold owned
  split
  · rename_i hc
    simp only [Bool.and_eq_true] at hc
    induction d using D.casesOn<;>try (exact y.weak)
    obtain ⟨n,y⟩:=y
    rw [hc.2] at y
    exact k2d heff y
  · exact y.weak
theorem SP.stored {v:Value} {n:List Addr} {s2:Shared} (y:EPn p w G.tab H0 false c.eff V m σ σ1 d s v s1 n) (as:AsP p w G.tab H0 env c V (m++n) σ1 L' s1 s2):SP p w H0 G env c V m σ1 L' .next s .next s2:=
  SP.after y.mv ⟨[],fun zz h=>(by cases h),as.step.mono fun zz zz zz h=>Or.inr h,by rw [List.append_nil];exact as.st,by rw [List.append_nil];exact as.lo,rfl⟩
theorem q6s (IH:Snd p w H0 mg G k R) (rm:q1d k A) (heff:c.eff=true) {x:Str} {p1 pos:Pos} {e:PySem.Expr} (fo:q1m env c V) (st:q0k (p:=p) (w:=w) (tab:=G.tab) H0 s.heap V m σ) (lo:q0i p w G.tab env s.heap V m L)
    (h:exStep G R c L σ (.Assign [.Name x p1] e pos)=some (fl,L',σ')) (hs:swapsWith e (some (.Name x p1)) pos.line env=pure false) :
    wpAny (model p w) A (exec (.Assign [.Name x p1] e pos) env) (SP p w H0 G env c V m σ' L' fl s) NoE s:=by
  refine q0d fun hn=>?_
  refine q0a (Option.bind_eq_some_iff.mp h) ?_;intro zw0 e1 h;rcases zw0 with ⟨d,σ1⟩
  refine q0a (Option.map_eq_some_iff.mp h) ?_;intro L1 e2 heq
  refine hn ?_
  apply Mine.tq3 heq
  refine wpAny_Assign_Name (wpAny_mono (IH.ev rm fo st lo e1) (fun v s1 y=>?_) fun zz zz h=>h) hs
  obtain ⟨n1,y⟩:=z0v (x:=x) heff y
  exact wpAny_mono (q1u fo y.st (y.mv.loc fo st lo) y.rep e2) (fun zz s2 as=>SP.stored y as) fun zz zz h=>h
theorem q7v (IH:Snd p w H0 mg G k R) (rm:q1d k A) {x:Str} {p1 pos:Pos} {op:Operator} {e:PySem.Expr} (fo:q1m env c V) (st:q0k (p:=p) (w:=w) (tab:=G.tab) H0 s.heap V m σ) (lo:q0i p w G.tab env s.heap V m L)
    (h:exStep G R c L σ (.AugAssign (.Name x p1) op e pos)=some (fl,L',σ')) :
    wpAny (model p w) A (exec (.AugAssign (.Name x p1) op e pos) env) (SP p w H0 G env c V m σ' L' fl s) NoE s:=by
  refine q0d fun hn=>?_
  obtain ⟨a,ha,h⟩:=Option.bind_eq_some_iff.mp h
  refine q0a (Option.bind_eq_some_iff.mp ha) ?_;intro da ha hi
  refine q0a (Option.bind_eq_some_iff.mp h) ?_;intro zw0 e1 h;rcases zw0 with ⟨d,σ1⟩
  refine q0a (Option.bind_eq_some_iff.mp h) ?_;intro b hb h
  refine q0a (Option.bind_eq_some_iff.mp h) ?_;intro r hr h
  refine q0a (Option.map_eq_some_iff.mp h) ?_;intro L1 e2 heq
  refine hn ?_
  apply Mine.tq3 heq
  refine q0a (lo.vars x _ ha) ?_;intro v hv rv
  obtain ⟨t,rfl⟩:=q4t hi rv
  have load:∀ {Q:Value→Shared→Prop},Q (.int a t) s→wpAny (model p w) A (loadName env x) Q NoE s:=fun hq=>
    hv.elim (fun q=>q.2.elim fun f q2=>wpAny_loadName_local fo.kind q.1 q2.1 q2.2 hq) fun q=>q.2.elim fun b q2=>wpAny_loadName_cell fo.kind q.1 q2.1 q2.2 hq
  refine wpAny_AugAssign_Name (load (wpAny_mono (IH.ev rm fo st lo e1) (fun v s1 y0=>?_) fun zz zz h=>h))
  obtain ⟨n1,y⟩:=EP.weak y0
  obtain ⟨u,hq57⟩:=q4t hb y.rep
  apply q0g hq57
  have fin:wpAny (model p w) A (storeName env x (.int r s1.toks)) (fun zz s'=>SP p w H0 G env c V m σ1 L1 .next s .next s') NoE { s1 with toks:=s1.toks+1 }:=by
    have x1:Step noOne s1 { s1 with toks:=s1.toks+1 }:=Step.toks (s1.toks+1)
    refine wpAny_mono (q1u (s:={ s1 with toks:=s1.toks+1 }) fo (y.st.step x1) ((y.mv.loc fo st lo).step fo y.st x1) q1k e2) (fun zz s2 as=>?_) fun zz zz h=>h
    exact SP.stored y (as.before x1)
  cases op<;>first | exact ns hr | skip
  · replace hr:=Option.some.inj hr;subst hr
    exact PyProof.Rows.iadd_int fin
  · replace hr:=Option.some.inj hr;subst hr
    exact PyProof.Rows.isub_int fin
end
section
variable {p:Program} {w:World} {H0:Heap} {mg mb:Str→Option Value} {G:Gl} {R:Rec} {k:Nat}
  {A:Around} {V:Addr→Prop} {m n:List Addr} {σ σ' σ1:Sto} {s s1:Shared} {L L':Loc} {env:Env} {c:Cx} {d:D} {fl:Fl}
theorem q0k.drop {h h':Heap} {C:Addr} (st:q0k (p:=p) (w:=w) (tab:=G.tab) H0 h (Mine.more V C) m σ) (hVC:¬ V C) (hs:Heap.SameBut C h h'):q0k (p:=p) (w:=w) (tab:=G.tab) H0 h' V m σ:=
  st.to (fun b o e=>(hs.2 b fun h=>ns ((st.vin C (Or.inr rfl)).2.symm.trans (h▸e))).trans (st.kept b o e)) (fun b hb=>(st.vin b (Or.inl hb)).imp (fun h=>h.elim fun o e=>⟨o,(hs.2 b fun h=>hVC (h▸hb)).trans e⟩) fun h=>h)
    fun b o e hb=>⟨(hs.2 b fun h=>hb (Or.inr h)).trans e,fun h=>hb (Or.inl h)⟩
theorem z8l {x:Str} {p1:Pos} {e:PySem.Expr} {D C:Addr} {s5:Shared} (heff:c.eff=true) (fo:q1m env c V) (st:q0k (p:=p) (w:=w) (tab:=G.tab) H0 s.heap V m σ) (lo:q0i p w G.tab env s.heap V m L)
    (y0:EP p w G.tab H0 (isFresh e) c.eff (more V C) m σ σ1 d s (.ref D) s5) (hC:s.heap.get? C=none) (hns:∃ f,s5.heap.Ns C f) (e2:put1 c.sc x (owned c x e d σ1).1 L=some L') :
    compPost (model p w) A NoE (some (assign (.Name x p1) env)) (fun zz s'=>SP p w H0 G env c V m (owned c x e d σ1).2 L' .next s .next s') (.ref D) C (.ok .next) s5:=by
  obtain ⟨n1,y⟩:=z0v (x:=x) heff y0
  have hVC:¬ V C:=fun h=>by obtain ⟨o,e⟩:=(st.vin C h).1;exact Mine.ns ((hC).symm.trans e)
  have fo':q1m env c (more V C):=fo.of rfl fun zz h=>Or.inl h
  have pV:∀ a,V a→∃ o,s.heap.get? a=some o:=fun a h=>(st.vin a h).1
  have neC:∀ a,V a→a≠C:=fun a h e=>hVC (e▸h)
  have lo5:q0i p w G.tab env s5.heap (more V C) (m++n1) L:=lo.go (y.mv.same fo.own st) (fun x a hx=>y.mv.same (fo.cellsV x a hx) st) (fun b o e ho=>by
    obtain ⟨q1,q2⟩:=y.mv.out b o e ho
    exact ⟨q1,(by
      rintro (h | h)
      · exact q2.1 h
      · rw [h,hC] at e;exact Mine.ns e),q2.2⟩) fun zz zz h=>q3f h
  show wpAny _ A (assign (.Name x p1) env (.ref D)) _ _ s5
  refine wpAny_assign_Name (wpAny_mono (q1u fo' y.st lo5 y.rep e2) (fun zz s6 as=>?_) fun zz zz h=>h)
  have hOC:¬ Own env c C:=fun h=>hVC (q4h fo C h)
  obtain ⟨f,hf⟩:=hns
  have hf6:s6.heap.Ns C f:=by
    apply q0d;intro hG;rcases hf with ⟨o,es,ep,e,r⟩;apply hG;clear hG
    exact ⟨o,es,ep,as.step.keep C o e hOC,r⟩
  refine ⟨f,hf6,fun h' hs=>?_⟩
  have ne:∀ b o,s.heap.get? b=some o→b≠C:=fun b o e h=>by rw [h,hC] at e;exact Mine.ns e
  refine ⟨n1,y.mv.fresh,⟨fun b o e hb=>?_,fun b o e=>?_,as.step.os.trans y.mv.step.os,as.step.drawn.trans y.mv.step.drawn,fun j g h=>as.step.gens j g (y.mv.step.gens j g h),fun h=>as.step.bare (y.mv.step.bare h)⟩,as.st.drop hVC hs,?_,rfl⟩
  · exact (hs.2 b (ne b o e)).trans (as.step.keep b o (y.mv.step.keep b o e fun h=>hb (Or.inl h.2)) fun h=>hb (Or.inr h))
  · obtain ⟨o1,e1⟩:=y.mv.step.pres b o e
    obtain ⟨o2,e2⟩:=as.step.pres b o1 e1
    exact ⟨o2,(hs.2 b (ne b o e)).trans e2⟩
  · exact as.lo.go (fun o e=>(hs.2 _ (neC _ fo.own)).trans e) (fun x a hx o e=>(hs.2 _ (neC _ (fo.cellsV x a hx))).trans e) (fun b o e ho=>⟨(hs.2 b fun h=>ho.1 (Or.inr h)).trans e,fun h=>ho.1 (Or.inl h),ho.2⟩) fun zz zz h=>h
theorem z0w (gd:Gnd p w H0 mg mb G) (IH:Snd p w H0 mg G k R) (rm:q1d k A) (heff:c.eff=true) {x:Str} {p1 pos:Pos} {e:PySem.Expr} (fo:q1m env c V) (st:q0k (p:=p) (w:=w) (tab:=G.tab) H0 s.heap V m σ) (lo:q0i p w G.tab env s.heap V m L)
    (IH':∀ {e d σ1},R.ev c L σ e=some (d,σ1)→∃ R0 k0,Snd p w H0 mg G k0 R0∧q1d k0 A∧evStep G R0 c L σ e=some (d,σ1))
    (h:exStep G R c L σ (.Assign [.Name x p1] e pos)=some (fl,L',σ')) :
    wpAny (model p w) A (exec (.Assign [.Name x p1] e pos) env) (SP p w H0 G env c V m σ' L' fl s) NoE s:=by
  have base:=fun hs=>q6s (p1:=p1) (pos:=pos) IH rm heff fo st lo h hs
  induction e using PySem.Expr.casesOn with
  | ListComp elt gens sc cpos=>
    induction hb:(env.blockKind==.function&&env.kindOf x==some .local&&p1.line==cpos.line&&!(sc.names.any fun (n,k)=>n==x&&(k==.local||k==.cell))) using q2i with
    | false=>exact base (by rw [← hb];rfl)
    | true=>
      rw [exec_Assign_Name_used _ _ _ _ (by rw [← hb];rfl)]
      refine q0a (Option.bind_eq_some_iff.mp h) ?_;intro zw0 e1 h;rcases zw0 with ⟨d,σ1⟩
      refine q0a (Option.map_eq_some_iff.mp h) ?_;intro L1 e2 heq
      cases heq
      refine q1g (IH' e1) ?_;intro R0 k0 IH0 rm0 e1'
      refine wpAny_bind (wpAny_standAt (wpAny_bind ?_))
      show wpAny _ A (do let _ ← comprehension (.ListComp elt gens sc cpos) sc env (firstIterPos gens cpos) (newList []) (firstAsync gens) (firstIter gens env) (some (assign (.Name x p1) env))) _ _ s
      refine wpAny_bind (wpAny_mono (q5a (Q:=fun zz s'=>SP p w H0 G env c V m (owned c x (.ListComp elt gens sc cpos) d σ1).2 L' .next s .next s') IH0 rm0 fo st lo e1' fun D C s5 y step hC hns=>z8l heff fo st lo y hC hns e2) (fun zz s' hq=>wpAny_pure (wpAny_pure hq)) fun zz zz h=>h)
  | DictComp kx vx gens sc cpos=>
    exfalso
    refine q0a (Option.bind_eq_some_iff.mp h) ?_;intro zw0 e1 h;rcases zw0 with ⟨d,σ1⟩
    refine q1g (IH' e1) ?_;intro R0 k0 IH0 rm0 e1'
    exact ns e1'
  | SetComp elt gens sc cpos=>
    exfalso
    refine q0d fun hn=>?_
    refine q0a (Option.bind_eq_some_iff.mp h) ?_;intro zw0 e1 h;rcases zw0 with ⟨d,σ1⟩
    refine q1g (IH' e1) ?_;intro R0 k0 IH0 rm0 e1'
    refine hn ?_
    exact Mine.ns e1'
  | _=>exact base rfl
end
set_option tactic.hygienic true in
theorem j1b {sc:Scope} {x:Str} {d:D} {L L':Loc} (h:put1 sc x d L=some L'):ownName sc x=true∧L'=Loc.put x d L:=by
  refine Mine.iteE h ?_ ?_<;>clear h<;>intro _ h
  · rename_i hx;apply q0w h;exact ⟨hx,rfl⟩
  · exact Mine.ns h
theorem z6l {sc:Scope}:∀ {xs:List Str} {ds:List D} {L L':Loc},puts sc xs ds L=some L'→∀ x∈xs,ownName sc x=true
  | [],_,_,_,_,_,hx=>by cases hx
  | _::_,[],_,_,h,_,_=>by exact Mine.ns h
  | y::xs,d::ds,L,L',h,x,hx=>by
    refine q0a (Option.bind_eq_some_iff.mp h) ?_;intro L1 h1 h2
    rcases List.mem_cons.mp hx with rfl | hx
    · exact (j1b h1).1
    · exact z6l h2 x hx
theorem q7w {sc:Scope}:∀ {xs:List Str} {ds:List D} {L L':Loc},puts sc xs ds L=some L'→xs.Nodup→∀ y,Loc.find y L'=(match (xs.zip ds).lookup y with | some d=>some d | none=>Loc.find y L)
  | [],[],L,L',h,_,y=>by replace h:=Option.some.inj h;subst h;rfl
  | [],_::_,_,_,h,_,_=>by exact Mine.ns h
  | _::_,[],_,_,h,_,_=>by exact Mine.ns h
  | x::xs,d::ds,L,L',h,hn,y=>by
    refine q0a (Option.bind_eq_some_iff.mp h) ?_;intro L1 h1 h2
    obtain ⟨_,rfl⟩:=j1b h1
    simp only [List.nodup_cons] at hn
    rw [q7w h2 hn.2 y,List.zip_cons_cons,List.lookup_cons]
    by_cases hy:y=x
    · subst hy
      have:(xs.zip ds).lookup y=none:=by
        induction e:(xs.zip ds).lookup y using Mine.oC with
        | none=>rfl
        | some d'=>exact absurd ((List.of_mem_zip (mem_of_lookup e)).1) hn.1
      rw [this]
      simp [q2k]
    · have hb:(y==x)=false:=by simpa using hy
      rw [hb]
      induction e:(xs.zip ds).lookup y using Mine.oC with
      | none=>simp [q1j hy]
      | some d'=>rfl
theorem z2v {sc:Scope}:∀ {xs:List Str} {ds:List D} {L:Loc},xs.length=ds.length→(∀ x∈xs,ownName sc x=true)→∃ L',puts sc xs ds L=some L'
  | [],[],L,_,_=>⟨L,rfl⟩
  | [],_::_,_,h,_=>by cases h
  | _::_,[],_,h,_=>by cases h
  | x::xs,d::ds,L,h,ho=>by
    obtain ⟨L',e⟩:=z2v (xs:=xs) (ds:=ds) (L:=Loc.put x d L) (by simpa using h) fun y hy=>ho y (List.mem_cons_of_mem _ hy)
    refine ⟨L',?_⟩
    dsimp only [puts]
    have:put1 sc x d L=some (Loc.put x d L):=if_pos (ho x List.mem_cons_self)
    rw [this];exact e
theorem z2w {xs:List Str} {ds:List D} (hn:xs.Nodup) (hl:xs.length=ds.length) (y:Str):(xs.reverse.zip ds.reverse).lookup y=(xs.zip ds).lookup y:=by
  have hz:xs.reverse.zip ds.reverse=(xs.zip ds).reverse:=by rw [List.zip_eq_zipWith,List.zip_eq_zipWith,List.reverse_zipWith hl]
  rw [hz]
  have hk:((xs.zip ds).map (·.1)).Nodup:=by rw [List.map_fst_zip (by omega)];exact hn
  generalize xs.zip ds=l at hk
  induction l with
  | nil=>rfl
  | cons a l ih=>
    obtain ⟨a1,a2⟩:=a
    simp only [List.map_cons,List.nodup_cons] at hk
    rw [List.reverse_cons,List.lookup_append,ih hk.2,List.lookup_cons,List.lookup_cons]
    induction hb:y==a1 using q2i with
    | false=>simp [List.lookup]
    | true=>
      have:y=a1:=by simpa using hb
      subst this
      have hnone:l.lookup y=none:=by
        induction e:l.lookup y using Mine.oC with
        | none=>rfl
        | some d=>exact absurd (List.mem_map.mpr ⟨_,mem_of_lookup e,rfl⟩) hk.1
      rw [hnone];rfl
section
variable {p:Program} {w:World} {H0:Heap} {mg mb:Str→Option Value} {G:Gl} {R:Rec} {k:Nat}
  {A:Around} {V:Addr→Prop} {m n:List Addr} {σ σ' σ1:Sto} {s s1:Shared} {L L':Loc} {env:Env} {c:Cx} {d:D} {fl:Fl}
theorem q5b (IH:Snd p w H0 mg G k R) (rm:q1d k A) (heff:c.eff=true) {pos:Pos} (fo:q1m env c V):∀ (es:List PySem.Expr) {xs:List Str} {m:List Addr} {σ σ':Sto} {s:Shared} {ds:List D},es.all plainE=true→
    q0k (p:=p) (w:=w) (tab:=G.tab) H0 s.heap V m σ→q0i p w G.tab env s.heap V m L→evOwned R c L σ xs es=some (ds,σ')→
    wpAny (model p w) A (spliced (backTo pos (starEach es env))) (AP p w H0 G c.eff V m σ σ' ds s) NoE s
  | [],[],m,σ,σ',s,ds,_,st,lo,e=>by
    apply q6p e
    exact args_nil ⟨[],Mv.refl,fun zz=>rfl,by rw [List.append_nil];exact st,RepL.nil⟩
  | [],_::_,_,_,_,_,_,_,_,_,e=>by exact Mine.ns e
  | _::_,[],_,_,_,_,_,_,_,_,e=>by exact Mine.ns e
  | x::es,y::xs,m,σ,σ',s,ds,hp,st,lo,e=>by
    refine q0d fun hn=>?_
    refine q0a (Option.bind_eq_some_iff.mp e) ?_;intro zw0 ea e;rcases zw0 with ⟨da,σ1⟩
    refine q0a (Option.map_eq_some_iff.mp e) ?_;intro zw0 eb heq;rcases zw0 with ⟨ds',σ2⟩
    refine hn ?_
    apply Mine.tq2 heq
    simp only [List.all_cons,Bool.and_eq_true] at hp
    refine args_cons (wpAny_mono (IH.ev rm fo st lo ea) (fun va s1 y0=>?_) fun zz zz h=>h) (q0t hp.1)
    obtain ⟨n1,x1⟩:=z0v (x:=y) heff y0
    have lo1:=x1.mv.loc fo st lo
    refine wpAny_mono (q5b IH rm heff fo es hp.2 x1.st lo1 eb) (fun vs s2 hh=>?_) fun zz zz h=>h
    apply q0d;intro hG;rcases hh with ⟨n2,mv2,hs2,st2,r2⟩;apply hG;clear hG
    refine ⟨n1++n2,x1.mv.trans mv2,fun h=>(hs2 h).trans (x1.sto h),by rw [← List.append_assoc];exact st2,?_⟩
    rw [← List.append_assoc]
    exact RepL.cons (mv2.rep x1.rep) r2
end
noncomputable def localAt (env:Env) (line:Nat):PySem.Expr→Option Str
  | .Name id pos=>if (env.kindOf id==some .local&&pos.line==line)=true then some id else none
  | _=>none
set_option tactic.hygienic true in
theorem z6m {env:Env} {line:Nat}:∀ {ts:List PySem.Expr} {xs:List Str},nameTs ts=some xs→(ts.filterMap (localAt env line)).length≤ts.length∧((ts.filterMap (localAt env line)).length=ts.length→ts.filterMap (localAt env line)=xs)
  | [],xs,h=>by replace h:=Option.some.inj h;subst h;exact ⟨Nat.le_refl _,fun zz=>rfl⟩
  | t::ts,xs,h=>by
    induction t using PySem.Expr.casesOn<;>skip<;>try (exact Mine.ns h;done)
    rename_i x pos
    refine q0a (Option.map_eq_some_iff.mp h) ?_;intro ys hy zw2;apply q1w zw2
    obtain ⟨h1,h2⟩:=z6m (env:=env) (line:=line) hy
    induction e:localAt env line (.Name x pos) using Mine.oC with
    | none=>
      rw [List.filterMap_cons_none e]
      refine ⟨by dsimp only [List.length_cons];omega,fun h=>?_⟩
      dsimp only [List.length_cons] at h;omega
    | some z=>
      rw [List.filterMap_cons_some e]
      have hz:z=x:=by
        refine Mine.iteE e ?_ ?_<;>clear e<;>intro hc e
        · apply q0w e;rfl
        · exact Mine.ns e
      apply q0g hz
      refine ⟨by dsimp only [List.length_cons];omega,fun h=>?_⟩
      rw [h2 (by simpa using h)]
theorem z8m {env:Env} {ts es:List PySem.Expr} {k1 k2 p1 p2}:swappedStores [.Tuple ts k1 p1] (.Tuple es k2 p2) env =
    (if !(ts.length==2||ts.length==3)||es.length !=ts.length||env.blockKind !=.function then pure none
    else if es.any (fun | .Starred ..=>true | _=>false) then pure none
    else if (ts.filterMap (localAt env ((ts.head?.map (·.pos.line)).getD 0))).length !=ts.length||(ts.filterMap (localAt env ((ts.head?.map (·.pos.line)).getD 0))).eraseDups.length !=(ts.filterMap (localAt env ((ts.head?.map (·.pos.line)).getD 0))).length then pure none
    else if es.all (foldedForSure 8) then pure none
    else if es.all (constantsAlone 8) then (do unsupported "assign.tuple-of-constant-expressions:order-of-the-stores";pure (some (ts.filterMap (localAt env ((ts.head?.map (·.pos.line)).getD 0)))))
    else pure (some (ts.filterMap (localAt env ((ts.head?.map (·.pos.line)).getD 0))))):=rfl
set_option tactic.hygienic true in
theorem z0x {env:Env} {ts es:List PySem.Expr} {k1 k2 p1 p2} {xs:List Str} (hx:nameTs ts=some xs) (hc:es.all (constantsAlone 8)=false) :
    swappedStores [.Tuple ts k1 p1] (.Tuple es k2 p2) env=pure none∨swappedStores [.Tuple ts k1 p1] (.Tuple es k2 p2) env=pure (some xs):=by
  rw [z8m]
  split
  · exact Or.inl rfl
  split
  · exact Or.inl rfl
  split
  · exact Or.inl rfl
  rename_i h3
  split
  · exact Or.inl rfl
  right
  simp only [Bool.or_eq_true,bne_iff_ne,ne_eq,not_or,Decidable.not_not] at h3
  rw [(z6m (env:=env) hx).2 h3.1,hc]
  rfl
section
variable {p:Program} {w:World} {H0:Heap} {mg mb:Str→Option Value} {G:Gl} {R:Rec} {k:Nat}
  {A:Around} {V:Addr→Prop} {m n:List Addr} {σ σ' σ1:Sto} {s s1:Shared} {L L':Loc} {env:Env} {c:Cx} {d:D} {fl:Fl}
theorem RepL.reverse {tab:List (Str × Int)} {h:Heap}:∀ {ds:List D} {vs:List Value},RepL p w tab h V m ds vs→RepL p w tab h V m ds.reverse vs.reverse
  | [],_,rfl=>rfl
  | d::ds,vs,r=>by
    rcases r with ⟨v,ws,rfl,h1,h2⟩
    rw [List.reverse_cons,List.reverse_cons]
    exact h2.reverse.append (RepL.single h1)
theorem q7x {tab:List (Str × Int)} {E:Value→Shared→Prop} (fo:q1m env c V):∀ {xs:List Str} {ds:List D} {vs:List Value} {L L':Loc} {s:Shared},q0k (p:=p) (w:=w) (tab:=tab) H0 s.heap V m σ→q0i p w tab env s.heap V m L→
    RepL p w tab s.heap V m ds vs→puts c.sc xs ds L=some L'→
    wpAny (model p w) A (assignInOrder (xs.map fun n=>bindName env n) vs) (fun zz s'=>AsP p w tab H0 env c V m σ L' s s') E s
  | [],ds,vs,L,L',s,st,lo,r,e=>by
    induction ds using q1h with
    | nil=>
      replace e:=Option.some.inj e
      subst e
      show wpAny _ _ (pure ()) _ _ s
      exact wpAny_pure ⟨Step.refl,st,lo,fun zz zz r=>r⟩
    | cons d ds=>exact Mine.ns e
  | x::xs,ds,vs,L,L',s,st,lo,r,e=>by
    induction ds using q1h with
    | nil=>exact Mine.ns e
    | cons d ds=>
      refine q0d fun hn=>?_
      refine q0a (Option.bind_eq_some_iff.mp e) ?_;intro L1 e1 e2
      rcases r with ⟨v,vs',rfl,r1,r2⟩
      refine hn ?_
      show wpAny _ _ (do holding vs' (bindName env x v);assignInOrder (xs.map fun n=>bindName env n) vs') _ _ s
      refine wpAny_bind (wpAny_holding (wpAny_bindName (wpAny_mono (q1u fo st lo r1 e1) (fun zz s1 as=>?_) fun zz zz h=>h)))
      have r2':RepL p w tab s1.heap V m ds vs':=RepL.of_get r2.length fun i d' v' h1 h2=>by
        refine q0a (r2.get h1) ?_;intro u hu ru
        rw [h2] at hu;replace hu:=Option.some.inj hu;apply q0g hu
        exact as.rep _ _ ru
      exact wpAny_mono (q7x fo as.st as.lo r2' e2) (fun zz s2 as2=>as.trans as2) fun zz zz h=>h
theorem q0i.find {tab:List (Str × Int)} {h:Heap} (lo:q0i p w tab env h V m L) (hf:∀ y,Loc.find y L'=Loc.find y L):q0i p w tab env h V m L':=
  ⟨lo.ns,lo.cells,fun x d hx=>lo.vars x d (by rw [← hf];exact hx)⟩
set_option tactic.hygienic true in
theorem q7y (IH:Snd p w H0 mg G k R) (rm:q1d k A) (heff:c.eff=true) {ts es:List PySem.Expr} {k1 k2:Nat} {p1 p2 pos:Pos} (fo:q1m env c V) (st:q0k (p:=p) (w:=w) (tab:=G.tab) H0 s.heap V m σ) (lo:q0i p w G.tab env s.heap V m L)
    (h:exStep G R c L σ (.Assign [.Tuple ts k1 p1] (.Tuple es k2 p2) pos)=some (fl,L',σ')) :
    wpAny (model p w) A (exec (.Assign [.Tuple ts k1 p1] (.Tuple es k2 p2) pos) env) (SP p w H0 G env c V m σ' L' fl s) NoE s:=by
  refine q0a (Option.bind_eq_some_iff.mp h) ?_;intro xs hx h
  refine Mine.iteE h ?_ ?_<;>clear h<;>intro _ h
  rotate_left
  · exact Mine.ns h
  rename_i hc
  simp only [lits,Bool.and_eq_true,decide_eq_true_eq,Bool.not_eq_true'] at hc
  refine q0d fun hn=>?_
  obtain ⟨⟨⟨hl1,hl2⟩,hnd⟩,hca⟩:=hc
  refine q0a (Option.bind_eq_some_iff.mp h) ?_;intro zw0 e1 h;rcases zw0 with ⟨ds,σ1⟩
  refine q0a (Option.map_eq_some_iff.mp h) ?_;intro L1 e2 heq
  refine hn ?_
  cases heq
  dsimp only  at e2
  have ev:∀ {Q:Value→Shared→Prop},(∀ v s1 n,EPn p w G.tab H0 false c.eff V m σ σ1 (.tup ds) s v s1 n→Q v s1)→wpAny (model p w) A (eval (.Tuple es k2 p2) env) Q NoE s:=fun hq=>by
    refine Tuple_ (wpAny_mono (q5b IH rm heff fo es hl1 st lo e1) (fun vs s1 hh=>?_) fun zz zz h=>h)
    apply q0d;intro hG;rcases hh with ⟨n1,mv,hs,st1,r1⟩;apply hG;clear hG
    have hz:vs.length≤1000:=by
      have:∀ (es:List PySem.Expr) (xs:List Str) (σ σ':Sto) (ds:List D),evOwned R c L σ xs es=some (ds,σ')→ds.length=es.length:=by
        intro es
        induction es with
        | nil=>intro xs σ σ' ds h;induction xs using q1h<;>dsimp only [evOwned] at h<;>(first | exact Mine.ns h | apply q6p h);rfl
        | cons x es ih=>
          intro xs σ σ' ds h
          induction xs using q1h with
          | nil=>exact Mine.ns h
          | cons y xs=>
            refine q0d fun hn=>?_
            obtain ⟨q,_,h⟩:=Option.bind_eq_some_iff.mp h
            refine q0a (Option.map_eq_some_iff.mp h) ?_;intro q' h2 heq
            refine hn ?_
            apply Mine.tq2 heq
            simp [ih _ _ _ _ h2]
      rw [r1.length,this _ _ _ _ _ e1];exact hl2
    refine wpAny_newObj_type ?_ (by show vs.toArray.size≤sizeLine;exact Nat.le_trans (by assumption) (Nat.le_of_ble_eq_true rfl))
    obtain ⟨n2,y⟩:EP p w G.tab H0 false c.eff V m σ σ1 (.tup ds) s _ _:=EP.after mv hs (EP.of_vp st1 (VP.newTuple (n:=0) (tk:=s1.toks) (dd:=none) (sl:=#[]) (vs:=vs.toArray) (l:=ds) st1 (r1)) fun h=>by exact Mine.ff h)
    exact hq _ _ _ y
  rcases z0x (env:=env) (k1:=k1) (k2:=k2) (p1:=p1) (p2:=p2) hx hca with hw | hw
  · refine Assign_Tuple (ev fun v s1 n1 y=>?_) rfl hw
    refine wpAny_mono (q2f (d:=.tup ds) (L':=L') rm.calm fo y.st (y.mv.loc fo st lo) y.rep ?_) (fun zz s2 as=>SP.stored y as) fun zz zz h=>h
    simp only [give,hx,Option.bind_some]
    exact e2
  · refine Assign_Tuple_swapped (ev fun v s1 n1 y=>?_) rfl hw
    have hlen:=q4g e2
    rw [← hlen]
    have lo1:=y.mv.loc fo st lo
    have r:=y.rep
    apply q0d;intro hG;rcases r with ⟨a,vs,rfl,o,ht,rl⟩;apply hG;clear hG
    refine q6k (V:=V) (m:=m++n1) rm.calm (q9q ht) (fun E'=>q6u rm.calm ht o.1 rl) fun ws s2 r2 step2=>?_
    obtain ⟨L2,e3⟩:=z2v (sc:=c.sc) (xs:=xs.reverse) (ds:=ds.reverse) (L:=L) (by simp [hlen]) fun x hx=>z6l e2 x (List.mem_reverse.mp hx)
    refine wpAny_mono (q7x fo (y.st.step step2) (lo1.step fo y.st step2) r2.reverse e3) (fun zz s3 as=>?_) fun zz zz h=>h
    have hf:∀ y,Loc.find y L'=Loc.find y L2:=fun y=>by
      rw [q7w e2 hnd,q7w e3 (List.pairwise_reverse.mpr (hnd.imp fun h=>Ne.symm h)),z2w hnd hlen.symm]
    have as':AsP p w G.tab H0 env c V (m++n1) σ1 L' s2 s3:=⟨as.step,as.st,as.lo.find hf,as.rep⟩
    exact SP.stored y (AsP.before step2 as')
theorem q5v (IH:Snd p w H0 mg G k R) (rm:q1d k A) {ts:List PySem.Expr} {k1:Nat} {p1 pos:Pos} {e:PySem.Expr} (fo:q1m env c V) (st:q0k (p:=p) (w:=w) (tab:=G.tab) H0 s.heap V m σ) (lo:q0i p w G.tab env s.heap V m L)
    (hs:swapsWithSole [.Tuple ts k1 p1] e pos.line env=pure false) (hw:swappedStores [.Tuple ts k1 p1] e env=pure none)
    (h:((R.ev c L σ e).bind fun r=>(give c.sc r.2 (.Tuple ts k1 p1) r.1 L).map fun L=>(Fl.next,L,r.2))=some (fl,L',σ')) :
    wpAny (model p w) A (exec (.Assign [.Tuple ts k1 p1] e pos) env) (SP p w H0 G env c V m σ' L' fl s) NoE s:=by
  refine q0d fun hn=>?_
  refine q0a (Option.bind_eq_some_iff.mp h) ?_;intro zw0 e1 h;rcases zw0 with ⟨d,σ1⟩
  refine q0a (Option.map_eq_some_iff.mp h) ?_;intro L1 e2 heq
  refine hn ?_
  apply Mine.tq3 heq
  refine Assign_Tuple (wpAny_mono (IH.ev rm fo st lo e1) (fun v s1 y0=>?_) fun zz zz h=>h) hs hw
  obtain ⟨n1,y⟩:=EP.weak y0
  exact wpAny_mono (q2f rm.calm fo y.st (y.mv.loc fo st lo) y.rep e2) (fun zz s2 as=>SP.stored y as) fun zz zz h=>h
end
section
variable {p:Program} {w:World} {H0:Heap} {mg mb:Str→Option Value} {G:Gl} {R:Rec} {k:Nat}
  {A:Around} {V:Addr→Prop} {m n:List Addr} {σ σ' σ1:Sto} {s s1:Shared} {L L':Loc} {env:Env} {c:Cx} {d:D} {fl:Fl} {I:Addr}
theorem flowV.mono {h h':Heap} {V':Addr→Prop} {m':List Addr} {f:Flow} (x:flowV p w G h V m fl f) (out:∀ b o,h.get? b=some o→Out V m b→h'.get? b=some o∧Out V' m' b) (hm:∀ (k:Nat) a,m[k]?=some a→m'[k]?=some a):flowV p w G h' V' m' fl f:=by
  cases fl with
  | next=>exact x
  | brk=>exact x
  | cont=>exact x
  | ret d=>exact x.elim fun v x=>⟨v,x.1,x.2.mono out hm⟩
noncomputable def also (V O:Addr→Prop) (b:Addr):Prop:=V b∨O b
structure Trn (H0:Heap) (O O2:Addr→Prop) (sB s1 s2:Shared):Prop where
  keep:∀ b o,s1.heap.get? b=some o→¬ O b→s2.heap.get? b=some o∧¬ O2 b
  os:s2.os=s1.os
  drawn:s2.drawn=s1.drawn
  gens:∀ (j:Nat) y,sB.gens[j]?=some y→s1.gens[j]?=some y→s2.gens[j]?=some y
  bare:AllBare s1.gens→AllBare s2.gens
  kept:Kept H0 s2.heap
  new:∀ b,O2 b→sB.heap.get? b=none
noncomputable def Met (H0:Heap) (V:Addr→Prop) (m:List Addr) (sB s1:Shared) (b:Addr):Prop:=(∃ o,H0.get? b=some o)∨s1.heap.get? b=none∨((∃ o,sB.heap.get? b=some o)∧¬ V b∧b∉m)
section
variable (p:Program) (w:World) (H0:Heap) (tab:List (Str × Int)) (A:Around) (V:Addr→Prop) (m:List Addr) (sB:Shared) (I:Addr)
structure v3n (J:List D→(Addr→Prop)→Shared→Prop) (d:D) (ds:List D) (v:Value) (s1 s2:Shared) (O2:Addr→Prop):Prop where
  rep:∀ V' m',(∀ b o,s2.heap.get? b=some o→¬ O2 b→Met H0 V m sB s1 b→Out V' m' b)→(∀ (k:Nat) a,m[k]?=some a→m'[k]?=some a)→Rep p w tab s2.heap V' m' d v
  own:∀ b,O2 b→(∃ o,s2.heap.get? b=some o)∧H0.get? b=none
  go:∀ t (Q:Unit→Shared→Prop),Q () s2→wpAny (model p w) A (letOwnedTupleGo t (.ref I) v) Q NoE s2
  next:J ds O2 s2
structure Itr (J:List D→(Addr→Prop)→Shared→Prop):Prop where
  next:∀ {ds:List D} {O:Addr→Prop} {s1:Shared} {Q:Option Value→Shared→Prop},J ds O s1→Kept H0 s1.heap→(∀ b o,sB.heap.get? b=some o→¬ V b→b∉m→s1.heap.get? b=some o)→(∀ b,s1.heap.get? b=none→sB.heap.get? b=none)→(∀ b,O b→(∃ o,s1.heap.get? b=some o)∧H0.get? b=none)→(∀ b,O b→sB.heap.get? b=none)→
    (ds=[]→∀ s2 O2,Trn H0 O O2 sB s1 s2→Q none s2)→(∀ d ds',ds=d::ds'→∀ v s2 O2,Trn H0 O O2 sB s1 s2→v3n p w H0 tab A V m sB I J d ds' v s1 s2 O2→Q (some v) s2)→wpAny (model p w) A (pyNext (.ref I)) Q NoE s1
  frame:∀ {ds:List D} {O:Addr→Prop} {s1 s2:Shared},J ds O s1→(∀ b o,s1.heap.get? b=some o→(O b∨((∃ o',sB.heap.get? b=some o')∧¬ V b∧b∉m))→s2.heap.get? b=some o)→(∀ (j:Nat) y,s1.gens[j]?=some y→s2.gens[j]?=some y)→J ds O s2
end
theorem SPn.to {V':Addr→Prop} {s2 sB:Shared} {f:Flow} (y:SPn p w H0 G env c V m σ' L' fl sB f s1 n) (hs:Step (fun a=>a∈m∨Own env c a) sB s2) (hk:Kept H0 s2.heap) (hV:∀ b,V' b→(∃ o,s2.heap.get? b=some o)∧H0.get? b=none)
    (keep:∀ b o,s1.heap.get? b=some o→¬ V b→s2.heap.get? b=some o∧¬ V' b) (hl:∀ o,s1.heap.get? env.locals=some o→s2.heap.get? env.locals=some o) (hc:∀ x a,env.cells.lookup x=some a→∀ o,s1.heap.get? a=some o→s2.heap.get? a=some o) :
    SPn p w H0 G env c V' m σ' L' fl sB f s2 n:=
  have out:∀ b o,s1.heap.get? b=some o→Out V (m++n) b→s2.heap.get? b=some o∧Out V' (m++n) b:=fun b o e ho=>⟨(keep b o e ho.1).1,(keep b o e ho.1).2,ho.2⟩
  ⟨y.fresh,hs,y.st.to hk hV keep,y.lo.go hl hc out fun zz zz h=>h,y.flow.mono out fun zz zz h=>h⟩
section
variable {O O2:Addr→Prop} {sB s2:Shared}
theorem SPn.move {V':Addr→Prop} (fo:q1m env c V) (hVB:∀ b,V b→∃ o,sB.heap.get? b=some o) (hO:∀ b,O b→sB.heap.get? b=none) (tu:Trn H0 O O2 sB s1 s2) (h1:∀ b,V' b→V b∨(O2 b∧(∃ o,s2.heap.get? b=some o)∧H0.get? b=none))
    (y:SPn p w H0 G env c (also V O) m σ' L' .next sB .next s1 n):SPn p w H0 G env c V' m σ' L' .next sB .next s2 n:=by
  have hVO:∀ b,V b→¬ O b:=fun b h h2=>(hVB b h).elim fun o e=>ns ((hO b h2).symm.trans e)
  have kV:∀ b,V b→∀ o,s1.heap.get? b=some o→s2.heap.get? b=some o:=fun b h o e=>(tu.keep b o e (hVO b h)).1
  refine y.to ⟨fun b o e h=>?_,fun b o e=>?_,tu.os.trans y.step.os,tu.drawn.trans y.step.drawn,fun j g e=>tu.gens j g e (y.step.gens j g e),fun h=>tu.bare (y.step.bare h)⟩ tu.kept (fun b h=>(h1 b h).elim (fun h=>?_) fun h=>h.2) (fun b o e h=>?_) (kV _ fo.own) fun x a hx=>kV a (fo.cellsV x a hx)
  · exact (tu.keep b o (y.step.keep b o e h) fun h=>ns ((hO b h).symm.trans e)).1
  · exact (y.step.pres b o e).elim fun o' e'=>⟨o',(tu.keep b o' e' fun h=>ns ((hO b h).symm.trans e)).1⟩
  · exact (y.st.vin b (Or.inl h)).imp (fun q=>q.elim fun o e=>⟨o,kV b h o e⟩) fun q=>q
  · have q:=tu.keep b o e fun h2=>h (Or.inr h2)
    exact ⟨q.1,fun h2=>(h1 b h2).elim (fun h3=>h (Or.inl h3)) fun h3=>q.2 h3.1⟩
theorem Trn.refl (hk:Kept H0 s.heap) (hO:∀ b,O b→sB.heap.get? b=none):Trn H0 O O sB s s:=⟨fun zz zz e h=>⟨e,h⟩,rfl,rfl,fun zz zz zz e=>e,fun h=>h,hk,hO⟩
set_option maxHeartbeats 2000000 in
theorem z6n (IH:Snd p w H0 mg G k R) (rm:q1d k A) (heff:c.eff=true) {t:PySem.Expr} {body:List Stmt} {ds:List D} {J:List D→(Addr→Prop)→Shared→Prop} (fo:q1m env c V) (hVB:∀ b,V b→∃ o,sB.heap.get? b=some o)
    (it:Itr p w H0 G.tab A V m sB I J) (hO:∀ b,O b→sB.heap.get? b=none) (hJ:J ds O s) (step0:Step noOne sB s) (st:q0k (p:=p) (w:=w) (tab:=G.tab) H0 s.heap (also V O) m σ) (lo:q0i p w G.tab env s.heap (also V O) m L)
    (h:forItems R c t body L σ ds=some (fl,L',σ')) :
    codeAny (model p w) A (.forLoop t (.ref I) body [] env) (fun r s'=>∃ f,r=.ok f∧SP p w H0 G env c V m σ' L' fl sB f s') s:=by
  refine codeAny_forLoop_any (fun r s1=>∃ ds n σ1 L1 O,ds.length=r∧SPn p w H0 G env c (also V O) m σ1 L1 .next sB .next s1 n∧forItems R c t body L1 σ1 ds=some (fl,L',σ')∧J ds O s1∧∀ b,O b→sB.heap.get? b=none) (fun r s1 hI=>?_) ds.length
    ⟨ds,[],σ,L,O,rfl,⟨fun zz h=>absurd h List.not_mem_nil,step0.mono fun zz zz zz h=>h.elim,(List.append_nil m).symm▸st,(List.append_nil m).symm▸lo,rfl⟩,h,hJ,hO⟩
  refine q9j hI ?_;clear hI;intro ds n σ1 L1 O hr y h1 j1 hO
  refine wpAny_mono (it.next j1 y.st.kept (fun b o e hv hm=>y.step.keep b o e fun h=>h.elim hm fun h=>hv (q4h fo b h)) (fun b=>y.step.none) (fun b h=>y.st.vin b (Or.inr h)) hO (fun hd s2 O2 tu=>?_) fun d ds' hd v s2 O2 tu gi=>?_) (fun zz zz h=>h) fun zz zz e=>e.elim
  · subst hd
    apply z0k h1
    exact wpAny_execs_nil ⟨.next,rfl,n,y.move fo hVB hO tu fun zz h=>Or.inl h⟩
  · subst hd
    refine q0d fun hn=>?_
    obtain ⟨L2,eL,h1⟩:=Option.bind_eq_some_iff.mp h1
    refine q0a (Option.bind_eq_some_iff.mp h1) ?_;intro zw0 eb h1;rcases zw0 with ⟨fl1,L3,σ3⟩
    refine hn ?_
    have y2:SPn p w H0 G env c (also V O2) m σ1 L1 .next sB .next s2 n:=y.move fo hVB hO tu fun b h=>h.imp (fun h=>h) fun h=>⟨h,gi.own b h⟩
    have fo2:q1m env c (also V O2):=fo.of rfl fun zz h=>Or.inl h
    refine wpAny_mono (gi.go t _ ?_) (fun zz zz h=>h) fun zz zz e=>e.elim
    refine (wpAny_mono (q2f (E:=NoE) rm.calm fo2 y2.st y2.lo (gi.rep _ _ (fun b o e hb hm=>⟨fun h=>?_,fun h=>?_⟩) fun zz zz e=>q3f e) eL) (fun zz s3 as=>?_) fun zz zz e=>e.elim)
    · refine h.elim (fun h=>hm.elim (fun q=>q.elim fun zz q=>ns ((y2.st.vin b (Or.inl h)).2.symm.trans q)) fun q=>q.elim (fun q=>?_) fun q=>q.2.1 h) hb
      exact (y.st.vin b (Or.inl h)).1.elim fun zz e=>ns (q.symm.trans e)
    · refine hm.elim (fun q=>q.elim fun zz q=>ns ((y2.st.mge b h).symm.trans q)) fun q=>q.elim (fun q=>(y.st.here h).elim fun zz e=>ns (q.symm.trans e)) fun q=>(List.mem_append.mp h).elim q.2.2 fun h=>q.1.elim fun zz q=>ns ((y.fresh b h).symm.trans q)
    · refine wpAny_mono (q3r IH rm fo2 heff body as.st as.lo eb) (fun f s4 sp=>?_) fun zz zz e=>e.elim
      obtain ⟨n',z⟩:=sp
      have z2:=z.before as.step
      have leave:∀ {f:Flow},SPn p w H0 G env c (also V O2) m σ' L' fl sB f s4 (n++n')→SPn p w H0 G env c V m σ' L' fl sB f s4 (n++n'):=fun y4=>y4.to y4.step y4.st.kept (fun b h=>y4.st.vin b (Or.inl h)) (fun b o e h=>⟨e,fun q=>h (Or.inl q)⟩) (fun zz e=>e) fun zz zz zz zz e=>e
      apply SPn.turn (z2.chain y2.fresh y2.step) h1
      rotate_left
      · exact fun h=>h
      · exact fun y4=>⟨_,rfl,_,leave y4⟩
      · exact fun zz y4=>⟨_,rfl,_,leave y4⟩
      intro h y4
      refine ⟨ds'.length,hr▸Nat.lt_succ_self _,ds',_,σ3,L3,O2,rfl,y4,h,it.frame gi.next (fun b o e hb=>z2.step.keep b o e fun q=>?_) z2.step.gens,tu.new⟩
      exact hb.elim (fun hb=>q.elim (fun q=>y2.st.sep b q (Or.inr hb)) fun q=>(hVB b (q4h fo b q)).elim fun zz e=>ns ((tu.new b hb).symm.trans e)) fun hb=>q.elim (fun q=>(List.mem_append.mp q).elim hb.2.2 fun q=>hb.1.elim fun zz e=>ns ((y.fresh b q).symm.trans e)) fun q=>hb.2.1 (q4h fo b q)
theorem k8o.itr {I:Addr} {fp:List Addr} {P:Nat→Value→Prop} {St:Nat→Heap→Prop} {ds:List D} (ok:k8o p w G.tab A (fun a=>V a∨a∈m) m sB ds I fp P St) (hI:sB.heap.get? I=none) (hk0:Kept H0 sB.heap) :
    Itr p w H0 G.tab A V m sB I fun l O s1=>(O=fun b=>b=I)∧∃ pre,pre++l=ds∧St pre.length s1.heap:=by
  have hH:H0.get? I=none:=by
    induction e:H0.get? I using Mine.oC with
    | none=>rfl
    | some o=>exact ns (hI.symm.trans (hk0 _ _ e))
  have turn:∀ {s1:Shared} {h':Heap} {tk:Nat},Kept H0 s1.heap→(∀ b o,b∉[I]→s1.heap.get? b=some o→h'.get? b=some o)→Trn H0 (fun b=>b=I) (fun b=>b=I) sB s1 { s1 with heap:=h',toks:=tk }:=fun hk h=>
    ⟨fun b o e q=>⟨h b o (fun q2=>q (List.mem_singleton.mp q2)) e,q⟩,rfl,rfl,fun zz zz zz e=>e,fun h=>h,fun b o e=>h b o (fun q=>ns (hH.symm.trans (List.mem_singleton.mp q▸e))) (hk b o e),fun b h=>h▸hI⟩
  refine ⟨fun {l O s1 Q} j hk fz hP hX hO hN hS=>?_,fun {l O s1 s2} j hk hg=>?_⟩
  · apply q0d;intro hG;rcases j with ⟨rfl,pre,hp,hst⟩;apply hG;clear hG
    induction l using q1h with
    | nil=>
      rw [List.append_nil] at hp
      subst hp
      exact ok.walks.done s1 _ _ hst fun h' tk hk'=>hN rfl _ _ (turn hk hk')
    | cons d ds'=>
      have hlt:pre.length<ds.length:=by rw [← hp,List.length_append];exact Nat.lt_add_of_pos_right (Nat.succ_pos _)
      have hget:ds[pre.length]?=some d:=by rw [← hp,List.getElem?_append_right (Nat.le_refl _),Nat.sub_self];rfl
      refine ok.walks.item pre.length s1 _ _ hlt hst fun v h' tk hpv hst' hk'=>?_
      have tu:=turn (tk:=tk) hk hk'
      refine q0d fun hn=>?_
      refine q0a (ok.item _ _ hpv) ?_;intro d' hd' hrep
      have hdd:d'=d:=Option.some.inj (hd'.symm.trans hget)
      subst hdd
      refine q3l (ok.pres _ _ hst') ?_;intro o T ho hT
      refine hn ?_
      refine hS _ _ rfl v _ _ tu ⟨fun V' m' hm hmm=>hrep h' V' m' (fun b o e ho=>?_) hmm,fun b hb=>hb▸⟨⟨o,ho⟩,hH⟩,fun t Q hq=>k1c ⟨o,T,ho,hT⟩ hq,rfl,pre++[d'],by rw [List.append_assoc];exact hp,by rw [List.length_append];exact hst'⟩
      have q:=tu.keep b o (fz b o e (fun h=>ho.1 (Or.inl h)) ho.2) fun h=>ns ((h▸hI:sB.heap.get? b=none).symm.trans e)
      exact ⟨q.1,hm b o q.1 q.2 (Or.inr (Or.inr ⟨⟨o,e⟩,fun h=>ho.1 (Or.inl h),ho.2⟩))⟩
  · rcases j with ⟨rfl,pre,hp,hst⟩
    refine ⟨rfl,pre,hp,ok.walks.frame _ _ _ hst fun b hb o e=>hk b o e ?_⟩
    by_cases hbI:b=I
    · exact Or.inl hbI
    · obtain ⟨q1,q2⟩:=ok.fpok b hb hbI
      exact Or.inr ⟨q1,fun h=>q2 (Or.inl h),fun h=>q2 (Or.inr h)⟩
end
set_option tactic.hygienic true in
theorem j5v (hh:A.handled=none) {E:Value→Shared→Prop} {items:List D} {v:Value} (e:freshSeq d=some items) (r:Rep p w G.tab s.heap V m d v) :
    wpAny (model p w) A (pyIter v) (ItP p w G.tab A (fun a=>V a∨a∈m) m items s) E s:=by
  have out:∀ b o,s.heap.get? b=some o→Out V m b→s.heap.get? b=some o∧Out (fun a=>V a∨a∈m) m b:=fun b o e ho=>⟨e,fun h=>h.elim ho.1 ho.2,ho.2⟩
  induction d using D.casesOn<;>skip<;>try ((first | exact Mine.ns e | (replace e:=Option.some.inj e;subst e));done)
  · replace e:=Option.some.inj e;subst e;apply q0d;intro hG;rcases r with ⟨a,vs,rfl,o,ht,rl⟩;apply hG;clear hG;exact q6u hh ht (fun h=>h.elim o.1 o.2) (rl.mono out fun zz zz e=>e)
  · replace e:=Option.some.inj e;subst e;apply q0d;intro hG;rcases r with ⟨a,vs,rfl,o,ht,rl⟩;apply hG;clear hG;exact q7t hh ht (fun h=>h.elim o.1 o.2) (rl.mono out fun zz zz e=>e)
  · refine Mine.iteE e ?_ ?_<;>clear e<;>intro _ e
    · rename_i hs
      apply q0w e
      simp only [Bool.and_eq_true] at hs
      apply q0d;intro hG;rcases r with ⟨a,t,u,q,rfl,_,hr⟩;apply hG;clear hG
      exact z6j hh hr hs.1 hs.2
    · exact Mine.ns e
theorem q6l (IH:Snd p w H0 mg G k R) (rm:q1d k A) (heff:c.eff=true) {t e:PySem.Expr} {body:List Stmt} {pos:Pos} (fo:q1m env c V) (st:q0k (p:=p) (w:=w) (tab:=G.tab) H0 s.heap V m σ) (lo:q0i p w G.tab env s.heap V m L)
    (hns:notSet e=true) (h:((R.ev c L σ e).bind fun r=>(freshSeq r.1).bind fun items=>if items.length≤LIM then forItems R c t body L r.2 items else Option.none)=some (fl,L',σ')) :
    wpAny (model p w) A (exec (.For t e body [] pos) env) (SP p w H0 G env c V m σ' L' fl s) NoE s:=by
  refine q0d fun hn=>?_
  refine q0a (Option.bind_eq_some_iff.mp h) ?_;intro zw0 e1 h;rcases zw0 with ⟨d,σ1⟩
  refine q0a (Option.bind_eq_some_iff.mp h) ?_;intro items e2 h
  refine hn ?_
  refine Mine.iteE h ?_ ?_<;>clear h<;>intro hc h
  rotate_left
  · exact Mine.ns h
  dsimp only  at e2 h
  refine wpAny_For (wpAny_mono (IH.ev rm fo st lo e1) (fun v s1 y0=>?_) fun zz zz h=>h) (q2t hns)
  obtain ⟨n1,y⟩:=EP.weak y0
  have st1:=y.st
  have lo1:=y.mv.loc fo st lo
  refine wpAny_mono (j5v rm.calm e2 y.rep) (fun it s2 hit=>?_) fun zz zz h=>h
  apply q0d;intro hG;rcases hit with ⟨I,fp,P,St,rfl,hI,step2,⟨oI,hoI⟩,hst,ok⟩;apply hG;clear hG
  have hV:∀ a,also V (fun b=>b=I) a→V a∨(s1.heap.get? a=none∧∃ o,s2.heap.get? a=some o):=fun a h=>h.imp (fun h=>h) fun (h:a=I)=>h▸⟨hI,oI,hoI⟩
  refine codeAny_mono (z6n IH rm heff fo (fun b h=>(st1.vin b h).1) (O:=fun b=>b=I) (ok.itr hI st1.kept) (fun b (h:b=I)=>h▸hI) ⟨rfl,[],rfl,hst⟩ step2 (st1.moreAll step2 hV) (lo1.moreV fo st1 step2 fun a h=>(hV a h).imp (fun h=>h) And.left) h) fun r s3 h3=>?_
  refine q0a h3 ?_;clear h3;intro f zw1 sp;apply q0g zw1
  exact SP.after y.mv sp
end
section
variable {p:Program} {w:World} {H0:Heap} {mg mb:Str→Option Value} {G:Gl} {R:Rec} {k:Nat}
  {A:Around} {V:Addr→Prop} {m n:List Addr} {σ σ' σ1:Sto} {s s1:Shared} {L L':Loc} {env:Env} {c:Cx} {d:D} {fl:Fl}
theorem z4v (IH:Snd p w H0 mg G k R) (rm:q1d k A) (heff:c.eff=true) {t:PySem.Expr} {body:List Stmt} {pos:Pos} (fo:q1m env c V) (st:q0k (p:=p) (w:=w) (tab:=G.tab) H0 s.heap V m σ) (lo:q0i p w G.tab env s.heap V m L)
    (h:whileN R c t body LIM L σ=some (fl,L',σ')) :
    wpAny (model p w) A (exec (.While t body [] pos) env) (SP p w H0 G env c V m σ' L' fl s) NoE s:=by
  refine wpAny_While (codeAny_mono (R:=fun r s'=>∃ f,r=.ok f∧SP p w H0 G env c V m σ' L' fl s f s') (codeAny_whileLoop (fun r s1=>∃ n σ1 L1,SPn p w H0 G env c V m σ1 L1 .next s .next s1 n∧whileN R c t body r L1 σ1=some (fl,L',σ')) (fun r s1 hI=>?_) LIM
    ⟨[],σ,L,SPn.here st lo rfl,h⟩) fun r s3 h3=>?_)
  · refine z9m hI ?_;clear hI;intro n σ1 L1 y h1
    induction r using j5f with
    | zero=>exact ns h1
    | succ r=>
      obtain ⟨⟨b,σ2⟩,eb,h1⟩:=Option.bind_eq_some_iff.mp h1
      refine wpAny_mono (IH.ts rm fo y.st y.lo eb) (fun b' s2 hh=>?_) fun zz zz e=>e.elim
      apply q0d;intro hG;rcases hh with ⟨hb,n2,mv,hs,st2⟩;apply hG;clear hG
      subst hb
      have y2:=(SPn.of_mv mv st2 (mv.loc fo y.st y.lo)).chain y.fresh y.step
      induction b' using q2i with
      | false=>
        apply z0k h1
        exact wpAny_execs_nil ⟨.next,rfl,_,y2⟩
      | true=>
        obtain ⟨⟨fl1,L3,σ3⟩,ex,h1⟩:=Option.bind_eq_some_iff.mp h1
        refine wpAny_mono (q3r IH rm fo heff body y2.st y2.lo ex) (fun f s4 sp=>?_) fun zz zz e=>e.elim
        obtain ⟨n',z⟩:=sp
        apply SPn.turn (z.chain y2.fresh y2.step) h1
        · exact fun h y=>⟨r,Nat.lt_succ_self r,_,σ3,L3,y,h⟩
        · exact fun h=>h
        · exact fun y=>⟨_,rfl,_,y⟩
        · exact fun zz y=>⟨_,rfl,_,y⟩
  · refine q0a h3 ?_;clear h3;intro f zw1 sp;apply q0g zw1
    exact sp
end
theorem q7z:∀ {xs:List Str} {vs:List Value},xs.Nodup→vs.length=xs.length→∀ pre:List (Str × Value),(∀ x∈xs,pre.lookup x=none)→xs.filterMap (fun n=>((pre++xs.zip vs).lookup n).map (n,·))=xs.zip vs∧∀ x∈xs,((pre++xs.zip vs).lookup x).isSome=true
  | [],vs,_,hl,pre,_=>by induction vs using q1h with
    | nil=>exact ⟨rfl,fun x h=>by cases h⟩
    | cons _ _=>cases hl
  | x::xs,[],_,hl,_,_=>by cases hl
  | x::xs,v::vs,hn,hl,pre,hp=>by
    simp only [List.nodup_cons] at hn
    have hx:(pre++(x,v)::xs.zip vs).lookup x=some v:=by
      rw [List.lookup_append,hp x List.mem_cons_self]
      simp
    have hpre:∀ y∈xs,(pre++[(x,v)]).lookup y=none:=fun y hy=>by
      rw [List.lookup_append,hp y (List.mem_cons_of_mem _ hy)]
      have:(y==x)=false:=by
        have:y≠x:=fun h=>hn.1 (h▸hy)
        simpa using this
      simp [List.lookup,this]
    obtain ⟨h1,h2⟩:=q7z (xs:=xs) (vs:=vs) hn.2 (by simpa using hl) (pre++[(x,v)]) hpre
    rw [List.append_assoc] at h1 h2
    dsimp only [List.singleton_append] at h1 h2
    refine ⟨?_,fun y hy=>?_⟩
    · rw [List.zip_cons_cons,List.filterMap_cons,hx]
      dsimp only [Option.map_some]
      rw [h1]
    · rw [List.zip_cons_cons]
      rcases List.mem_cons.mp hy with rfl | hy
      · rw [hx];rfl
      · exact h2 y hy
theorem k8r {α β:Type} (a:α) (f:α→Sem β):(pure a >>= f)=f a:=rfl
theorem v7n:seqItems? Value.none=pure none:=rfl
theorem z2x {f:Str} {params:Arguments} {body:List Stmt} {scope:Scope} {pm cd doc:Value} {vs:List Value} (hb:bareArgs params=true) (hn:(params.args.map (·.arg)).Nodup) (hl:vs.length=(params.args.map (·.arg)).length) :
    bindArgs (docDef f params body scope pm cd doc) ⟨vs,[]⟩=pure ((params.args.map (·.arg)).zip vs):=by
  obtain ⟨e,_⟩:=z9u hb
  generalize params.args=as at e hn hl
  apply q0g e
  obtain ⟨h1,h2⟩:=q7z hn hl [] (fun zz zz=>rfl)
  dsimp only [List.nil_append] at h1 h2
  have hm:((as.map (·.arg)).filter fun n=>(((as.map (·.arg)).zip vs).lookup n).isNone)=[]:=by
    rw [List.filter_eq_nil_iff]
    intro x hx
    have:=h2 x hx
    induction e:((as.map (·.arg)).zip vs).lookup x using Mine.oC with
    | none=>rw [e] at this;exact Mine.ff this
    | some v=>simp
  unfold bindArgs docDef
  dsimp only [List.map_nil,List.nil_append,List.forIn_nil,v7n,k8r,Option.getD_none,List.drop_nil,List.length_nil,Nat.sub_zero,List.zip_nil_right,Bool.false_eq_true,if_false,List.isEmpty_nil,Bool.not_true,Option.isNone_none,Bool.and_true]
  have hg:¬ (decide (vs.length>(as.map (·.arg)).length)&&true)=true:=by
    rw [decide_eq_false (Nat.not_lt.mpr (Nat.le_of_eq hl))];exact Bool.false_ne_true
  have hd0:(List.drop (0 - (as.map (·.arg)).length) ([]:List Value))=[]:=List.drop_nil
  have hm2:¬ (!(((as.map (·.arg)).take ((as.map (·.arg)).length - (List.drop (0 - (as.map (·.arg)).length) ([]:List Value)).length)).filter fun n=>(((as.map (·.arg)).zip vs).lookup n).isNone).isEmpty)=true:=by
    rw [hd0,List.length_nil,Nat.sub_zero,List.take_length,hm];exact Bool.false_ne_true
  refine (if_neg hg).trans ((if_neg hm2).trans ?_)
  rw [List.drop_nil,List.zip_nil_right]
  show (pure (List.filterMap (fun n=>(((as.map (·.arg)).zip vs).lookup n).map fun x=>(n,x)) (as.map (·.arg)++[])):Sem (List (Str × Value)))=_
  rw [List.append_nil]
  exact congrArg pure h1
theorem j5w {m:List Addr} (hn:m.Nodup) {i j:Nat} {a:Addr} (h1:m[i]?=some a) (h2:m[j]?=some a):i=j:=by
  obtain ⟨hi,e1⟩:=List.getElem?_eq_some_iff.mp h1
  obtain ⟨hj,e2⟩:=List.getElem?_eq_some_iff.mp h2
  have hp:=List.pairwise_iff_getElem.mp hn
  rcases Nat.lt_trichotomy i j with h | h | h
  · exact absurd (e1.trans e2.symm) (hp i j hi hj h)
  · exact h
  · exact absurd (e2.trans e1.symm) (hp j i hj hi h)
set_option tactic.hygienic true in
theorem q5w:∀ {names:List (Str × NameKind)} {n:Nat} {acc:List (Str × Addr)} {x:Str},((x,NameKind.cell)∈names∨(acc.lookup x).isSome=true)→((cellsFrom n names acc).lookup x).isSome=true
  | [],n,acc,x,h=>by
    rcases h with h | h
    · cases h
    · exact h
  | (y,kd)::r,n,acc,x,h=>by
    unfold cellsFrom
    have key:∀ a,(acc.lookup x).isSome=true→(List.lookup x ((y,a)::acc)).isSome=true:=fun a h=>by
      rw [List.lookup_cons]
      cases x==y<;>simp [h]
    split
    · refine q5w ?_
      rcases h with h | h
      · rcases List.mem_cons.mp h with h | h
        · apply Mine.tq2 h;right;simp
        · exact Or.inl h
      · exact Or.inr (key n h)
    · rename_i hk
      refine q5w ?_
      rcases h with h | h
      · rcases List.mem_cons.mp h with h | h
        · cases h;exact absurd rfl hk
        · exact Or.inl h
      · exact Or.inr h
theorem q8a {kindOf:Str→Option NameKind} {x:Str}:∀ {bs:List (Str × Value)} {m:Str→Option Value},(∀ b∈bs,b.1≠x)→bindL kindOf bs m x=m x
  | [],_,_=>rfl
  | (n,v)::r,m,h=>by
    unfold bindL
    rw [q8a fun b hb=>h b (List.mem_cons_of_mem _ hb)]
    split
    · exact if_neg (Ne.symm (h (n,v) List.mem_cons_self))
    · rfl
theorem q8b {kindOf:Str→Option NameKind} {x:Str}:∀ {bs:List (Str × Value)} {m:Str→Option Value},(∀ b∈bs,b.1≠x)→bindC kindOf bs m x=m x
  | [],_,_=>rfl
  | (n,v)::r,m,h=>by
    unfold bindC
    rw [q8b fun b hb=>h b (List.mem_cons_of_mem _ hb)]
    split
    · rfl
    · exact if_neg (Ne.symm (h (n,v) List.mem_cons_self))
section
variable {p:Program} {w:World} {H0:Heap} {mg mb:Str→Option Value} {G:Gl} {R:Rec} {k:Nat}
  {A:Around} {V:Addr→Prop} {m n:List Addr} {σ σ' σ1:Sto} {s s1:Shared} {L L':Loc} {env:Env} {c:Cx} {d:D} {fl:Fl}
theorem z2y {tab:List (Str × Int)} {h:Heap} {kindOf:Str→Option NameKind} {x:Str}:∀ {ps:List Str} {ds:List D} {vs:List Value} {ml mc:Str→Option Value},ps.Nodup→ds.length=ps.length→RepL p w tab h V m ds vs→Loc.find x (ps.zip (ds.map some))=some d→
    ∃ v,x∈ps∧Rep p w tab h V m d v∧(kindOf x=some .local→bindL kindOf (ps.zip vs) ml x=some v)∧(kindOf x≠some .local→bindC kindOf (ps.zip vs) mc x=some v)
  | [],ds,vs,ml,mc,_,_,_,hf=>by exact Mine.ns hf
  | q::ps,[],vs,ml,mc,_,hl,_,_=>by cases hl
  | q::ps,d0::ds,vs,ml,mc,hn,hl,r,hf=>by
    apply q0d;intro hG;rcases r with ⟨v,vs',rfl,h1,h2⟩;apply hG;clear hG
    simp only [List.nodup_cons] at hn
    rw [List.map_cons,List.zip_cons_cons] at hf
    rw [List.zip_cons_cons]
    by_cases hx:x=q
    · have:Loc.find x ((q,some d0)::ps.zip (ds.map some))=some d0:=if_pos hx
      rw [this] at hf
      apply q0w hf
      subst hx
      have ho:∀ b∈ps.zip vs',b.1≠x:=fun b hb e=>hn.1 (by rw [← e];exact (List.of_mem_zip (a:=b.1) (b:=b.2) hb).1)
      refine ⟨v,List.mem_cons_self,h1,fun hk=>?_,fun hk=>?_⟩
      · unfold bindL;rw [q8a ho,if_pos hk];exact if_pos rfl
      · unfold bindC;rw [q8b ho,if_neg hk];exact if_pos rfl
    · have:Loc.find x ((q,some d0)::ps.zip (ds.map some))=Loc.find x (ps.zip (ds.map some)):=if_neg hx
      rw [this] at hf
      refine z1u (z2y (kindOf:=kindOf) (ml:=if kindOf q=some .local then fun y=>if y=q then some v else ml y else ml) (mc:=if kindOf q=some .local then mc else fun y=>if y=q then some v else mc y) hn.2 (by simpa using hl) h2 hf) ?_;intro u q1 q2 q3 q4
      exact ⟨u,List.mem_cons_of_mem _ q1,q2,q3,q4⟩
theorem q9r {x:Str} {d:D}:∀ {A B:Loc},(∀ e∈B,e.2=none)→Loc.find x (A++B)=some d→Loc.find x A=some d
  | [],B,hB,h=>by
    exfalso
    rw [List.nil_append] at h
    induction B with
    | nil=>exact Mine.ns h
    | cons b B ih=>
      obtain ⟨y,e⟩:=b
      have he:e=none:=hB (y,e) List.mem_cons_self
      subst he
      by_cases hx:x=y
      · have e1:Loc.find x ((y,none)::B)=none:=if_pos hx
        exact Mine.ns ((e1).symm.trans h)
      · have e1:Loc.find x ((y,none)::B)=Loc.find x B:=if_neg hx
        rw [e1] at h
        exact ih (fun e he=>hB e (List.mem_cons_of_mem _ he)) h
  | (y,e)::A,B,hB,h=>by
    rw [List.cons_append] at h
    by_cases hx:x=y
    · have e1:Loc.find x ((y,e)::(A++B))=e:=if_pos hx
      have e2:Loc.find x ((y,e)::A)=e:=if_pos hx
      rw [e1] at h;rw [e2];exact h
    · have e1:Loc.find x ((y,e)::(A++B))=Loc.find x (A++B):=if_neg hx
      have e2:Loc.find x ((y,e)::A)=Loc.find x A:=if_neg hx
      rw [e1] at h;rw [e2]
      exact q9r hB h
theorem z8n {fd:q9a} {args:List D} {x:Str} {d:D} (h:Loc.find x (frameL fd args)=some d):Loc.find x (fd.params.zip (args.map some))=some d:=by
  refine q9r (fun e he=>?_) h
  refine q0a (List.mem_map.mp he) ?_;intro y zw1 zw2;apply q1w zw2
  rfl
set_option maxHeartbeats 1000000 in
theorem q5x {eff:Bool} (hlim0:H0.NoLimit) (rm:q1d (k+1) A) {f:Str} {fd:q9a} {a:Addr} {o:Obj} {c':Addr} {pm doc:Value} {params:Arguments} {args:List D} {vs:List Value} {Q:Value→Shared→Prop} (st:q0k (p:=p) (w:=w) (tab:=G.tab) H0 s.heap V m σ)
    (h2:H0.get? a=some o) (h3:o.data=.func (docDef f params fd.body fd.scope pm (.ref c') doc)) (h4:H0.CodeRec (.ref c') f) (h5:bareArgs params=true) (h6:params.args.map (·.arg)=fd.params) (hok:fnOk fd=true) (hlen:args.length=fd.params.length)
    (ra:RepL p w G.tab s.heap V m args vs)
    (h:∀ cenv V' s1,q1m cenv ⟨fd.scope,fd.muts,fd.deep,eff⟩ V'→q0k (p:=p) (w:=w) (tab:=G.tab) H0 s1.heap V' m σ→q0i p w G.tab cenv s1.heap V' m (fd.params.zip (args.map some))→Step noOne s s1→(∀ b,V b→V' b)→(∀ b,Own cenv ⟨fd.scope,fd.muts,fd.deep,eff⟩ b→s.heap.get? b=none)→q1d k (A.deeper cenv)→
      wpAny (model p w) (A.deeper cenv) (execs fd.body cenv) (fun fl s'=>Q (match fl with | .ret v=>v | _=>.none) s') NoE s1) :
    wpAny (model p w) A (call (.ref a) vs) Q NoE s:=by
  simp only [Bool.and_eq_true,decide_eq_true_eq,fnOk,Bool.not_eq_true',Option.isNone_iff_eq_none,List.all_eq_true] at hok
  obtain ⟨⟨⟨⟨⟨⟨hkind,hco⟩,hgen⟩,hfree⟩,hdbg⟩,hown⟩,hnd⟩:=hok
  have hcode:s.heap.CodeRec (.ref c') f:=h4.keeps st.kept
  have hlim:s.heap.NoLimit:=hlim0.keeps st.kept
  have hvl:vs.length=fd.params.length:=by rw [ra.length];exact hlen
  have inNames:∀ x k,fd.scope.names.lookup x=some k→(x,k)∈fd.scope.names:=fun x k h=>mem_of_lookup h
  have cellsIn:∀ x,fd.scope.names.lookup x=some .cell→((cellsFrom (s.heap.objs.size+1) fd.scope.names []).lookup x).isSome=true:=fun x h=>q5w (Or.inl (inNames x _ h))
  refine wpAny_call (call_cells_ret (by have:=rm.depth;show A.depth<1000;omega) (st.kept _ _ h2) h3 hlim hcode (z2x h5 (by rw [h6];exact hnd) (by rw [h6];exact hvl)) (fun x hx=>?_) (fun hh tk F X=>?_) hco hgen hkind)
  · have hx1:x.1∈fd.params:=by rw [h6] at hx;exact (List.of_mem_zip (a:=x.1) (b:=x.2) hx).1
    have:=hown x.1 hx1
    exact (z9z this).imp id fun h=>⟨h,cellsIn _ h⟩
  rw [h6] at F X
  generalize hcl:cellsFrom (s.heap.objs.size+1) fd.scope.names []=cells at X
  generalize hen:envOfC f fd.scope s.heap.objs.size a (.ref c')=cenv at F X ⊢
  have henv:cenv.scope=fd.scope∧cenv.locals=s.heap.objs.size∧cenv.cells=cells∧cenv.globals=mainGlobals∧cenv.builtins=builtinsNs:=by
    rw [← hen,← hcl];exact ⟨rfl,rfl,rfl,rfl,rfl⟩
  refine q4n henv ?_;clear henv;intro he1 he2 he3 he4 he5
  have hko:∀ x,cenv.kindOf x=fd.scope.names.lookup x:=fun x=>by unfold Env.kindOf;rw [he1]
  have hnew:∀ b,(b=s.heap.objs.size∨∃ x,cells.lookup x=some b)→s.heap.get? b=none:=fun b hb=>by
    refine Heap.get?_none_of_le ?_
    rcases hb with rfl | ⟨x,hx⟩
    · exact Nat.le_refl _
    · exact Nat.le_of_lt (X.above x b (mem_of_lookup hx))
  have step1:Step noOne s { s with heap:=hh,toks:=tk }:=Step.of_keep F.keep
  have rm':q1d k (A.deeper cenv):=⟨rm.calm,by have:=rm.depth;show A.depth+1+k≤900;omega,by have:=rm.units;show A.units+3+4*k≤9000;omega⟩
  refine h cenv (fun b=>V b∨b=s.heap.objs.size∨∃ x,cells.lookup x=some b) { s with heap:=hh,toks:=tk } ?_ ?_ ?_ step1 (fun b hb=>Or.inl hb) ?_ rm'
  · refine ⟨by rw [he1];exact hkind,he4,he5,fun x hx=>?_,fun x hx=>?_,fun x hx=>?_,?_,?_,fun x b hb=>?_,fun x y b hx hy=>?_⟩
    · rw [hko]
      exact of_decide_eq_true hx
    · rw [hko];exact hx
    · rw [hko]
      rcases hx with hx | hx
      · refine ⟨hx,?_⟩
        have:=cellsIn x hx
        rw [hcl,← he3] at this
        exact Option.isSome_iff_exists.mp this
      · have:=hfree _ (inNames x _ hx)
        exact Mine.tf this
    · rw [hko];exact hdbg
    · rw [he2];exact Or.inr (Or.inl rfl)
    · rw [he3] at hb;exact Or.inr (Or.inr ⟨x,hb⟩)
    · rw [he3] at hx hy;exact name_of_addr X.apart (mem_of_lookup hx) (mem_of_lookup hy)
  · refine st.moreAll (s':={ s with heap:=hh,toks:=tk }) step1 fun b hb=>?_
    rcases hb with hb | hb
    · exact Or.inl hb
    · refine Or.inr ⟨hnew b hb,?_⟩
      rcases hb with rfl | ⟨x,hx⟩
      · rcases F.ns with ⟨o,_,_,e,_⟩;exact ⟨o,e⟩
      · obtain ⟨o,e,_⟩:=X.cell x b hx;exact ⟨o,e⟩
  · have out1:∀ b o,s.heap.get? b=some o→Out V m b→hh.get? b=some o∧Out (fun b=>V b∨b=s.heap.objs.size∨∃ x,cells.lookup x=some b) m b:=fun b o e ho=>⟨F.keep b o e,(by
      rintro (h | h)
      · exact ho.1 h
      · exact Mine.ns ((hnew b h).symm.trans e)),ho.2⟩
    refine ⟨⟨_,by rw [he2];exact F.ns⟩,fun x b hb=>?_,fun x d hx=>?_⟩
    · rw [he3] at hb;exact ⟨_,X.cell x b hb⟩
    · refine z1u (z2y (kindOf:=cenv.kindOf) (ml:=fun zz=>none) (mc:=fun zz=>none) hnd hlen (ra.mono out1 fun zz zz e=>e) hx) ?_;intro v q1 q2 q3 q4
      refine ⟨v,?_,q2⟩
      have:=hown x q1
      rcases z9z this with h | h
      · have hk:cenv.kindOf x=some .local:=by rw [hko];exact h
        exact Or.inl ⟨hk,_,by rw [he2];exact F.ns,q3 hk⟩
      · have hk:cenv.kindOf x=some .cell:=by rw [hko];exact h
        obtain ⟨b,hb⟩:=Option.isSome_iff_exists.mp (cellsIn x h)
        rw [hcl] at hb
        refine Or.inr ⟨hk,b,by rw [he3];exact hb,?_⟩
        have:=X.cell x b hb
        rw [q4 (by rw [hk];simp)] at this
        exact this
  · intro b hb
    rcases hb with hb | ⟨x,_,hb⟩
    · rw [he2] at hb;exact hnew b (Or.inl hb)
    · rw [he3] at hb;exact hnew b (Or.inr ⟨x,hb⟩)
set_option tactic.hygienic true in
theorem j5x (gd:Gnd p w H0 mg mb G) (IH:Snd p w H0 mg G k R) (rm:q1d (k+1) A) {f:Str} {fd:q9a} {a:Addr} {args:List D} {vs:List Value} (st:q0k (p:=p) (w:=w) (tab:=G.tab) H0 s.heap V m σ) (hfd:G.fn f=some fd) (hm:mg f=some (.ref a))
    (ra:RepL p w G.tab s.heap V m args vs) (e:caStep G R f args σ=some (d,σ')) :
    wpAny (model p w) A (call (.ref a) vs) (fun v s'=>Step (fun b=>b∈m) s s'∧q0k (p:=p) (w:=w) (tab:=G.tab) H0 s'.heap V m σ'∧Rep p w G.tab s'.heap V m d v) NoE s:=by
  refine q0d fun hn=>?_
  obtain ⟨fd',hfd',e⟩:=Option.bind_eq_some_iff.mp e
  have hff:=Option.some.inj (hfd'.symm.trans hfd)
  rw [hff] at e
  obtain ⟨hc,e⟩:=ifS e
  have hc:=Bool.and_eq_true_iff.mp hc
  refine q0a (Option.bind_eq_some_iff.mp e) ?_;intro zw0 ex e;rcases zw0 with ⟨fl,L1,σ2⟩
  refine hn ?_
  cases fl<;>first | exact ns e | skip
  rename_i d0
  refine q0d fun hn=>?_
  refine q0a (Option.bind_eq_some_iff.mp e) ?_;intro d1 er e
  obtain ⟨hlf,e⟩:=ifS e
  refine hn ?_
  apply q6p e
  apply q0d;intro hG;rcases gd.fns f fd hfd with ⟨a',o,c',pm,doc,params,h1,h2,h3,h4,h5,h6⟩;apply hG;clear hG
  have haa:a'=a:=Value.ref.inj (Option.some.inj (h1.symm.trans hm))
  rw [haa] at h2
  refine q5x (eff:=true) gd.lim rm st h2 h3 h4 h5 h6 hc.2 (of_decide_eq_true hc.1) ra fun cenv V' s1 fo st1 lo step1 hVV hnew rm'=>?_
  refine wpAny_mono (q3r IH rm' fo rfl fd.body st1 (lo.weak fun zz zz h=>z8n h) ex) (fun fl s2 sp=>?_) fun zz zz h=>h
  refine q0d fun hn=>?_
  obtain ⟨nn,y⟩:=sp
  obtain ⟨v,hv,rv⟩:=y.flow
  refine hn ?_
  rw [hv]
  have hml:m.length=σ.length:=st.len
  have hσ2:σ2.length=m.length+nn.length:=by rw [← y.st.len,List.length_append]
  refine ⟨(step1.mono fun zz zz zz h=>h.elim).trans' y.step fun b o e hb=>?_,⟨y.st.kept,fun b hb=>y.st.vin b (hVV b hb),st.mge,by rw [List.length_take];show m.length=min σ.length σ2.length;omega,st.nodup,st.sep,fun j b ds hj hd=>?_⟩,?_⟩
  · exact hb.elim (fun hb=>hb) fun hb=>ns ((hnew b hb).symm.trans e)
  · have hjl:j<m.length:=(List.getElem?_eq_some_iff.mp hj).1
    have hd':=hd
    rw [List.getElem?_take_of_lt (by omega)] at hd
    refine q0a (y.st.cell j b ds (q3f hj) hd) ?_;intro vs' q1 q2
    exact ⟨vs',q1,q3p (n:=resFuel) (V:=V') (m:=m++nn) (List.all_eq_true.mp hlf ds (List.mem_of_getElem? hd')) (fun x hx=>⟨fun h=>hx.1 (hVV x h),fun h=>hx.2 (List.mem_append_left _ h)⟩) q2⟩
  · refine q5t y.st hVV (fun b h=>List.mem_append_left _ h) (fun j b hj hb hm=>?_) _ er rv
    obtain ⟨j',hj',e'⟩:=List.getElem_of_mem hm
    have h1:(m++nn)[j']?=some b:=q3f (by rw [List.getElem?_eq_getElem hj',e'])
    have:j=j':=j5w y.st.nodup hb h1
    omega
end
section
variable {p:Program} {w:World} {A:Around} {R:GenEnd} {Y:Protocol} {n:Nat} {s₀:Shared} {c:Code} {fs:List Frame} {s:Shared} {env:Env}
  {K:Flow→Sem Fin} {H:Value→Sem Fin} {gd:Bool→Bool} {lv:List Value→List Value}
theorem q6w {st:Stmt} {rest:List Stmt} (h:wpAny (model p w) (A.over c fs) (exec st env) (fun f s'=>f=.next∧Seg (model p w) A R Y n s₀ c ((execs rest env).wrap K H gd lv) fs s') NoE s) :
    Seg (model p w) A R Y n s₀ c ((execs (st::rest) env).wrap K H gd lv) fs s:=by
  refine seg_execs_cons (seg_wrap (wpAny_mono h (fun f s' h'=>?_) fun zz zz h=>h.elim))
  obtain ⟨hq1,h'⟩:=h'
  apply q0g hq1
  exact h'
theorem j1c {t:PySem.Expr} {a b:List Stmt} {pos:Pos} (h:wpAny (model p w) (A.over c fs) (isTrue t env (eval t env)) (fun r s'=>Seg (model p w) A R Y n s₀ c ((execs (if r then a else b) env).wrap K H gd lv) fs s') NoE s) :
    Seg (model p w) A R Y n s₀ c ((exec (.If t a b pos) env).wrap K H gd lv) fs s:=by
  refine seg_bind_wrap (wpAny_standAt ?_)
  refine seg_bind_wrap (wpAny_mono h (fun r s' h'=>?_) fun zz zz h=>h.elim)
  induction r using q2i with
  | true=>exact h'
  | false=>exact h'
noncomputable def ownK (env:Env) (K:Flow→Sem Fin) (H:Value→Sem Fin) (gd:Bool→Bool) (lv:List Value→List Value) (r:Result):Sem Fin:=
  ((match r with | .ok f=>(.pure f:Sem Flow) | .error e=>.raise e).onRaise fun (x:Value)=>do
    if (← field x 1)==Value.none then unsupported "frame.own-activation:exception-without-traceback"
    setFlight x env.frame).wrap K H gd lv
theorem v3o {f:Flow}:ownK env K H gd lv (.ok f)=K f:=rfl
theorem k2e {t it:PySem.Expr} {body orelse:List Stmt} {pos:Pos} (hs:∀ x,foldedSetIterable it env x=pure x)
    (h:wpAny (model p w) (A.over c fs) (eval it env) (fun x s1=>wpAny (model p w) (A.over c fs) (pyIter x) (fun i s2=>∀ q,
      Seg (model p w) A R Y n s₀ (.forLoop t i body orelse env) ((model p w).den (.forLoop t i body orelse env)) (.ret (ownK env K H gd lv) none (gd false) (lv []) c q []::fs) s2) NoE s1) NoE s) :
    Seg (model p w) A R Y n s₀ c ((exec (.For t it body orelse pos) env).wrap K H gd lv) fs s:=by
  refine seg_bind_wrap (wpAny_standAt ?_)
  refine seg_bind_wrap (wpAny_mono h (fun x s1 h1=>?_) fun zz zz h=>h.elim)
  refine seg_bind_wrap (wpAny_of_eq (hs x) ?_)
  refine seg_bind_wrap (wpAny_standAt ?_)
  refine seg_bind_wrap (wpAny_holding (wpAny_mono h1 (fun i s2 h2=>?_) fun zz zz h=>h.elim))
  exact seg_call h2
theorem q8c {t:PySem.Expr} {it:Value} {body orelse:List Stmt}
    (h:wpAny (model p w) (A.over (.forLoop t it body orelse env) fs) (pyNext it) (fun r s'=>match r with
      | none=>Seg (model p w) A R Y n s₀ (.forLoop t it body orelse env) (.pure (.again (.block orelse env))) fs s'
      | some v=>wpAny (model p w) (A.over (.forLoop t it body orelse env) fs) (letOwnedTupleGo t it v) (fun zz s1=>wpAny (model p w) (A.over (.forLoop t it body orelse env) fs) (assign t env v) (fun zz s2=>
          Seg (model p w) A R Y n s₀ (.forLoop t it body orelse env) ((execs body env).wrap (fun f=>match f with
            | .next | .cont=>.pure (.again (.forLoop t it body orelse env))
            | .brk=>.pure (.done .next)
            | .ret v=>.pure (.done (.ret v))) (fun e=>(do noteFrame e env;theTreesLotGoes e:Sem Unit).wrap (fun zz=>.raise e) .raise id id) id id) fs s2) NoE s1) NoE s') NoE s) :
    Seg (model p w) A R Y n s₀ (.forLoop t it body orelse env) ((model p w).den (.forLoop t it body orelse env)) fs s:=by
  show Seg _ A R Y n s₀ _ ((forTurn t it body orelse env).onRaise (fun x=>do noteFrame x env;theTreesLotGoes x)) fs s
  rw [Sem.onRaise_eq_wrap]
  refine seg_bind_wrap (wpAny_standAt ?_)
  refine seg_bind_wrap (wpAny_onRaise (wpAny_mono h (fun r s1 h1=>?_) fun zz zz h=>h.elim))
  induction r using Mine.oC with
  | none=>exact h1
  | some v=>
    refine seg_bind_wrap (wpAny_mono h1 (fun zz s2 h2=>?_) fun zz zz h=>h.elim)
    refine seg_bind_wrap (wpAny_mono h2 (fun zz s3 h3=>?_) fun zz zz h=>h.elim)
    rw [Sem.bind_eq_wrap',Sem.wrap_wrap]
    rw [Sem.wrap_congr (execs body env) _ _ (K':=fun f=>match f with
            | .next | .cont=>.pure (.again (.forLoop t it body orelse env))
            | .brk=>.pure (.done .next)
            | .ret v=>.pure (.done (.ret v))) (H':=(fun e=>(do noteFrame e env;theTreesLotGoes e:Sem Unit).wrap (fun zz=>.raise e) .raise id id))
        (fun f=>by cases f<;>rfl)
        (fun e=>by first | exact Sem.bind_eq_wrap _ _ | (show (do noteFrame e env;theTreesLotGoes e:Sem Unit).bind (fun zz=>.raise e)=_))]
    exact h3
theorem z0y (h:Seg (model p w) A R Y n s₀ (.block [] env) (.pure (.done .next)) fs s):Seg (model p w) A R Y n s₀ (.block [] env) ((model p w).den (.block [] env)) fs s:=h
end
section
variable {p:Program} {w:World} {A:Around} {E:Value→Shared→Prop} {s:Shared}
theorem j5y {a:Addr} {g n:Nat} {gs:GenState} {P:Nat→Shared→Shared→Prop} {Y:Protocol} {Q:Option Value→Shared→Prop} (hh:A.handled=none)
    (hl:s.heap.NoLimit) (hroom:A.depth<recursionLimit)
    (hg:s.heap.IsGen a g) (hgs:s.gens[g]?=some gs)
    (hgo:gs.Goes (model p w) A.in1 (fun n s₀ r s₁=>r=.ok (.ret .none)∧P n s₀ s₁) Y n (.send .none) (s.setGen g .running))
    (hY:∀ v s₁ gs',gs'.bare=true→Y (n - 1) (s.setGen g .running) v s₁ (fun r' s''=>match n with
        | 0=>False
        | m+1=>gs'.Goes (model p w) A.in1 (fun n s₀ r s₁=>r=.ok (.ret .none)∧P n s₀ s₁) Y m r' s'')→Q (some v) (s₁.setGen g gs'))
    (hP:∀ s₁,P n (s.setGen g .running) s₁→∀ h',(∀ b o,s₁.heap.get? b=some o→h'.get? b=some o)→Q none { s₁.setGen g .finished with heap:=h' }) :
    wpAny (model p w) A (pyNext (.ref a)) Q E s:=by
  refine wpAny_bind (wpAny_attempt (wpAny_callSpecial?_slot (name:=Str.ofString "__next__") hg.typeIs slot_gen_next
    (wpAny_call_entry slot_gen_next hg.typeIs entry_gen_next ?_ (args_gen_next _))))
  show wpAny _ A.in1 (Builtin.Generator.genWake (.ref a) (.send .none)) _ _ s
  refine wpAny_bind (wpAny_holding (wpAny_genNumber hg (wpAny_bind (wpAny_genState hgs ?_))))
  cases gs with
  | running=>exact hgo.elim
  | finished=>exact hgo.elim
  | _=>
    refine wpAny_bind (wpAny_roomToWake hl hroom ?_)
    show wpAny _ A.in1 (.resume g (.send .none) [] _) _ _ s
    refine wpAny_resumeQ hgs hgo (fun x s₁ hx=>?_) (fun v s₁ gs' hb hv=>?_)
    · obtain ⟨rfl,hp⟩:=hx
      show wpAny _ A.in1 (newExc (.type "StopIteration") [] >>= _) _ _ _
      refine wpAny_bind ?_
      refine wpAny_bind (wpAny_newObj_type ?_ (by size_fits))
      refine wpAny_bind (m:=firstArgMember _ _) (wpAny_of_eq (a:=Value.none) (by first | rfl | (rfl;rfl)) ?_)
      refine wpAny_newObj_type ?_ (by size_fits)
      refine wpAny_bind (wpAny_bind (wpAny_handled ?_))
      first | rw [show A.in1.handled=none from hh] | skip
      refine wpAny_throw ?_
      refine wpAny_bind (wpAny_isInstance (T:="StopIteration") (b:=true) ⟨_,Heap.get?_push_size _ rfl,rfl⟩ isSubtype_stop ?_)
      exact wpAny_pure (hP s₁ hp _ fun b o hb=>Heap.get?_push_of_some _ (Heap.get?_push_of_some _ hb))
    · exact wpAny_pure ⟨v,rfl,wpAny_pure (hY v s₁ gs' hb hv)⟩
end
noncomputable def nPos:Str:=Str.ofString "pos"
noncomputable def nEsc:Str:=Str.ofString "escape"
noncomputable def nCh:Str:=Str.ofString "ch"
noncomputable def nAddr:Str:=Str.ofString "addr"
noncomputable def nEnum:Str:=Str.ofString "enumerate"
noncomputable def bsl:Str:=⟨#[92]⟩
section
variable (P:Nat→Pos) (K:Nat→Nat)
noncomputable def escTarget:PySem.Expr:=.Tuple [.Name nPos (P 6),.Name nCh (P 7)] (K 2) (P 8)
noncomputable def escIter:PySem.Expr:=.Call (.Name nEnum (P 9)) [.Name nAddr (P 10)] [] (P 11)
noncomputable def escY1:PySem.Expr:=.Tuple [.Name nPos (P 13),.BinOp (.Constant (.str bsl) (K 3) (P 14)) .Add (.Name nCh (P 15)) (P 16)] (K 4) (P 17)
noncomputable def escY2:PySem.Expr:=.Tuple [.Name nPos (P 29),.Name nCh (P 30)] (K 7) (P 31)
noncomputable def escY3:PySem.Expr:=.Tuple [.Name nPos (P 38),.Constant (.str bsl) (K 9) (P 39)] (K 10) (P 40)
noncomputable def escLoop:List Stmt:=
  [.If (.Name nEsc (P 12)) [.Expr (.Yield (some (escY1 P K)) (P 18)) (P 19),.Assign [.Name nEsc (P 20)] (.Constant (.bool false) (K 5) (P 21)) (P 22)]
    [.If (.Compare (.Name nCh (P 23)) [.Eq] [.Constant (.str bsl) (K 6) (P 24)] (P 25)) [.Assign [.Name nEsc (P 26)] (.Constant (.bool true) (K 8) (P 27)) (P 28)]
      [.Expr (.Yield (some (escY2 P K)) (P 32)) (P 33)] (P 34)] (P 35)]
noncomputable def escLast:List Stmt:=[.If (.Name nEsc (P 37)) [.Expr (.Yield (some (escY3 P K)) (P 41)) (P 42)] [] (P 43)]
noncomputable def escBody:List Stmt:=
  .Assign [.Name nPos (P 0)] (.Constant (.int 0) (K 0) (P 1)) (P 2) :: .Assign [.Name nEsc (P 3)] (.Constant (.bool false) (K 1) (P 4)) (P 5) ::
  .For (escTarget P K) (escIter P) (escLoop P K) [] (P 36)::escLast P K
end
noncomputable def escScope (sc:Scope):Bool:=
  decide (sc.kind=.function)&&!sc.isCoroutine&&sc.isGenerator&&(sc.names.all fun x=>decide (x.2=.local)||decide (x.2=.globalImplicit))&&(sc.names.lookup ("__debug__":Str)).isNone&&
  decide (sc.names.lookup nPos=some .local)&&decide (sc.names.lookup nEsc=some .local)&&decide (sc.names.lookup nCh=some .local)&&decide (sc.names.lookup nAddr=some .local)&&decide (sc.names.lookup nEnum=some .globalImplicit)
noncomputable def Gl.still (G:Gl):Gl:={ fn:=fun zz=>none,prim:=fun zz=>none,const:=fun zz=>none,tab:=G.tab,gen:=fun zz=>false }
noncomputable abbrev still (G:Gl):Rec:=recN G.still 6
noncomputable def escL (x:List Nat) (i:Nat) (e:Bool):Loc:=[(nAddr,some (.str x)),(nPos,some (.int i)),(nEsc,some (.bool e))]
noncomputable def escLc (x:List Nat) (i:Nat) (e:Bool) (ch:Nat):Loc:=escL x i e++[(nCh,some (.str [ch]))]
theorem ne1:¬ nEsc=nAddr:=by decide +kernel
theorem ne2:¬ nEsc=nPos:=by decide +kernel
theorem ne3:¬ nPos=nAddr:=by decide +kernel
theorem ne4:¬ nCh=nAddr:=by decide +kernel
theorem ne5:¬ nCh=nPos:=by decide +kernel
theorem ne6:¬ nCh=nEsc:=by decide +kernel
theorem q0b {G:Gl} {n:Nat}:(recN G (n+1)).ev=evStep G (recN G n):=rfl
theorem q0u {G:Gl} {n:Nat}:(recN G (n+1)).ts=tsStep G (recN G n):=rfl
theorem q0m {G:Gl} {n:Nat}:(recN G (n+1)).ex=exStep G (recN G n):=rfl
theorem v3p {G:Gl} {n:Nat}:(recN G (n+1)).ca=caStep G (recN G n):=rfl
section
variable {G:Gl} {sc:Scope} {eff:Bool} {x:List Nat} {i:Nat} {e b:Bool} {ch:Nat} {q q1 q2 q3 q4:Pos} {kk k1:Nat}
theorem j5z:Loc.find nEsc (escL x i e)=some (.bool e):=rfl
theorem j1d:Loc.find nEsc (escLc x i e ch)=some (.bool e):=rfl
theorem v2s:Loc.find nPos (escL x i e)=some (.int i):=rfl
theorem k8s:Loc.find nPos (escLc x i e ch)=some (.int i):=rfl
theorem v2t:Loc.find nCh (escLc x i e ch)=some (.str [ch]):=rfl
theorem k8t:Loc.find nAddr (escL x i e)=some (.str x):=rfl
theorem k2f {n:Nat} {L:Loc} {y:Str} {d:D} (h:Loc.find y L=some d):(recN G.still (n+1)).ev ⟨sc,[],false,eff⟩ L [] (.Name y q)=some (d,[]):=by
  show (Loc.find y L).elim _ _=_
  rw [h];rfl
theorem v2u {n:Nat} {L:Loc} {c:Const} {d:D} (h:constD c=some d):(recN G.still (n+1)).ev ⟨sc,[],false,eff⟩ L [] (.Constant c kk q)=some (d,[]):=by
  show (constD c).map _=_
  rw [h];rfl
theorem j1e {L:Loc} (h:Loc.find nEsc L=some (.bool b)):(still G).ts ⟨sc,[],false,eff⟩ L [] (.Name nEsc q)=some (b,[]):=by
  show ((recN G.still 5).ev _ L [] (.Name nEsc q)).bind _=_
  rw [k2f (n:=4) h];rfl
theorem k8u:(still G).ts ⟨sc,[],false,eff⟩ (escLc x i e ch) [] (.Compare (.Name nCh q) [.Eq] [.Constant (.str bsl) kk q1] q2)=some (ch==92,[]):=by
  refine (rfl:_=some ([ch]==[92],[])).trans ?_
  simp
theorem k8v {P:Nat→Pos} {K:Nat→Nat}:evs (still G) ⟨sc,[],false,eff⟩ (escLc x i e ch) [] [.Name nPos (P 13),.BinOp (.Constant (.str bsl) (K 3) (P 14)) .Add (.Name nCh (P 15)) (P 16)]=some ([.int i,.str [92,ch]],[]):=rfl
theorem k8w {P:Nat→Pos}:evs (still G) ⟨sc,[],false,eff⟩ (escLc x i e ch) [] [.Name nPos (P 29),.Name nCh (P 30)]=some ([.int i,.str [ch]],[]):=by
  rfl
theorem k8x {P:Nat→Pos} {K:Nat→Nat}:evs (still G) ⟨sc,[],false,eff⟩ (escL x i e) [] [.Name nPos (P 38),.Constant (.str bsl) (K 9) (P 39)]=some ([.int i,.str [92]],[]):=by
  rfl
theorem z4w {sc:Scope} {x:Str} {d:D} {L:Loc} (h:sc.names.lookup x=some .local):put1 sc x d L=some (Loc.put x d L):=if_pos (Bool.or_eq_true_iff.mpr (.inl (decide_eq_true h)))
theorem v3q:Loc.put nEsc (.bool b) (escLc x i e ch)=escLc x i b ch:=rfl
theorem k1d (h:sc.names.lookup nEsc=some .local):(still G).ex ⟨sc,[],false,true⟩ (escLc x i e ch) [] (.Assign [.Name nEsc q] (.Constant (.bool b) kk q1) q2)=some (.next,escLc x i b ch,[]):=by
  rw [q0m]
  show (put1 sc nEsc (.bool b) (escLc x i e ch)).map _=_
  rw [z4w h];rfl
theorem z4x {P:Nat→Pos} {K:Nat→Nat} {j:Nat} (h1:sc.names.lookup nPos=some .local) (h2:sc.names.lookup nCh=some .local):give sc [] (escTarget P K) (.tup [.int j,.str [ch]]) (escL x i e)=some (escLc x j e ch):=by
  show (put1 sc nPos (.int j) (escL x i e)).bind _=_
  rw [z4w h1]
  show (put1 sc nCh (.str [ch]) _).bind _=_
  rw [z4w h2];rfl
end
structure q4c (O:Addr→Prop) (z:Addr) (s s':Shared):Prop where
  keep:∀ b o,s.heap.get? b=some o→¬ O b→s'.heap.get? b=some o
  pres:∀ b o,b≠z→s.heap.get? b=some o→∃ o',s'.heap.get? b=some o'
  os:s'.os=s.os
  drawn:s'.drawn=s.drawn
  gens:∀ (j:Nat) g,s.gens[j]?=some g→s'.gens[j]?=some g
  bare:AllBare s.gens→AllBare s'.gens
theorem q4c.refl {O} {z:Addr} {s:Shared}:q4c O z s s:=⟨fun zz zz e zz=>e,fun zz o zz e=>⟨o,e⟩,rfl,rfl,fun zz zz e=>e,fun h=>h⟩
theorem q4c.step {O O':Addr→Prop} {z:Addr} {s s' s'':Shared} (x:q4c O z s s') (y:Step O' s' s'') (h:∀ a,O' a→O a):q4c O z s s'':=
  ⟨fun b o e ho=>y.keep b o (x.keep b o e ho) fun hb=>ho (h b hb),fun b o hb e=>let ⟨o',e'⟩:=x.pres b o hb e;y.pres b o' e',y.os.trans x.os,y.drawn.trans x.drawn,fun j g e=>y.gens j g (x.gens j g e),fun h=>y.bare (x.bare h)⟩
theorem q4c.heap {O:Addr→Prop} {z:Addr} {s s':Shared} {h':Heap} {tk:Nat} (x:q4c O z s s') (hk:∀ b o,¬ O b→s'.heap.get? b=some o→h'.get? b=some o) (hp:∀ b o,b≠z→s'.heap.get? b=some o→∃ o',h'.get? b=some o'):q4c O z s { s' with heap:=h',toks:=tk }:=
  ⟨fun b o e ho=>hk b o ho (x.keep b o e ho),fun b o hb e=>let ⟨o',e'⟩:=x.pres b o hb e;hp b o' hb e',x.os,x.drawn,x.gens,x.bare⟩
section
variable (p:Program) (w:World) (H0:Heap) (G:Gl)
noncomputable def Old (H0:Heap) (z:Addr) (s₀:Shared) (b:Addr):Prop:=((∃ o,s₀.heap.get? b=some o)∨b=z∨b=z+1)∧H0.get? b=none
noncomputable def GOwn (Lg z:Addr) (b:Addr):Prop:=b=Lg∨b=z∨b=z+1
noncomputable def VG (H0:Heap) (s₀:Shared) (z:Addr) (b:Addr):Prop:=H0.get? b=none∧(((∃ o,s₀.heap.get? b=some o)∧b≠z)∨b=z+1)
noncomputable def escR (Lg z:Addr):Nat→Shared→Shared→Prop:=fun n s₀ s₁=>n=0∧q4c (GOwn Lg z) z s₀ s₁∧Kept H0 s₁.heap
noncomputable def escE (Lg z:Addr):GenEnd:=fun n s₀ r s₁=>r=.ok (.ret .none)∧escR H0 Lg z n s₀ s₁
noncomputable def escY (x:List Nat) (Lg z:Addr):Protocol:=fun m s₀ v s kap=>
  (∃ d,(escD x)[(escD x).length - 1 - m]?=some d∧Rep p w G.tab s.heap (Old H0 z s₀) [] d v)∧q4c (GOwn Lg z) z s₀ s∧Kept H0 s.heap∧(∀ b,GOwn Lg z b→∃ o,s.heap.get? b=some o)∧(H0.get? z=none∧H0.get? (z+1)=none)∧
    ∀ s'':Shared,(∀ b,GOwn Lg z b→∀ o,s.heap.get? b=some o→s''.heap.get? b=some o)→Kept H0 s''.heap→kap (.send .none) s''
structure q6t (env:Env) (z:Addr) (s₀ s:Shared) (L:Loc):Prop where
  kept:Kept H0 s.heap
  moved:q4c (GOwn env.locals z) z s₀ s
  en:∃ o,s.heap.get? (z+1)=some o
  en0:∃ o,s.heap.get? z=some o
  lo:q0i p w G.tab env s.heap (VG H0 s₀ z) [] L
  own:(∃ o,s₀.heap.get? env.locals=some o)∧H0.get? env.locals=none
  new:H0.get? z=none∧H0.get? (z+1)=none
  ne:z≠env.locals∧z+1≠env.locals
structure q4i (env:Env) (x:List Nat) (t:Tok) (z:Addr) (s₀ s:Shared) (i:Nat) (L:Loc):Prop where
  base:q6t p w H0 G env z s₀ s L
  enum:∃ old,IsEnum s.heap (z+1) z i old
  it:s.heap.IsStrIter z (strIterType ⟨x.toArray⟩) ⟨x.toArray⟩ t i
end
section
variable {p:Program} {w:World} {H0:Heap} {mg mb:Str→Option Value} {G:Gl} {env:Env} {sc:Scope} {x:List Nat} {t:Tok} {z:Addr} {s₀ s s':Shared} {i:Nat} {L L':Loc} {A:Around}
theorem q6t.st (a:q6t p w H0 G env z s₀ s L):q0k (p:=p) (w:=w) (tab:=G.tab) H0 s.heap (VG H0 s₀ z) [] []:=
  ⟨a.kept,fun b hb=>⟨(by
    rcases hb.2 with ⟨⟨o,e⟩,hne⟩ | rfl
    · exact a.moved.pres b o hne e
    · exact a.en),hb.1⟩,fun zz h=>(by cases h),rfl,List.nodup_nil,fun zz h=>(by cases h),fun zz zz zz h=>(by exact Mine.ns h)⟩
theorem q6t.old (a:q6t p w H0 G env z s₀ s L):VG H0 s₀ z env.locals:=⟨a.own.2,Or.inl ⟨a.own.1,Ne.symm a.ne.1⟩⟩
theorem q6t.weak (a:q6t p w H0 G env z s₀ s L) (h:∀ y d,Loc.find y L'=some d→Loc.find y L=some d):q6t p w H0 G env z s₀ s L':=
  ⟨a.kept,a.moved,a.en,a.en0,a.lo.weak h,a.own,a.new,a.ne⟩
structure q2g (env:Env) (sc:Scope):Prop where
  scope:env.scope=sc
  ok:escScope sc=true
  cells:env.cells=[]
  glob:env.globals=mainGlobals
  bui:env.builtins=builtinsNs
theorem q2g.names (h:q2g env sc):sc.names.lookup nPos=some .local∧sc.names.lookup nEsc=some .local∧sc.names.lookup nCh=some .local∧sc.names.lookup nAddr=some .local∧sc.names.lookup nEnum=some .globalImplicit:=by
  have:=h.ok
  simp only [escScope,Bool.and_eq_true,decide_eq_true_eq] at this
  exact ⟨this.1.1.1.1.2,this.1.1.1.2,this.1.1.2,this.1.2,this.2⟩
theorem q2g.shape (h:q2g env sc):sc.kind=.function∧sc.isCoroutine=false∧sc.isGenerator=true∧(∀ x∈sc.names,x.2=.local∨x.2=.globalImplicit)∧sc.names.lookup ("__debug__":Str)=none:=by
  have:=h.ok
  simp only [escScope,Bool.and_eq_true,decide_eq_true_eq,Bool.not_eq_true',Option.isNone_iff_eq_none,List.all_eq_true,Bool.or_eq_true] at this
  exact ⟨this.1.1.1.1.1.1.1.1.1,this.1.1.1.1.1.1.1.1.2,this.1.1.1.1.1.1.1.2,this.1.1.1.1.1.1.2,this.1.1.1.1.1.2⟩
theorem q2g.fr (h:q2g env sc) {V:Addr→Prop} {eff:Bool} (hV:V env.locals):q1m env ⟨sc,[],false,eff⟩ V:=by
  refine q4n h.shape ?_;intro h1 h2 h3 h4 h5
  have hko:∀ x,env.kindOf x=sc.names.lookup x:=fun x=>by unfold Env.kindOf;rw [h.scope]
  refine ⟨(by rw [h.scope];exact h1),h.glob,h.bui,fun x hx=>?_,fun x hx=>(by rw [hko];exact hx),fun x hx=>?_,(by rw [hko];exact h5),hV,fun x a hx=>(by rw [h.cells] at hx;exact Mine.ns hx),fun x y a hx=>(by rw [h.cells] at hx;exact Mine.ns hx)⟩
  · rw [hko]
    exact of_decide_eq_true hx
  · exfalso
    rcases hx with hx | hx
    · rcases h4 _ (mem_of_lookup hx) with h | h<;>cases h
    · rcases h4 _ (mem_of_lookup hx) with h | h<;>cases h
theorem q3x (h:q2g env sc) {eff:Bool} {b:Addr} (hb:Own env ⟨sc,[],false,eff⟩ b):b=env.locals:=by
  rcases hb with rfl | ⟨x,_,hx⟩
  · rfl
  · rw [h.cells] at hx;exact Mine.ns hx
theorem q6t.move {O:Addr→Prop} (a:q6t p w H0 G env z s₀ s L) (hO:∀ b,O b→b=env.locals) (step:Step O s s') (lo:q0i p w G.tab env s'.heap (VG H0 s₀ z) [] L'):q6t p w H0 G env z s₀ s' L':=by
  have k:∀ b,b≠env.locals→∀ o,s.heap.get? b=some o→s'.heap.get? b=some o:=fun b hb o e=>step.keep b o e fun h=>hb (hO b h)
  refine ⟨fun b o e=>k b (fun h=>?_) o (a.kept b o e),a.moved.step step fun b hb=>Or.inl (hO b hb),?_,?_,lo,a.own,a.new,a.ne⟩
  · rw [h,a.own.2] at e;exact Mine.ns e
  · obtain ⟨o,e⟩:=a.en;exact ⟨o,k _ a.ne.2 _ e⟩
  · obtain ⟨o,e⟩:=a.en0;exact ⟨o,k _ a.ne.1 _ e⟩
theorem q4i.move {O:Addr→Prop} (a:q4i p w H0 G env x t z s₀ s i L) (hO:∀ b,O b→b=env.locals) (step:Step O s s') (b:q6t p w H0 G env z s₀ s' L'):q4i p w H0 G env x t z s₀ s' i L':=by
  have k:∀ b,b≠env.locals→∀ o,s.heap.get? b=some o→s'.heap.get? b=some o:=fun b hb o e=>step.keep b o e fun h=>hb (hO b h)
  refine ⟨b,?_,?_⟩
  · obtain ⟨old,e⟩:=a.enum;exact ⟨old,k _ a.base.ne.2 _ e⟩
  · obtain ⟨o,e,r⟩:=a.it;exact ⟨o,k _ a.base.ne.1 _ e,r⟩
theorem q4i.weak (a:q4i p w H0 G env x t z s₀ s i L) (h:∀ y d,Loc.find y L'=some d→Loc.find y L=some d):q4i p w H0 G env x t z s₀ s i L':=⟨a.base.weak h,a.enum,a.it⟩
theorem q0i.scal {h h':Heap} {V V':Addr→Prop} {m m':List Addr} (lo:q0i p w G.tab env h V m L) (hs:∀ y d,Loc.find y L=some d→scalarD d=true) (hl:∀ o,h.get? env.locals=some o→h'.get? env.locals=some o)
    (hc:env.cells=[]):q0i p w G.tab env h' V' m' L:=by
  refine ⟨let ⟨f,o,es,ep,e,r⟩:=lo.ns;⟨f,o,es,ep,hl o e,r⟩,fun x a hx=>(by rw [hc] at hx;exact Mine.ns hx),fun y d hy=>?_⟩
  refine q0a (lo.vars y d hy) ?_;intro v hst hr
  have hd:=hs y d hy
  refine ⟨v,?_,?_⟩
  · rcases hst with ⟨q1,f,⟨o,es,ep,e,r⟩,q3⟩ | ⟨q1,a,q2,q3⟩
    · exact Or.inl ⟨q1,f,⟨o,es,ep,hl o e,r⟩,q3⟩
    · rw [hc] at q2;exact Mine.ns q2
  · induction d using D.casesOn<;>first | (simp [scalarD] at hd;done) | (exact hr)
theorem z2z {e:Bool}:∀ y d,Loc.find y (escL x i e)=some d→scalarD d=true:=fun y d h=>by
  refine Mine.iteE h ?_ ?_<;>clear h<;>intro hc h
  · apply q0w h;rfl
  · refine Mine.iteE h ?_ ?_<;>clear h<;>intro hc h
    · apply q0w h;rfl
    · refine Mine.iteE h ?_ ?_<;>clear h<;>intro hc h
      · apply q0w h;rfl
      · exact Mine.ns h
theorem q9s {e:Bool} {ch:Nat}:∀ y d,Loc.find y (escLc x i e ch)=some d→scalarD d=true:=fun y d h=>by
  refine Mine.iteE h ?_ ?_<;>clear h<;>intro hc h
  · apply q0w h;rfl
  · refine Mine.iteE h ?_ ?_<;>clear h<;>intro hc h
    · apply q0w h;rfl
    · refine Mine.iteE h ?_ ?_<;>clear h<;>intro hc h
      · apply q0w h;rfl
      · refine Mine.iteE h ?_ ?_<;>clear h<;>intro hc h
        · apply q0w h;rfl
        · exact Mine.ns h
theorem z6o {y:Str} {d:D} {B:Loc}:∀ {A:Loc},Loc.find y A=some d→Loc.find y (A++B)=some d
  | [],h=>ns h
  | (z,e)::r,h=>by
    refine Mine.iteE h ?_ ?_<;>clear h<;>intro hc h
    · exact (if_pos hc).trans h
    · exact (if_neg hc).trans (z6o h)
theorem q5y {e:Bool} {ch:Nat}:∀ y d,Loc.find y (escL x i e)=some d→Loc.find y (escLc x i e ch)=some d:=fun y d h=>z6o h
end
section
variable {p:Program} {w:World} {H0:Heap} {mg mb:Str→Option Value} {G:Gl} {env:Env} {sc:Scope} {x:List Nat} {t:Tok} {z:Addr} {s₀ s s':Shared} {i:Nat} {L L':Loc} {A A':Around}
noncomputable def Went (p:Program) (w:World) (H0:Heap) (G:Gl) (env:Env) (z:Addr) (s₀ s s':Shared) (L':Loc):Prop:=∃ O:Addr→Prop,(∀ b,O b→b=env.locals)∧Step O s s'∧q6t p w H0 G env z s₀ s' L'
theorem Went.at (y:Went p w H0 G env z s₀ s s' L') (a:q4i p w H0 G env x t z s₀ s i L):q4i p w H0 G env x t z s₀ s' i L':=
  let ⟨_,h1,h2,h3⟩:=y;a.move h1 h2 h3
theorem j1f (S0:Snd p w H0 mg G.still 16 (still G)) (rm:q1d 16 A') (hE:q2g env sc) (a:q6t p w H0 G env z s₀ s L) {e:PySem.Expr} {b:Bool} (h:(still G).ts ⟨sc,[],false,false⟩ L [] e=some (b,[])) :
    wpAny (model p w) A' (isTrue e env (eval e env)) (fun r s'=>r=b∧Went p w H0 G env z s₀ s s' L) NoE s:=by
  refine wpAny_mono (S0.ts rm (hE.fr a.old) a.st a.lo h) (fun r s1 ⟨h1,n,mv,_,st⟩=>⟨h1,?_⟩) fun zz zz h=>h
  have hn:=mv.still rfl
  subst hn
  have lo:=mv.loc (hE.fr (eff:=false) a.old) a.st a.lo
  have step:Step noOne s s1:=mv.step.mono fun zz zz zz h=>by cases h.1
  exact ⟨noOne,fun zz h=>h.elim,step,a.move (O:=noOne) (fun zz h=>h.elim) step (lo)⟩
theorem k1e (S0:Snd p w H0 mg G.still 16 (still G)) (rm:q1d 16 A') (hE:q2g env sc) (a:q6t p w H0 G env z s₀ s L) {e:Stmt} (h:(still G).ex ⟨sc,[],false,true⟩ L [] e=some (.next,L',[])) :
    wpAny (model p w) A' (exec e env) (fun f s'=>f=.next∧Went p w H0 G env z s₀ s s' L') NoE s:=by
  refine wpAny_mono (S0.ex rm (hE.fr a.old) rfl a.st a.lo h) (fun f s1 ⟨n,h1,h2,h3,h4,h5⟩=>⟨h5,?_⟩) fun zz zz h=>h
  have hn:n=[]:=List.length_eq_zero_iff.mp (by have:=h3.len;exact this)
  subst hn
  have step:Step (Own env ⟨sc,[],false,true⟩) s s1:=h2.mono fun b zz zz h=>h.elim (fun h=>by cases h) fun h=>h
  exact ⟨_,fun b h=>q3x hE h,step,a.move (fun b h=>q3x hE h) step (by exact h4)⟩
theorem z3a {h h':Heap} {V V':Addr→Prop} {m m':List Addr}:∀ {ds:List D} {vs:List Value},ds.all scalarD=true→RepL p w G.tab h V m ds vs→RepL p w G.tab h' V' m' ds vs
  | [],_,_,r=>r
  | d::ds,vs,hs,r=>by
    simp only [List.all_cons,Bool.and_eq_true] at hs
    rcases r with ⟨v,vs',rfl,h1,h2⟩
    refine RepL.cons ?_ (z3a hs.2 h2)
    have hd:=hs.1
    induction d using D.casesOn<;>first | (exact Mine.ff hd;done) | (exact h1)
theorem z4y (S0:Snd p w H0 mg G.still 16 (still G)) (rm:q1d 16 A') (hE:q2g env sc) (a:q6t p w H0 G env z s₀ s L) {es:List PySem.Expr} {kk:Nat} {q:Pos} {ds:List D} (hp:es.all plainE=true) (hl:ds.length≤1000) (hd:ds.all scalarD=true)
    (h:evs (still G) ⟨sc,[],false,false⟩ L [] es=some (ds,[])) :
    wpAny (model p w) A' (eval (.Tuple es kk q) env) (fun v s'=>Rep p w G.tab s'.heap (Old H0 z s₀) [] (.tup ds) v∧Went p w H0 G env z s₀ s s' L) NoE s:=by
  refine Tuple_ (wpAny_mono (q3o S0 rm (hE.fr a.old) es hp a.st a.lo h) (fun vs s1 hh=>?_) fun zz zz h=>h)
  refine q0d fun hn=>?_
  rcases hh with ⟨n,mv,_,st1,r1⟩
  have hn:=mv.still rfl
  subst hn
  refine hn ?_
  have lo:=mv.loc (hE.fr (eff:=false) a.old) a.st a.lo
  have step:Step noOne s s1:=mv.step.mono fun zz zz zz h=>by cases h.1
  have a1:=a.move (O:=noOne) (fun zz h=>h.elim) step (lo)
  refine wpAny_newObj_type ?_ (by show vs.toArray.size≤sizeLine;rw [List.size_toArray,r1.length];exact Nat.le_trans (by assumption) (Nat.le_of_ble_eq_true rfl))
  have step2:Step noOne s1 { s1 with heap:=s1.heap.push { cls:=.type "tuple",dict:=none,data:=.seq vs.toArray },toks:=s1.toks }:=q1o
  have lo2:=a1.lo.step (hE.fr (eff:=false) a1.old) a1.st step2
  have a2:=a1.move (O:=noOne) (fun zz h=>h.elim) step2 lo2
  refine ⟨?_,noOne,fun zz h=>h.elim,step.trans step2,a2⟩
  refine ⟨_,vs.toArray,rfl,⟨fun hb=>?_,fun h=>by cases h⟩,⟨_,Heap.get?_push_size _ rfl,rfl,_,rfl⟩,z3a hd (show RepL p w G.tab s1.heap (VG H0 s₀ z) [] ds vs.toArray.toList from (by exact r1))⟩
  obtain ⟨o1,e1⟩:=a1.en
  have hlt:z+1<s1.heap.objs.size:=Heap.lt_size e1
  have hz:s1.heap.objs.size≠z:=Nat.ne_of_gt (Nat.lt_of_succ_lt hlt)
  rcases hb.1 with ⟨o,e⟩ | h | h
  · obtain ⟨o',e'⟩:=a1.moved.pres _ o hz e
    exact Nat.lt_irrefl _ (Heap.lt_size e')
  · exact hz h
  · exact Nat.ne_of_gt hlt h
theorem GOwn.new (a:q6t p w H0 G env z s₀ s L) {b:Addr} (hb:GOwn env.locals z b):H0.get? b=none:=by
  rcases hb with rfl | rfl | rfl
  · exact a.own.2
  · exact a.new.1
  · exact a.new.2
theorem q6t.lg (a:q6t p w H0 G env z s₀ s L):∃ o,s.heap.get? env.locals=some o:=by
  refine k8g a.lo.ns ?_;intro f o zw2 zw3 e zw5;exact ⟨o,e⟩
theorem q6t.again {s'':Shared} (a:q6t p w H0 G env z s₀ s L) (hE:q2g env sc) (hs:∀ y d,Loc.find y L=some d→scalarD d=true) (hal:∀ b,GOwn env.locals z b→∀ o,s.heap.get? b=some o→s''.heap.get? b=some o) (hk:Kept H0 s''.heap) :
    q6t p w H0 G env z s'' s'' L:=by
  refine ⟨hk,q4c.refl,?_,?_,a.lo.scal hs (fun o e=>hal _ (Or.inl rfl) o e) hE.cells,?_,a.new,a.ne⟩
  · obtain ⟨o,e⟩:=a.en;exact ⟨o,hal _ (Or.inr (Or.inr rfl)) _ e⟩
  · obtain ⟨o,e⟩:=a.en0;exact ⟨o,hal _ (Or.inr (Or.inl rfl)) _ e⟩
  · obtain ⟨o,h2⟩:=a.lg
    exact ⟨⟨o,hal _ (Or.inl rfl) o h2⟩,a.own.2⟩
theorem q4i.again {s'':Shared} (a:q4i p w H0 G env x t z s₀ s i L) (hE:q2g env sc) (hs:∀ y d,Loc.find y L=some d→scalarD d=true) (hal:∀ b,GOwn env.locals z b→∀ o,s.heap.get? b=some o→s''.heap.get? b=some o) (hk:Kept H0 s''.heap) :
    q4i p w H0 G env x t z s'' s'' i L:=by
  refine ⟨a.base.again hE hs hal hk,?_,?_⟩
  · obtain ⟨old,e⟩:=a.enum;exact ⟨old,hal _ (Or.inr (Or.inr rfl)) _ e⟩
  · obtain ⟨o,e,r⟩:=a.it;exact ⟨o,hal _ (Or.inr (Or.inl rfl)) _ e,r⟩
theorem j6a {done rest:List (Nat × List Nat)} {it:Nat × List Nat} (h:escaped 0 false x=done++it::rest):(escD x)[(escD x).length - 1 - rest.length]?=some (.tup [.int it.1,.str it.2]):=by
  unfold escD
  rw [h]
  simp only [List.map_append,List.map_cons,List.length_append,List.length_map,List.length_cons]
  have:done.length+(rest.length+1) - 1 - rest.length=(done.map fun x:Nat × List Nat=>D.tup [.int x.1,.str x.2]).length:=by simp<;>omega
  rw [this,List.getElem?_append_right (Nat.le_refl _),Nat.sub_self]
  rfl
theorem q5z {done rest:List (Nat × List Nat)} {it:Nat × List Nat} {v:Value} {kap:Resume→Shared→Prop} (h:escaped 0 false x=done++it::rest) (a:q6t p w H0 G env z s₀ s L)
    (r:Rep p w G.tab s.heap (Old H0 z s₀) [] (.tup [.int it.1,.str it.2]) v)
    (hk:∀ s'':Shared,(∀ b,GOwn env.locals z b→∀ o,s.heap.get? b=some o→s''.heap.get? b=some o)→Kept H0 s''.heap→kap (.send .none) s'') :
    escY p w H0 G x env.locals z rest.length s₀ v s kap:=⟨⟨_,j6a h,r⟩,a.moved,a.kept,fun b hb=>(by
    rcases hb with rfl | rfl | rfl
    · exact a.lg
    · exact a.en0
    · exact a.en),a.new,hk⟩
theorem j1g (hh:A.handled=none):Draws p w A z [z] x.length (fun i v=>∃ c u,x[i]?=some c∧v=.str ⟨#[c]⟩ u) (fun i h=>h.IsStrIter z (strIterType ⟨x.toArray⟩) ⟨x.toArray⟩ t i):=by
  have e1:(Str.mk x.toArray).cps.size=x.length:=rfl
  have e2:∀ i:Nat,(Str.mk x.toArray).cps[i]?=x[i]?:=fun i=>by simp
  unfold strIterType
  split
  · have:=Draws.strAscii (prog:=p) (w:=w) hh z ⟨x.toArray⟩ t
    simpa only [e1,e2] using this
  · have:=Draws.strWide (prog:=p) (w:=w) hh z ⟨x.toArray⟩ t
    simpa only [e1,e2] using this
theorem k2g {T:String} {i:Nat} {x:Str} {E:Value→Shared→Prop} {Q:Value→Shared→Prop} (hT:T="str_ascii_iterator"∨T="str_iterator") (hh:A.handled=none) (hit:s.heap.IsStrIter z T x t i) (hx:x.cps[i]?=none)
    (hE:∀ h' e,Heap.ExtBut z s.heap h'→(∃ o,h'.get? z=some o)→(∃ o,h'.get? e=some o∧o.cls=.type "StopIteration")→E (.ref e) { s with heap:=h' }):wpAny (model p w) A (Builtin.SmallTypes.nextOf (.ref z)) Q E s:=by
  apply q0d;intro hG;rcases id hit with ⟨o,ho,hc,hd⟩;apply hG;clear hG
  rcases hT with rfl | rfl
  · refine wpAny_bind (wpAny_callSpecial?_slot (name:=Str.ofString "__next__") hit.typeIs F.slot_str_ascii_iterator_next
      (wpAny_call_entry F.slot_str_ascii_iterator_next hit.typeIs F.entry_str_ascii_iterator_next ?_ (F.args_str_ascii_iterator_next_1 _)))
    show wpAny _ _ (field (.ref z) 0 >>= _) _ _ s
    refine wpAny_bind (wpAny_field ho hd (x:=.str x t) rfl ?_)
    show wpAny _ _ (field (.ref z) 1 >>= _) _ _ s
    refine wpAny_bind (wpAny_field ho hd (x:=.int i 0) rfl ?_)
    simp only [Int.toNat_natCast,hx]
    refine wpAny_bind (wpAny_rule (wpAny_bind (wpAny_setField ho hd (by simp) (wpAny_bind (wpAny_letGo ?_)))))
    show wpAny _ _ (newExc (.type "StopIteration") [] >>= _) _ _ _
    refine wpAny_bind ?_
    dsimp only [newExc,newTuple]
    refine wpAny_bind (wpAny_newObj_type ?_ (by size_fits))
    refine wpAny_bind (m:=firstArgMember _ _) (wpAny_of_eq (a:=Value.none) (by first | rfl | (rfl;rfl)) ?_)
    refine wpAny_newObj_type ?_ (by size_fits)
    dsimp only [raiseNew]
    refine wpAny_bind (wpAny_handled ?_)
    first | rw [show A.in1.handled=none from hh] | skip
    refine wpAny_bind (wpAny_pure (wpAny_throw ?_))
    exact hE _ _ (((Heap.SameBut.update ..).extBut.push _).push _) ⟨_,Heap.get?_push_of_some _ (Heap.get?_push_of_some _ (Heap.get?_update_self _ ho (Obj.isFreed_of_fields (Obj.data_mapFields hd _))))⟩ ⟨_,Heap.get?_push_size _ rfl,rfl⟩
  · refine wpAny_bind (wpAny_callSpecial?_slot (name:=Str.ofString "__next__") hit.typeIs F.slot_str_iterator_next
      (wpAny_call_entry F.slot_str_iterator_next hit.typeIs F.entry_str_iterator_next ?_ (F.args_str_iterator_next_1 _)))
    show wpAny _ _ (field (.ref z) 0 >>= _) _ _ s
    refine wpAny_bind (wpAny_field ho hd (x:=.str x t) rfl ?_)
    show wpAny _ _ (field (.ref z) 1 >>= _) _ _ s
    refine wpAny_bind (wpAny_field ho hd (x:=.int i 0) rfl ?_)
    simp only [Int.toNat_natCast,hx]
    refine wpAny_bind (wpAny_rule (wpAny_bind (wpAny_setField ho hd (by simp) (wpAny_bind (wpAny_letGo ?_)))))
    show wpAny _ _ (newExc (.type "StopIteration") [] >>= _) _ _ _
    refine wpAny_bind ?_
    dsimp only [newExc,newTuple]
    refine wpAny_bind (wpAny_newObj_type ?_ (by size_fits))
    refine wpAny_bind (m:=firstArgMember _ _) (wpAny_of_eq (a:=Value.none) (by first | rfl | (rfl;rfl)) ?_)
    refine wpAny_newObj_type ?_ (by size_fits)
    dsimp only [raiseNew]
    refine wpAny_bind (wpAny_handled ?_)
    first | rw [show A.in1.handled=none from hh] | skip
    refine wpAny_bind (wpAny_pure (wpAny_throw ?_))
    exact hE _ _ (((Heap.SameBut.update ..).extBut.push _).push _) ⟨_,Heap.get?_push_of_some _ (Heap.get?_push_of_some _ (Heap.get?_update_self _ ho (Obj.isFreed_of_fields (Obj.data_mapFields hd _))))⟩ ⟨_,Heap.get?_push_size _ rfl,rfl⟩
theorem j6b {T:String} {i:Nat} {k:Int} {x:Str} {old:Value} {E:Value→Shared→Prop} {e:Addr} {Q:Option Value→Shared→Prop} (hT:T="str_ascii_iterator"∨T="str_iterator") (hh:A.handled=none) (he:IsEnum s.heap e z k old) (hit:s.heap.IsStrIter z T x t i) (hx:x.cps[i]?=none)
    (hQ:∀ h',Heap.ExtBut z s.heap h'→(∃ o,h'.get? z=some o)→Q none { s with heap:=h' }):wpAny (model p w) A (pyNext (.ref e)) Q E s:=by
  have hTy:s.TypeIs (.ref e) "enumerate":=⟨_,he,rfl⟩
  refine wpAny_bind (wpAny_attempt (wpAny_callSpecial?_slot (name:=Str.ofString "__next__") hTy F.slot_enumerate_next
    (wpAny_call_entry F.slot_enumerate_next hTy F.entry_enumerate_next ?_ (F.args_enumerate_next_1 _))))
  show wpAny _ _ (field (.ref e) 2 >>= _) _ _ _
  refine wpAny_bind (wpAny_field he rfl (x:=.ref z) rfl ?_)
  refine wpAny_bind (k2g hT hh hit hx fun h' x he' hz hx'=>?_)
  refine q0a hx' ?_;clear hx';intro o ho hc
  refine wpAny_bind (wpAny_isInstance (T:="StopIteration") (b:=true) ⟨o,ho,hc⟩ isSubtype_stop ?_)
  exact wpAny_pure (hQ _ he' hz)
theorem j1h (rm:q1d 24 A) {tt:PySem.Expr} {it:Value} {b1 b2 body:List Stmt} {e1 e2:Env} {kf:Result→Sem Fin} {q:Pos} :
    q1d 16 (A.in1.over (.forLoop tt it b1 b2 e1) [.ret kf none false [] (.func body e2) q []]):=by
  refine ⟨rm.calm,?_,?_⟩
  · have:=rm.depth
    show A.depth+frameCount [(Code.func body e2,q)]+(Code.forLoop tt it b1 b2 e1).weight+16≤900
    have h1:frameCount [(Code.func body e2,q)]=1:=rfl
    have h2:(Code.forLoop tt it b1 b2 e1).weight=0:=rfl
    omega
  · have:=rm.units
    show A.units+1+unitsOf [(Code.func body e2,q)]+(Code.forLoop tt it b1 b2 e1).cUnits+4*16≤9000
    have h1:unitsOf [(Code.func body e2,q)]=3:=rfl
    have h2:(Code.forLoop tt it b1 b2 e1).cUnits=0:=rfl
    omega
theorem z3b (rm:q1d 24 A) {body:List Stmt} {e2:Env}:q1d 16 (A.in1.over (.func body e2) []):=by
  refine ⟨rm.calm,?_,?_⟩
  · have:=rm.depth
    show A.depth+frameCount []+(Code.func body e2).weight+16≤900
    have h1:frameCount []=0:=rfl
    have h2:(Code.func body e2).weight=1:=rfl
    omega
  · have:=rm.units
    show A.units+1+unitsOf []+(Code.func body e2).cUnits+4*16≤9000
    have h1:unitsOf []=0:=rfl
    have h2:(Code.func body e2).cUnits=3:=rfl
    omega
theorem z4z {p:Nat} {c:Nat} {cs:List Nat}:escaped p true (c::cs)=(p,[92,c])::escaped (p+1) false cs:=rfl
theorem z8o {p:Nat} {c:Nat} {cs:List Nat} (h:c=92):escaped p false (c::cs)=escaped (p+1) true cs:=if_pos h
theorem z8p {p:Nat} {c:Nat} {cs:List Nat} (h:¬ c=92):escaped p false (c::cs)=(p,[c])::escaped (p+1) false cs:=if_neg h
theorem q8d (hE:q2g env sc):env.scope.isCoroutine=false∧interactive env=false:=by
  refine q4n hE.shape ?_;intro h1 h2 h3 h4 h5
  refine ⟨by rw [hE.scope];exact h2,?_⟩
  unfold interactive
  rw [hE.scope,h1];rfl
set_option maxHeartbeats 2000000 in
theorem z6p {P:Nat→Pos} {K:Nat→Nat} {body:List Stmt} {Kf:Flow→Sem Fin} {Hf:Value→Sem Fin} {q:Pos} (S0:Snd p w H0 mg G.still 16 (still G)) (rm:q1d 24 A) (hE:q2g env sc)
    (hend:∀ (s₀ s:Shared) (e:Bool),q6t p w H0 G env z s₀ s (escL x (x.length - 1) e)→(∃ done,escaped 0 false x=done++escaped x.length e [])→
      Seg (model p w) A.in1 (escE H0 env.locals z) (escY p w H0 G x env.locals z) (escaped x.length e []).length s₀ (.func body env) (Kf .next) [] s) :
    ∀ (cs pre:List Nat) (e:Bool) (s₀ s:Shared),x=pre++cs→(∃ done,escaped 0 false x=done++escaped pre.length e cs)→q4i p w H0 G env x t z s₀ s pre.length (escL x (pre.length - 1) e)→
      Seg (model p w) A.in1 (escE H0 env.locals z) (escY p w H0 G x env.locals z) (escaped pre.length e cs).length s₀
        (.forLoop (escTarget P K) (.ref (z+1)) (escLoop P K) [] env) ((model p w).den (.forLoop (escTarget P K) (.ref (z+1)) (escLoop P K) [] env)) [.ret (ownK env Kf Hf id id) none false [] (.func body env) q []] s
  | [],pre,e,s₀,s,hx,hd,a=>by
    have hx':x=pre:=by rw [hx,List.append_nil]
    have hlen:pre.length=x.length:=by rw [hx']
    rw [hlen] at hd a ⊢
    obtain ⟨old,he⟩:=a.enum
    have hT:strIterType ⟨x.toArray⟩="str_ascii_iterator"∨strIterType ⟨x.toArray⟩="str_iterator":=by
      unfold strIterType;split
      · exact Or.inl rfl
      · exact Or.inr rfl
    refine q8c (j6b hT rm.calm he a.it (by simp) fun h' hk hz0=>?_)
    refine seg_again rfl (z0y (seg_leaf (.ok .next) ?_))
    refine hend s₀ _ e ⟨fun b o e=>hk b o (fun hb=>?_) (a.base.kept b o e),a.base.moved.heap (tk:=s.toks) (fun b o hb e=>hk b o (fun h=>hb (Or.inr (Or.inl h))) e) (fun b o hb e=>⟨o,hk b o hb e⟩),⟨_,hk _ _ (Nat.succ_ne_self z) he⟩,hz0,
      a.base.lo.scal z2z (fun o e=>hk _ o (Ne.symm a.base.ne.1) e) hE.cells,a.base.own,a.base.new,a.base.ne⟩ hd
    rw [hb,a.base.new.1] at e;exact Mine.ns e
  | c::cs,pre,e,s₀,s,hx,hd,a=>by
    have B:=A.in1.over (.forLoop (escTarget P K) (.ref (z+1)) (escLoop P K) [] env) [.ret (ownK env Kf Hf id id) none false [] (.func body env) q []]
    have rml:q1d 16 (A.in1.over (.forLoop (escTarget P K) (.ref (z+1)) (escLoop P K) [] env) [.ret (ownK env Kf Hf id id) none false [] (.func body env) q []]):=j1h rm
    have D:=j1g (p:=p) (w:=w) (A:=((A.in1.over (.forLoop (escTarget P K) (.ref (z+1)) (escLoop P K) [] env) [.ret (ownK env Kf Hf id id) none false [] (.func body env) q []]).in1)) (x:=x) (t:=t) (z:=z) rm.calm
    have W:=WalksT.enumerateD D (z+1) (Nat.succ_ne_self z) (by simp) (by simp)
    have hlt:pre.length<x.length:=by rw [hx];simp
    have hget:x[pre.length]?=some c:=by rw [hx];simp
    refine q8c (W.item pre.length s _ _ hlt ⟨a.enum,a.it⟩ fun T vals h' tk hP hT hTup hMid hk=>?_)
    refine q3l hP ?_;clear hP;intro t1 v1 zw2 zw3;rcases zw2 with ⟨c1,u1,hc1,rfl⟩;rcases zw3 with rfl
    rw [hget] at hc1
    replace hc1:=Option.some.inj hc1;subst hc1
    refine W.go _ _ _ pre.length T _ _ _ hMid fun h2 hst2 hk2=>?_
    have hTw:=W.apart _ _ _ hMid
    have hk':∀ b o,b≠z→b≠z+1→s.heap.get? b=some o→h2.get? b=some o:=fun b o h1 h3 e=>hk2 b o (by simp [h1,h3]) (hk b o (by simp [h1,h3]) e)
    have hT2:h2.IsTuple T #[.int pre.length t1,.str ⟨#[c]⟩ u1]:=by
      obtain ⟨o,e,r⟩:=hTup;exact ⟨o,hk2 T o hTw e,r⟩
    obtain ⟨en2,it2⟩:=hst2
    have a2:q4i p w H0 G env x t z s₀ { s with heap:=h2,toks:=tk } (pre.length+1) (escL x (pre.length - 1) e):=by
      refine ⟨⟨fun b o e=>hk' b o (fun h=>?_) (fun h=>?_) (a.base.kept b o e),a.base.moved.heap (fun b o hb e=>hk' b o (fun h=>hb (Or.inr (Or.inl h))) (fun h=>hb (Or.inr (Or.inr h))) e) (fun b o hb e=>?_),?_,?_,a.base.lo.scal z2z (fun o e=>hk' _ o (Ne.symm a.base.ne.1) (Ne.symm a.base.ne.2) e) hE.cells,a.base.own,a.base.new,a.base.ne⟩,en2,it2⟩
      · rw [h,a.base.new.1] at e;exact Mine.ns e
      · rw [h,a.base.new.2] at e;exact Mine.ns e
      · by_cases h3:b=z+1
        · apply q0g h3;obtain ⟨old,e⟩:=en2;exact ⟨_,e⟩
        · exact ⟨o,hk' b o hb h3 e⟩
      · obtain ⟨old,e⟩:=en2;exact ⟨_,e⟩
      · obtain ⟨o,e,_⟩:=it2;exact ⟨o,e⟩
    have hnV:¬ VG H0 s₀ z T:=fun hv=>by
      rcases hv.2 with ⟨⟨o,e⟩,hne⟩ | h
      · obtain ⟨o',e'⟩:=a.base.moved.pres T o hne e
        exact Nat.lt_irrefl _ (Nat.lt_of_lt_of_le (Heap.lt_size e') hT)
      · exact hTw (by simp [h])
    have hr:Rep p w G.tab h2 (VG H0 s₀ z) [] (.tup [.int pre.length,.str [c]]) (.ref T):=by
      exact ⟨T,_,rfl,⟨hnV,fun h=>by cases h⟩,hT2,RepL.cons q1k (RepL.single (q2w (x:=[c])))⟩
    refine q4n hE.names ?_;intro n1 n2 n3 n4 n5
    refine wpAny_mono (q2f (σ:=[]) (s:={ s with heap:=h2,toks:=tk }) rml.calm (hE.fr (eff:=true) a2.base.old) a2.base.st a2.base.lo hr (z4x n1 n3)) (fun zz s3 as=>?_) fun zz zz h=>h
    have stepA:Step (Own env ⟨sc,[],false,true⟩) { s with heap:=h2,toks:=tk } s3:=as.step
    have a3:q4i p w H0 G env x t z s₀ s3 (pre.length+1) (escLc x pre.length e c):=a2.move (fun b h=>q3x hE h) stepA (a2.base.move (fun b h=>q3x hE h) stepA as.lo)
    have hx':x=(pre++[c])++cs:=by rw [hx];simp
    have hl1:(pre++[c]).length=pre.length+1:=by simp
    have hl2:(pre++[c]).length - 1=pre.length:=by simp
    obtain ⟨hco,hint⟩:=q8d hE
    have loop:=fun (e:Bool) (s₀ s:Shared) (hd:∃ done,escaped 0 false x=done++escaped (pre.length+1) e cs) (a:q4i p w H0 G env x t z s₀ s (pre.length+1) (escL x pre.length e))=>by
      have:=z6p (q:=q) (P:=P) (K:=K) (Hf:=Hf) S0 rm hE hend cs (pre++[c]) e s₀ s hx' (by rw [hl1];exact hd) (by rw [hl1];exact a)
      rw [hl1] at this
      exact this
    refine seg_execs_cons (j1c (wpAny_mono (j1f S0 rml hE a3.base (j1e j1d)) (fun r s4 ⟨hr4,w4⟩=>?_) fun zz zz h=>h))
    subst hr4
    have a4:=w4.at a3
    induction r using q2i with
    | true=>
      obtain ⟨done,hd⟩:=hd
      rw [z4z] at hd ⊢
      refine seg_execs_cons (seg_Expr_Yield rfl rfl rfl (wpAny_mono (z4y S0 rml hE a4.base (ds:=[.int pre.length,.str [92,c]]) (by rfl) (show (2:Nat)≤1000 by decide) rfl k8v) (fun v s5 ⟨r5,w5⟩=>?_) fun zz zz h=>h.elim) hco hint)
      have a5:=w5.at a4
      intro kap hkap
      refine q5z hd a5.base r5 fun s6 hal hkp=>hkap .none s6 ?_
      have a6:=a5.again hE q9s hal hkp
      refine q6w (wpAny_mono (k1e S0 rml hE a6.base (k1d (b:=false) n2)) (fun f s7 ⟨hf,w7⟩=>⟨hf,?_⟩) fun zz zz h=>h)
      have a7:=w7.at a6
      exact seg_again rfl (loop false s6 s7 ⟨done++[(pre.length,[92,c])],by rw [hd];simp⟩ (a7.weak q5y))
    | false=>
      refine seg_execs_cons (j1c (wpAny_mono (j1f S0 rml hE a4.base k8u) (fun r s5 ⟨hr5,w5⟩=>?_) fun zz zz h=>h))
      have a5:=w5.at a4
      by_cases hc:c=92
      · have hr':r=true:=by rw [hr5,hc];rfl
        apply q0g hr'
        rw [z8o hc] at hd ⊢
        refine q6w (wpAny_mono (k1e S0 rml hE a5.base (k1d (b:=true) n2)) (fun f s7 ⟨hf,w7⟩=>⟨hf,?_⟩) fun zz zz h=>h)
        have a7:=w7.at a5
        exact seg_again rfl (loop true s₀ s7 hd (a7.weak q5y))
      · have hr':r=false:=by rw [hr5];simpa using hc
        apply q0g hr'
        obtain ⟨done,hd⟩:=hd
        rw [z8p hc] at hd ⊢
        refine seg_execs_cons (seg_Expr_Yield rfl rfl rfl (wpAny_mono (z4y S0 rml hE a5.base (ds:=[.int pre.length,.str [c]]) (by rfl) (show (2:Nat)≤1000 by decide) rfl k8w) (fun v s6 ⟨r6,w6⟩=>?_) fun zz zz h=>h.elim) hco hint)
        have a6:=w6.at a5
        intro kap hkap
        refine q5z hd a6.base r6 fun s7 hal hkp=>hkap .none s7 ?_
        have a7:=a6.again hE q9s hal hkp
        exact seg_again rfl (loop false s7 s7 ⟨done++[(pre.length,[c])],by rw [hd];simp⟩ (a7.weak q5y))
end
section
variable {p:Program} {w:World} {H0:Heap} {mg mb:Str→Option Value} {G:Gl} {env:Env} {sc:Scope} {x:List Nat} {t:Tok} {z:Addr} {s₀ s s':Shared} {i:Nat} {L L':Loc} {A A':Around}
theorem j6c {P:Nat→Pos} {K:Nat→Nat} {body:List Stmt} {Kf:Flow→Sem Fin} {Hf:Value→Sem Fin} (hKf:Kf .next=.pure (.done (.ret .none))) (S0:Snd p w H0 mg G.still 16 (still G)) (rm:q1d 24 A) (hE:q2g env sc) (s₀ s:Shared) (e:Bool)
    (a:q6t p w H0 G env z s₀ s (escL x (x.length - 1) e)) (hd:∃ done,escaped 0 false x=done++escaped x.length e []) :
    Seg (model p w) A.in1 (escE H0 env.locals z) (escY p w H0 G x env.locals z) (escaped x.length e []).length s₀ (.func body env) ((execs (escLast P K) env).wrap Kf Hf id id) [] s:=by
  have rmf:q1d 16 (A.in1.over (.func body env) []):=z3b rm
  obtain ⟨hco,hint⟩:=q8d hE
  refine seg_execs_cons (j1c (wpAny_mono (j1f S0 rmf hE a (j1e j5z)) (fun r s4 ⟨hr4,w4⟩=>?_) fun zz zz h=>h))
  subst hr4
  apply q0d;intro hG;rcases w4 with ⟨_,_,_,a4⟩;apply hG;clear hG
  induction r using q2i with
  | true=>
    obtain ⟨done,hd⟩:=hd
    refine seg_execs_cons (seg_Expr_Yield (n:=0) rfl rfl rfl (wpAny_mono (z4y S0 rmf hE a4 (ds:=[.int (x.length - 1:Nat),.str [92]]) (by rfl) (show (2:Nat)≤1000 by decide) rfl k8x) (fun v s5 ⟨r5,w5⟩=>?_) fun zz zz h=>h.elim) hco hint)
    apply q0d;intro hG;rcases w5 with ⟨_,_,_,a5⟩;apply hG;clear hG
    intro kap hkap
    refine q5z (rest:=[]) (it:=(x.length - 1,[92])) hd a5 r5 fun s6 hal hkp=>hkap .none s6 ?_
    show Seg _ _ _ _ 0 s6 _ (Kf .next) [] s6
    rw [hKf]
    exact seg_end (.ok (.ret .none)) ⟨rfl,rfl,q4c.refl,hkp⟩
  | false=>
    show Seg _ _ _ _ 0 s₀ _ (Kf .next) [] s4
    rw [hKf]
    exact seg_end (.ok (.ret .none)) ⟨rfl,rfl,a4.moved,a4.kept⟩
theorem Gnd.still (gd:Gnd p w H0 mg mb G):Gnd p w H0 mg mb G.still:=
  ⟨gd.main,gd.bi,gd.bf,gd.lim,gd.nob,fun f fd h=>(by exact Mine.ns h),fun f g h=>(by exact Mine.ns h),fun f g h=>(by exact Mine.ns h)⟩
theorem j1i:bootBuiltins nEnum=some (.type "enumerate"):=by rfl
set_option tactic.hygienic true in
set_option maxHeartbeats 1000000 in
theorem j1j {P:Nat→Pos} {K:Nat→Nat} (gd:Gnd p w H0 mg mb G) (hEn:mg nEnum=none) (S0:Snd p w H0 mg G.still 16 (still G)) (rm:q1d 24 A) (hE:q2g env sc) {m:Str→Option Value}
    (hk:Kept H0 s.heap) (hown:H0.get? env.locals=none) (hns:s.heap.Ns env.locals m) (hm:m nAddr=some (.str ⟨x.toArray⟩ t)) :
    Seg (model p w) A.in1 (escE H0 env.locals s.heap.objs.size) (escY p w H0 G x env.locals s.heap.objs.size) (escD x).length s (.func (escBody P K) env) ((model p w).den (.func (escBody P K) env)) [] s:=by
  have rmf:q1d 16 (A.in1.over (.func (escBody P K) env) []):=z3b rm
  refine q0d fun hn=>?_
  refine q4n hE.names ?_;intro n1 n2 n3 n4 n5
  refine q4n hE.shape ?_;intro k1 k2 k3 k4 k5
  refine hn ?_
  have hko:∀ x,env.kindOf x=sc.names.lookup x:=fun x=>by unfold Env.kindOf;rw [hE.scope]
  have hp:(env.scope.kind==.class||(env.scope.kind==.module&&env.locals !=env.globals))=false:=by rw [hE.scope,k1];rfl
  have hkf:env.scope.kind=.function:=by rw [hE.scope];exact k1
  rw [show (escD x).length=(escaped 0 false x).length from List.length_map _]
  refine seg_func ?_
  refine q6w (wpAny_Assign_Name (wpAny_Constant_int (wpAny_storeName_local (by rw [hko];exact n1) hns (fun h1 hn1 hs1=>⟨rfl,?_⟩) hp)) rfl)
  refine q6w (wpAny_Assign_Name (wpAny_Constant_bool (wpAny_storeName_local (by rw [hko];exact n2) hn1 (fun h2 hn2 hs2=>⟨rfl,?_⟩) hp)) rfl)
  replace hs1:Heap.SameBut env.locals s.heap h1:=hs1
  replace hs2:Heap.SameBut env.locals h1 h2:=hs2
  have hz:h2.objs.size=s.heap.objs.size:=hs2.1.trans hs1.1
  have keep2:∀ b,b≠env.locals→∀ o,s.heap.get? b=some o→h2.get? b=some o:=fun b hb o e=>(hs2.2 b hb).trans ((hs1.2 b hb).trans e)
  have kept2:Kept H0 h2:=fun b o e=>keep2 b (fun h=>by rw [h,hown] at e;exact Mine.ns e) o (hk b o e)
  have fo:q1m env ⟨sc,[],false,false⟩ (fun b=>b=env.locals):=hE.fr rfl
  have lgE:∃ o,h2.get? env.locals=some o:=by apply q0d;intro hG;rcases hn2 with ⟨o,_,_,e,_⟩;apply hG;clear hG;exact ⟨o,e⟩
  have stt:∀ tk,q0k (p:=p) (w:=w) (tab:=G.tab) H0 ({ s with heap:=h2,toks:=tk }:Shared).heap (fun b=>b=env.locals) [] []:=fun tk=>
    ⟨kept2,fun b hb=>by apply q0g hb;exact ⟨lgE,hown⟩,fun zz h=>(by cases h),rfl,List.nodup_nil,fun zz h=>(by cases h),fun zz zz zz h=>(by exact Mine.ns h)⟩
  have hH0:∀ b,s.heap.objs.size≤b→H0.get? b=none:=fun b hb=>by
    induction e:H0.get? b using Mine.oC with
    | none=>rfl
    | some o=>exact absurd (Heap.lt_size (hk b o e)) (Nat.not_lt.mpr hb)
  have hlt:env.locals<s.heap.objs.size:=hns.lt
  refine seg_execs_cons (k2e (q2t rfl) ?_)
  refine Call_ (q3n gd fo (stt _) (show isGlobal sc nEnum=true from decide_eq_true n5) hEn (by decide +kernel) j1i ?_)
  refine callWith_type1 (args_cons (wpAny_Name (wpAny_loadName_local hkf (by rw [hko];exact n4) hn2 (v:=.str ⟨x.toArray⟩ t) (by
    have e1:¬ nAddr=nEsc:=by decide +kernel
    have e2:¬ nAddr=nPos:=by decide +kernel
    exact hm) (args_nil ?_)) (by decide +kernel)) (q0t rfl)) (q0t rfl) (q2d rfl)
  refine call_enumerate_str fun h3 he3 hi3 hz3 hk3=>?_
  replace hz3:h3.objs.size=h2.objs.size+2:=hz3
  replace hk3:∀ b o,h2.get? b=some o→h3.get? b=some o:=hk3
  rw [hz] at he3 hi3 ⊢
  refine wpAny_pyIter_enum he3 fun q=>?_
  have keep3:∀ b,b≠env.locals→∀ o,s.heap.get? b=some o→h3.get? b=some o:=fun b hb o e=>hk3 b o (keep2 b hb o e)
  have hn3:h3.Ns env.locals _:=hn2.at' fun o e=>hk3 _ o e
  have hlo:q0i p w G.tab env h3 (VG H0 s s.heap.objs.size) [] (escL x 0 false):=by
    refine ⟨⟨_,hn3⟩,fun y b hy=>(by rw [hE.cells] at hy;exact Mine.ns hy),fun y d hy=>?_⟩
    have st1:∀ {y v},sc.names.lookup y=some .local→_=some v→Stored env h3 y v:=fun {y v} h1 h2=>Or.inl ⟨by rw [hko];exact h1,_,hn3,h2⟩
    refine Mine.iteE hy ?_ ?_<;>clear hy<;>intro _ hy
    · rename_i h;apply q0g h;replace hy:=Option.some.inj hy;subst hy
      exact ⟨_,st1 n4 (by
        have e1:¬ nAddr=nEsc:=by decide +kernel
        have e2:¬ nAddr=nPos:=by decide +kernel
        exact hm),q2w⟩
    · refine Mine.iteE hy ?_ ?_<;>clear hy<;>intro _ hy
      · rename_i h;apply q0g h;apply q0w hy
        exact ⟨_,st1 n1 (by
          have e1:¬ nPos=nEsc:=by decide +kernel
          rfl),q1k (t:=s.toks)⟩
      · refine Mine.iteE hy ?_ ?_<;>clear hy<;>intro _ hy
        · rename_i h;apply q0g h;apply q0w hy
          exact ⟨_,st1 n2 (by rfl),q3v⟩
        · exact Mine.ns hy
  have hmoved:∀ tk,q4c (GOwn env.locals s.heap.objs.size) s.heap.objs.size s { s with heap:=h3,toks:=tk }:=fun tk=>by
    refine q4c.refl.heap (s':=s) (fun b o hb e=>keep3 b (fun h=>hb (Or.inl h)) o e) fun b o zz e=>?_
    by_cases hb:b=env.locals
    · apply q0g hb;apply q0d;intro hG;rcases hn3 with ⟨o,_,_,e,_⟩;apply hG;clear hG;exact ⟨o,e⟩
    · exact ⟨o,keep3 b hb o e⟩
  have hen:∃ o,s.heap.get? env.locals=some o:=by apply q0d;intro hG;rcases hns with ⟨o,_,_,e,_⟩;apply hG;clear hG;exact ⟨o,e⟩
  refine z6p (x:=x) (t:=t) (P:=P) (K:=K) (body:=escBody P K) (Kf:=fun f=>match f with | .next=>(execs (escLast P K) env).wrap (fun f=>.pure (.done (.ret (match f with | .ret v=>v | _=>.none)))) (fun e=>(leaving env e).wrap (fun zz=>.raise e) .raise id id) id id | f=>.pure (.done (.ret (match f with | .ret v=>v | _=>.none)))) (Hf:=fun e=>(leaving env e).wrap (fun zz=>.raise e) .raise id id) S0 rm hE (fun s₀ s e a hd=>j6c rfl S0 rm hE s₀ s e a hd) x [] false s _ rfl ⟨[],rfl⟩ ⟨⟨fun b o e=>?_,hmoved _,⟨_,he3⟩,(by obtain ⟨o,e,_⟩:=hi3;exact ⟨o,e⟩),hlo,⟨hen,hown⟩,⟨hH0 _ (Nat.le_refl _),hH0 _ (Nat.le_succ _)⟩,⟨Nat.ne_of_gt hlt,Nat.ne_of_gt (Nat.lt_succ_of_lt hlt)⟩⟩,⟨_,he3⟩,hi3⟩
  exact keep3 b (fun h=>by rw [h,hown] at e;exact Mine.ns e) o (hk b o e)
end
noncomputable def genO (I Lg z:Addr) (b:Addr):Prop:=b=I∨GOwn Lg z b
section
variable (p:Program) (w:World) (H0:Heap) (G:Gl)
structure v7o (A:Around) (I Lg:Addr) (g:Nat) (x:List Nat) (ds:List D) (O:Addr→Prop) (s:Shared):Prop where
  obj:s.heap.IsGen I g
  pre:∃ pre,pre++ds=escD x
  own:O I∧O Lg
  goes:∃ gs,s.gens[g]?=some gs∧∀ s'':Shared,(∀ b,O b→∀ o,s.heap.get? b=some o→s''.heap.get? b=some o)→Kept H0 s''.heap→
    ∃ z,(∀ b,b=z∨b=z+1→I≠b∧(s''.heap.get? b=none∨O b))∧gs.Goes (model p w) A.in1 (escE H0 Lg z) (escY p w H0 G x Lg z) ds.length (.send .none) s''
end
theorem z6q {a:Array GenState} {g:Nat} {y:GenState} (h:AllBare a) (hy:y.bare=true):AllBare (a.setIfInBounds g y):=fun u hu=>
  (Array.mem_or_eq_of_mem_setIfInBounds hu).elim (h u) fun e=>e▸hy
section
variable {p:Program} {w:World} {H0:Heap} {mg mb:Str→Option Value} {G:Gl} {x:List Nat} {t:Tok} {z:Addr} {s₀ s s₁ s1 s2 sB:Shared} {A:Around} {V O:Addr→Prop} {m:List Addr} {I Lg:Addr} {g:Nat}
theorem q9t {s:Shared} {g j:Nat} {y:GenState} (h:j≠g):(s.setGen g y).gens[j]?=s.gens[j]?:=by simp [Shared.setGen,Ne.symm h]
theorem z8q {t:PySem.Expr} {v:Value} {Q:Unit→Shared→Prop} (h:s.heap.IsGen I g) (hQ:Q () s):wpAny (model p w) A (letOwnedTupleGo t (.ref I) v) Q NoE s:=by
  apply q0d;intro hG;rcases h with ⟨o,nm,qn,ho,hc,hd,_⟩;apply hG;clear hG
  exact j0w ho hc (by decide) hQ
theorem Trn.gen {y:GenState} (hy:y.bare=true) (mv:q4c (GOwn Lg z) z (s1.setGen g .running) s₁) (hk:∀ b o,s₁.heap.get? b=some o→s2.heap.get? b=some o) (h1:s2.os=s₁.os) (h2:s2.drawn=s₁.drawn) (h3:s2.gens=(s₁.setGen g y).gens) (kept:Kept H0 s₁.heap)
    (hg:∀ (j:Nat) y,sB.gens[j]?=some y→j≠g) (hOw:O I∧O Lg) (hz:∀ b,b=z∨b=z+1→I≠b∧(s1.heap.get? b=none∨O b)) (hP:∀ b,s1.heap.get? b=none→sB.heap.get? b=none) (hO:∀ b,O b→sB.heap.get? b=none):Trn H0 O (genO I Lg z) sB s1 s2:=by
  have out:∀ b o,s1.heap.get? b=some o→¬ O b→¬ GOwn Lg z b:=fun b o e hb h=>h.elim (fun h=>hb (h▸hOw.2)) fun h=>(hz b h).2.elim (fun h=>ns (h.symm.trans e)) hb
  refine ⟨fun b o e hb=>⟨hk b o (mv.keep b o e (out b o e hb)),fun h=>h.elim (fun h=>hb (h▸hOw.1)) (out b o e hb)⟩,h1.trans mv.os,h2.trans mv.drawn,fun j u h e=>?_,fun hb=>?_,fun b o e=>hk b o (kept b o e),fun b h=>h.elim (fun h=>hO b (h▸hOw.1)) fun h=>h.elim (fun h=>hO b (h▸hOw.2)) fun h=>(hz b h).2.elim (hP b) (hO b)⟩
  · rw [h3,q9t (hg j u h)]
    exact mv.gens j u ((q9t (hg j u h)).trans e)
  · rw [h3]
    exact z6q (mv.bare (z6q hb rfl)) hy
theorem k2h (rm:q1d 24 A) (hl:H0.NoLimit) (hILg:I≠Lg) (hg:∀ (j:Nat) y,sB.gens[j]?=some y→j≠g):Itr p w H0 G.tab A V m sB I (v7o p w H0 G A I Lg g x):=by
  refine ⟨fun {ds O s1 Q} j hk fz hP hX hO hN hS=>?_,fun {ds O s1 s2} j hk hgs=>?_⟩
  · refine q0a j.goes ?_;intro gs hgs hres
    obtain ⟨z,hz,hgo⟩:=hres (s1.setGen g .running) (fun zz zz zz e=>e) hk
    refine j5y (P:=escR H0 Lg z) rm.calm (hl.keeps hk) (Nat.lt_of_le_of_lt (Nat.le_trans (Nat.le_add_right _ _) rm.depth) (by decide)) j.obj hgs hgo (fun v s₁ gs' hb hv=>?_) (fun s₁ hp h' hk'=>?_)
    · induction ds using q1h with
      | nil=>exact (hv.2.2.2.2.2 s₁ (fun zz zz zz e=>e) hv.2.2.1).elim
      | cons d ds'=>
        refine q0d fun hn=>?_
        rcases hv with ⟨⟨d',hd,hr⟩,mv,hk1,hlg,hzn,kap⟩
        obtain ⟨pre,hpre⟩:=j.pre
        refine hn ?_
        have hdd:d'=d:=by
          have e:(escD x).length - 1 - ((d::ds').length - 1)=pre.length:=by
            rw [← hpre,List.length_append,List.length_cons,← Nat.add_assoc,Nat.add_sub_cancel,Nat.add_sub_cancel,Nat.add_sub_cancel]
          rw [e,← hpre,List.getElem?_append_right (Nat.le_refl _),Nat.sub_self] at hd
          exact (Option.some.inj hd).symm
        subst hdd
        have hIk:∀ o,s1.heap.get? I=some o→s₁.heap.get? I=some o:=fun o e=>mv.keep I o e fun h=>h.elim hILg fun h=>(hz I h).1 rfl
        apply q0d;intro hG;rcases j.obj with ⟨oI,nm,qn,ho,r⟩;apply hG;clear hG
        have hobj:(s₁.setGen g gs').heap.IsGen I g:=⟨oI,nm,qn,hIk oI ho,r⟩
        refine hS d' ds' rfl v _ _ (Trn.gen hb mv (fun zz zz e=>e) rfl rfl rfl hk1 hg j.own hz hP hO) ⟨fun V' m' hm zz=>hr.mono (fun b o e hb=>⟨e,hm b o e (fun q=>?_) ?_⟩) fun zz zz h=>ns h,fun b hb=>?_,fun t Q hq=>z8q hobj hq,
          ⟨hobj,⟨pre++[d'],(List.append_assoc ..).trans hpre⟩,⟨Or.inl rfl,Or.inr (Or.inl rfl)⟩,gs',setGen_self (mv.gens g .running (setGen_self hgs)),fun s'' hal hk2=>⟨z,fun b hb=>⟨(hz b hb).1,Or.inr (Or.inr (Or.inr hb))⟩,kap s'' (fun b hb=>hal b (Or.inr hb)) hk2⟩⟩⟩
        · have own:O b→False:=fun h=>hb.1 ⟨Or.inl (hX b h).1,(hX b h).2⟩
          exact q.elim (fun q=>own (q▸j.own.1)) fun q=>q.elim (fun q=>own (q▸j.own.2)) fun q=>hb.1 ⟨Or.inr q,q.elim (fun q=>q▸hzn.1) fun q=>q▸hzn.2⟩
        · induction e0:H0.get? b using Mine.oC with
          | some o'=>exact Or.inl ⟨o',e0⟩
          | none=>
            induction e1:s1.heap.get? b using Mine.oC with
            | none=>exact Or.inr (Or.inl e1)
            | some o'=>exact absurd ⟨Or.inl ⟨o',e1⟩,e0⟩ hb.1
        · exact hb.elim (fun h=>h▸⟨⟨oI,hIk oI ho⟩,(hX I j.own.1).2⟩) fun h=>⟨hlg b h,h.elim (fun h=>h▸(hX Lg j.own.2).2) fun h=>h.elim (fun h=>h▸hzn.1) fun h=>h▸hzn.2⟩
    · exact hN (List.length_eq_zero_iff.mp hp.1) _ _ (Trn.gen rfl hp.2.1 hk' rfl rfl rfl hp.2.2 hg j.own hz hP hO)
  · apply q0d;intro hG;rcases j.obj with ⟨oI,nm,qn,ho,r⟩;apply hG;clear hG
    refine q0a j.goes ?_;intro gs hg1 hres
    exact ⟨⟨oI,nm,qn,hk I oI ho (Or.inl j.own.1),r⟩,j.pre,j.own,gs,hgs g gs hg1,fun s'' hal=>hres s'' fun b hb o e=>hal b hb o (hk b o e (Or.inl hb))⟩
end
noncomputable def GenIn (H0:Heap) (mg:Str→Option Value) (f:Str):Prop:=
  ∃ a o c' pm doc params P K sc,mg f=some (.ref a)∧H0.get? a=some o∧o.data=.func (docDef f params (escBody P K) sc pm (.ref c') doc)∧H0.CodeRec (.ref c') f∧bareArgs params=true∧params.args.map (·.arg)=[nAddr]∧escScope sc=true
theorem q9u:∀ {names:List (Str × NameKind)} {n:Nat} {acc:List (Str × Addr)},(∀ x∈names,x.2≠.cell)→cellsFrom n names acc=acc
  | [],_,_,_=>rfl
  | (y,kd)::r,n,acc,h=>by
    unfold cellsFrom
    have:(kd==NameKind.cell)=false:=by
      have:=h (y,kd) List.mem_cons_self
      simpa using this
    rw [this]
    exact q9u fun x hx=>h x (List.mem_cons_of_mem _ hx)
section
variable {p:Program} {w:World} {H0:Heap} {mg mb:Str→Option Value} {G:Gl} {R:Rec} {k:Nat}
  {A:Around} {V:Addr→Prop} {m n:List Addr} {σ σ' σ1:Sto} {s s1 s2 sB:Shared} {L L':Loc} {env:Env} {c:Cx} {d:D} {fl:Fl} {I Lg z:Addr} {zo:Option Addr} {g:Nat}
set_option maxHeartbeats 2000000 in
theorem z3c (gd:Gnd p w H0 mg mb G) (hEn:mg nEnum=none) (S0:Snd p w H0 mg G.still 16 (still G)) (IH:Snd p w H0 mg G k R) (rm:q1d k A) (hk24:24≤k) (heff:c.eff=true) {f:Str} (hgf:GenIn H0 mg f)
    {t a:PySem.Expr} {pf pc pos:Pos} {body:List Stmt} (fo:q1m env c V) (st:q0k (p:=p) (w:=w) (tab:=G.tab) H0 s.heap V m σ) (lo:q0i p w G.tab env s.heap V m L) (hpa:plainE a=true) (hgl:isGlobal c.sc f=true)
    (h:((R.ev c L σ a).bind fun r=>(asStr r.1).bind fun s=>forItems R c t body L r.2 (escD s))=some (fl,L',σ')) :
    wpAny (model p w) A (exec (.For t (.Call (.Name f pf) [a] [] pc) body [] pos) env) (SP p w H0 G env c V m σ' L' fl s) NoE s:=by
  have rm24:q1d 24 A:=⟨rm.calm,by have:=rm.depth;omega,by have:=rm.units;omega⟩
  refine q0a (Option.bind_eq_some_iff.mp h) ?_;intro zw0 e1 h;rcases zw0 with ⟨d,σ1⟩
  refine q0a (Option.bind_eq_some_iff.mp h) ?_;intro x hx h
  replace hx:=q1e hx;subst hx
  apply q0d;intro hG;rcases hgf with ⟨fa,fo',c',pm,doc,params,P,K,sc,h1,h2,h3,h4,h5,h6,h7⟩;apply hG;clear hG
  refine wpAny_For ?_ (q2t rfl)
  refine Call_ (q2o gd fo st hgl h1 (callWith_def h3 (args_cons (wpAny_mono (IH.ev rm fo st lo e1) (fun v s1 y0=>?_) fun zz zz h=>h) (q0t hpa)) (q0t hpa)))
  obtain ⟨n1,y⟩:=EP.weak y0
  have st1:=y.st
  have lo1:=y.mv.loc fo st lo
  have hr:=y.rep
  obtain ⟨tk,hq59⟩:=hr
  apply q0g hq59
  refine args_nil ⟨st1.kept _ _ h2,?_⟩
  have hEs:∀ env',env'=newEnv sc s1.heap.objs.size mainGlobals [] (f++".<locals>.") (some fa) (.ref c') none builtinsNs→q2g env' sc:=fun env' he=>by apply q0g he;exact ⟨rfl,h7,rfl,rfl,rfl⟩
  have shp:=(hEs _ rfl).shape
  have nms:=(hEs _ rfl).names
  refine wpAny_call (codeAny_call_generator (by have:=rm.depth;show A.depth<1000;omega) (st1.kept _ _ h2) h3 shp.2.1 shp.2.2.1 rfl (h4.keeps st1.kept) ?_)
  have hb:bindArgs (docDef f params (escBody P K) sc pm (.ref c') doc) ⟨[.str ⟨x.toArray⟩ tk],[]⟩=pure [(nAddr,.str ⟨x.toArray⟩ tk)]:=by
    have:=z2x (f:=f) (body:=escBody P K) (scope:=sc) (pm:=pm) (cd:=.ref c') (doc:=doc) (vs:=[.str ⟨x.toArray⟩ tk]) h5 (by rw [h6];simp) (by rw [h6];rfl)
    rw [this,h6];rfl
  refine wpAny_of_eq hb ?_
  have hcn:∀ y∈sc.names,y.2≠NameKind.cell:=fun y hy h=>by rcases shp.2.2.2.1 y hy with q | q<;>rw [q] at h<;>cases h
  have hcf:cellsFrom (s1.heap.objs.size+1) sc.names []=[]:=q9u hcn
  refine wpAny_newFunctionEnv_cells shp.1 (fun y hy=>?_) (fun cenv he s2 X=>?_)
  · rw [List.mem_singleton.mp hy];exact Or.inl nms.2.2.2.1
  have he':cenv=newEnv sc s1.heap.objs.size mainGlobals [] (f++".<locals>.") (some fa) (.ref c') none builtinsNs:=by
    rw [he]
    show newEnv sc s1.heap.objs.size mainGlobals (cellsFrom (s1.heap.objs.size+1) sc.names []) _ _ _ _ _=_
    rw [hcf]
    rfl
  have hE:=hEs cenv he'
  have hloc:cenv.locals=s1.heap.objs.size:=by rw [he'];rfl
  have hcells:cenv.cells=[]:=hE.cells
  refine q3l X.done ?_;intro h2' tk2 zw2 keep2;rcases zw2 with rfl
  have hns:h2'.Ns cenv.locals _:=X.toInCall.ns
  have hlim2:h2'.NoLimit:=gd.lim.keeps fun b o e=>keep2 b o (st1.kept b o e)
  refine ⟨hlim2,?_⟩
  have hko:cenv.kindOf nAddr=some .local:=by unfold Env.kindOf;rw [hE.scope];exact nms.2.2.2.1
  have hbl:bindL cenv.kindOf [(nAddr,Value.str ⟨x.toArray⟩ tk)] (fun zz=>none) nAddr=some (.str ⟨x.toArray⟩ tk):=by
    unfold bindL bindL
    rw [if_pos hko];exact if_pos rfl
  have hlt:s1.heap.objs.size<h2'.objs.size:=by rw [← hloc];exact hns.lt
  generalize hobj:({ cls:=Value.type "generator",data:=Data.fields #[Value.int s1.gens.size 0,Value.str (docDef f params (escBody P K) sc pm (.ref c') doc).name tk2,Value.str (docDef f params (escBody P K) sc pm (.ref c') doc).qualname (tk2+1)] }:Obj)=obj
  have keep3:∀ b o,s1.heap.get? b=some o→(h2'.push obj).get? b=some o:=fun b o e=>Heap.get?_push_of_some _ (keep2 b o e)
  have hIs:(h2'.push obj).IsGen h2'.objs.size s1.gens.size:=by
    apply q1w hobj
    exact ⟨_,_,_,Heap.get?_push_size _ rfl,rfl,rfl,rfl⟩
  refine wpAny_pyIter_gen hIs ?_
  have hH0:∀ b,s1.heap.objs.size≤b→H0.get? b=none:=fun b hb=>by
    induction e:H0.get? b using Mine.oC with
    | none=>rfl
    | some o=>exact absurd (Heap.lt_size (st1.kept b o e)) (Nat.not_lt.mpr hb)
  have step3:∀ tk3,Step noOne s1 { heap:=h2'.push obj,gens:=s1.gens.push (.fresh (.func (escBody P K) cenv)),drawn:=s1.drawn,toks:=tk3,os:=s1.os }:=fun tk3=>by
    refine ⟨fun b o e zz=>keep3 b o e,fun b o e=>⟨o,keep3 b o e⟩,rfl,rfl,fun j y e=>?_,fun hb y hy=>?_⟩
    · have hj:j<s1.gens.size:=(Array.getElem?_eq_some_iff.mp e).1
      show (s1.gens.push _)[j]?=some y
      rw [Array.getElem?_push_lt hj]
      rw [Array.getElem?_eq_getElem hj] at e;exact e
    · rcases Array.mem_push.mp hy with h | h
      · exact hb y h
      · rw [h];rfl
  have main:∀ tk3,codeAny (model p w) A (.forLoop t (.ref h2'.objs.size) body [] env) (fun r s'=>∃ f,r=.ok f∧SP p w H0 G env c V (m++n1) σ' L' fl s1 f s')
      { heap:=h2'.push obj,gens:=s1.gens.push (.fresh (.func (escBody P K) cenv)),drawn:=s1.drawn,toks:=tk3,os:=s1.os }:=fun tk3=>by
    have hI:s1.heap.get? h2'.objs.size=none:=Heap.get?_none_of_le (Nat.le_of_lt hlt)
    have hLg:s1.heap.get? cenv.locals=none:=by rw [hloc];exact q0n _
    have hown:∀ b,(b=h2'.objs.size∨b=cenv.locals)→s1.heap.get? b=none∧∃ o,(h2'.push obj).get? b=some o:=fun b hb=>hb.elim (fun h=>h▸⟨hI,hIs.elim fun o q=>q.elim fun zz q=>q.elim fun zz q=>⟨o,q.1⟩⟩) fun h=>h▸⟨hLg,hns.elim fun o q=>q.elim fun zz q=>q.elim fun zz q=>⟨o,Heap.get?_push_of_some _ q.1⟩⟩
    refine z6n (O:=fun b=>b=h2'.objs.size∨b=cenv.locals) IH rm heff fo (fun b hb=>(st1.vin b hb).1) (k2h (x:=x) (Lg:=cenv.locals) rm24 gd.lim (by rw [hloc];exact Nat.ne_of_gt hlt) fun j y e=>Nat.ne_of_lt (Array.getElem?_eq_some_iff.mp e).1) (fun b hb=>(hown b hb).1) ?_ (step3 tk3)
      (st1.moreAll (step3 tk3) fun b hb=>hb.imp (fun h=>h) (hown b)) (lo1.moreV fo st1 (step3 tk3) fun b hb=>hb.imp (fun h=>h) fun h=>(hown b h).1) h
    refine ⟨hIs,⟨[],rfl⟩,⟨Or.inl rfl,Or.inr rfl⟩,.fresh (.func (escBody P K) cenv),Array.getElem?_push_size ..,fun s'' hal hk=>⟨s''.heap.objs.size,fun b hb=>?_,rfl,?_⟩⟩
    · obtain ⟨o,ho⟩:=(hown _ (Or.inl rfl)).2
      have hI2:h2'.objs.size<s''.heap.objs.size:=Heap.lt_size (hal _ (Or.inl rfl) o ho)
      exact hb.elim (fun h=>h▸⟨Nat.ne_of_lt hI2,Or.inl (q0n _)⟩) fun h=>h▸⟨Nat.ne_of_lt (Nat.lt_succ_of_lt hI2),Or.inl (Heap.get?_none_of_le (Nat.le_succ _))⟩
    · have hns'':s''.heap.Ns cenv.locals _:=hns.at' fun o e=>hal _ (Or.inr rfl) o (Heap.get?_push_of_some _ e)
      exact j1j gd hEn S0 rm24 hE hk (hH0 _ (by rw [hloc];exact Nat.le_refl _)) hns'' hbl
  refine codeAny_mono (main _) fun r s4 hh=>?_
  refine q0a hh ?_;clear hh;intro fl4 hr4 sp
  apply q0g hr4
  exact SP.after y.mv sp
end
section
variable {p:Program} {w:World} {H0:Heap} {mg mb:Str→Option Value} {G:Gl} {R:Rec} {k:Nat}
  {A:Around} {V:Addr→Prop} {m n:List Addr} {σ σ' σ1:Sto} {s s1 s2 sB:Shared} {L L':Loc} {env:Env} {c:Cx} {d:D} {fl:Fl}
noncomputable def GenAll (p:Program) (w:World) (H0:Heap) (mg:Str→Option Value) (G:Gl) (k:Nat):Prop:=∀ f,G.gen f=true→24≤k∧GenIn H0 mg f∧mg nEnum=none∧Snd p w H0 mg G.still 16 (still G)
set_option tactic.hygienic true in
theorem k2i {t e:PySem.Expr} {body:List Stmt} {r:Fl × Loc × Sto} (h:forStep G R c L σ t body e=some r) :
    (∃ f pf args ks pc,e=.Call (.Name f pf) args ks pc)∨(notSet e=true∧seqStep R c L t body (R.ev c L σ e)=some r):=by
  induction e using PySem.Expr.casesOn<;>first | exact .inr ⟨rfl,h⟩ | exact ns h | skip
  rename_i f _ _ _
  induction f using PySem.Expr.casesOn<;>first | exact .inl ⟨_,_,_,_,_,rfl⟩ | exact .inr ⟨rfl,h⟩
theorem j6d {a:PySem.Expr} {r:D × Sto} (h:evStep G R c L σ a=some r):plainE a=true:=by
  induction a using PySem.Expr.casesOn<;>first | rfl | exact ns h
set_option tactic.hygienic true in
theorem j1k (gd:Gnd p w H0 mg mb G) (hg:GenAll p w H0 mg G k) (IH:Snd p w H0 mg G k R) (rm:q1d k A) (heff:c.eff=true) {t e:PySem.Expr} {body els:List Stmt} {pos:Pos}
    (fo:q1m env c V) (st:q0k (p:=p) (w:=w) (tab:=G.tab) H0 s.heap V m σ) (lo:q0i p w G.tab env s.heap V m L)
    (IH':∀ {e d σ1},R.ev c L σ e=some (d,σ1)→∃ R0 k0,Snd p w H0 mg G k0 R0∧q1d k0 A∧evStep G R0 c L σ e=some (d,σ1))
    (h:exStep G R c L σ (.For t e body els pos)=some (fl,L',σ')) :
    wpAny (model p w) A (exec (.For t e body els pos) env) (SP p w H0 G env c V m σ' L' fl s) NoE s:=by
  induction els using q1h with
  | cons _ _=>exact ns h
  | nil=>
    rcases k2i h with ⟨f,pf,args,ks,pc,rfl⟩ | ⟨hns,h'⟩
    · dsimp only [exStep,forStep] at h
      refine Mine.iteE h ?_ ?_<;>clear h<;>intro _ h
      · rename_i hgf
        simp only [Bool.and_eq_true] at hgf
        apply q0d;intro hG;rcases hg f hgf.1.1 with ⟨h24,hin,hEn,S0⟩;apply hG;clear hG
        refine q0a (Option.bind_eq_some_iff.mp h) ?_;intro a ha h
        replace ha:=q0x ha;subst ha
        refine Mine.iteE h ?_ (fun zz h=>ns h);clear h;intro hks h
        replace hks:=List.isEmpty_iff.mp hks;subst hks
        refine z3c gd hEn S0 IH rm h24 heff hin fo st lo ?_ hgf.1.2 h
        refine q0a (Option.bind_eq_some_iff.mp h) ?_;intro zw0 e1 zw2;rcases zw0 with ⟨d,σ1⟩
        refine q1g (IH' e1) ?_;intro R0 k0 zw2 zw3 e2
        exact j6d e2
      · exact q6l IH rm heff fo st lo rfl h
    · exact q6l IH rm heff fo st lo hns h'
theorem z3d (gd:Gnd p w H0 mg mb G) (IH:Snd p w H0 mg G k R) (rm:q1d k A) (heff:c.eff=true) {ts:List PySem.Expr} {e:PySem.Expr} {pos:Pos}
    (fo:q1m env c V) (st:q0k (p:=p) (w:=w) (tab:=G.tab) H0 s.heap V m σ) (lo:q0i p w G.tab env s.heap V m L)
    (IH':∀ {e d σ1},R.ev c L σ e=some (d,σ1)→∃ R0 k0,Snd p w H0 mg G k0 R0∧q1d k0 A∧evStep G R0 c L σ e=some (d,σ1))
    (h:exStep G R c L σ (.Assign ts e pos)=some (fl,L',σ')) :
    wpAny (model p w) A (exec (.Assign ts e pos) env) (SP p w H0 G env c V m σ' L' fl s) NoE s:=by
  induction ts using q1h with
  | nil=>exact ns h
  | cons t ts=>
    induction ts using q1h with
    | cons _ _=>exact ns h
    | nil=>
      induction t using PySem.Expr.casesOn with
      | Name x p1=>exact z0w gd IH rm heff fo st lo IH' h
      | Tuple es k1 p1=>
        induction e using PySem.Expr.casesOn with
        | Tuple vs k2 p2=>exact q7y IH rm heff fo st lo h
        | _=>exact q5v IH rm fo st lo rfl rfl h
      | _=>exact ns h
theorem j6e (gd:Gnd p w H0 mg mb G) (hg:GenAll p w H0 mg G k) (IH:Snd p w H0 mg G k R) (rm:q1d k A) (heff:c.eff=true) {x:Stmt}
    (fo:q1m env c V) (st:q0k (p:=p) (w:=w) (tab:=G.tab) H0 s.heap V m σ) (lo:q0i p w G.tab env s.heap V m L)
    (IH':∀ {e d σ1},R.ev c L σ e=some (d,σ1)→∃ R0 k0,Snd p w H0 mg G k0 R0∧q1d k0 A∧evStep G R0 c L σ e=some (d,σ1))
    (h:exStep G R c L σ x=some (fl,L',σ')) :
    wpAny (model p w) A (exec x env) (SP p w H0 G env c V m σ' L' fl s) NoE s:=by
  induction x using PySem.Stmt.casesOn with
  | Return v pos=>
    induction v using Mine.oC with
    | none=>exact ns h
    | some e=>exact z2u IH rm fo st lo h
  | Assign ts e pos=>exact z3d gd IH rm heff fo st lo IH' h
  | AugAssign t op e pos=>
    induction t using PySem.Expr.casesOn with
    | Name y p1=>exact q7v IH rm fo st lo h
    | _=>exact ns h
  | Expr e pos=>
    induction e using PySem.Expr.casesOn with
    | Call f as ks pc=>exact z8k IH rm fo st lo h
    | _=>exact ns h
  | Break pos=>
    apply z0k h
    show wpAny _ _ (do standAt pos;pure Flow.brk) _ _ s
    exact wpAny_bind (wpAny_standAt (wpAny_pure (SP.here st lo rfl)))
  | Continue pos=>
    apply z0k h
    show wpAny _ _ (do standAt pos;pure Flow.cont) _ _ s
    exact wpAny_bind (wpAny_standAt (wpAny_pure (SP.here st lo rfl)))
  | If t a b pos=>exact j5u IH rm fo heff st lo h
  | While t body els pos=>
    induction els using q1h with
    | nil=>exact z4v IH rm heff fo st lo h
    | cons _ _=>exact ns h
  | For t e body els pos=>exact j1k gd hg IH rm heff fo st lo IH' h
  | _=>exact ns h
theorem j6f {k:Nat}:Snd p w H0 mg G k rec0:=
  ⟨fun zz zz zz zz h=>(by exact Mine.ns h),fun zz zz zz zz h=>(by exact Mine.ns h),fun zz zz zz zz zz h=>(by exact Mine.ns h),fun zz zz zz zz zz h=>(by exact Mine.ns h)⟩
theorem j1l (gd:Gnd p w H0 mg mb G) {o:Nat} (ho:10≤o) (hg:GenAll p w H0 mg G o) (n:Nat):Snd p w H0 mg G (n+o) (recN G n):=by
  induction n using Nat.strongRecOn with
  | _ n ih=>
    induction n using j5f with
    | zero=>exact j6f
    | succ n=>
      have IH:=ih n (Nat.lt_succ_self n)
      have hk:10≤n+o:=by omega
      have hg':GenAll p w H0 mg G (n+o):=fun f hf=>let ⟨a,b⟩:=hg f hf;⟨by omega,b⟩
      have e:n+1+o=(n+o)+1:=by omega
      rw [e]
      refine ⟨fun rm fo st lo h=>?_,fun rm fo st lo h=>?_,fun rm fo heff st lo h=>?_,fun rm st hfd hm ra h=>?_⟩
      · exact j5t gd IH rm.less hk fo st lo h
      · exact j5q IH rm.less fo st lo h
      · refine j6e gd hg' IH rm.less heff fo st lo (fun {e d σ1} h=>?_) h
        induction n using j5f with
        | zero=>exact Mine.ns h
        | succ n'=>
          exact ⟨recN G n',n'+o,ih n' (by exact Nat.le_add_right _ _),⟨rm.calm,by have:=rm.depth;omega,by have:=rm.units;omega⟩,h⟩
      · exact j5x gd IH rm st hfd hm ra h
theorem z5a (gd:Gnd p w H0 mg mb G):Snd p w H0 mg G.still 16 (still G):=j1l (o:=10) gd.still (Nat.le_refl _) (fun f h=>by exact Mine.ff h) 6
end
noncomputable abbrev nOrd:Str:=Str.ofString "ord"
noncomputable abbrev nCode:Str:=Str.ofString "code"
noncomputable abbrev nR:Str:=Str.ofString "r"
noncomputable def b1Body (P:Nat→Pos):List Stmt:=[.Return (some (.Compare (.Call (.Name nOrd (P 0)) [.Name nCode (P 1)] [] (P 2)) [.In] [.Name nB1 (P 3)] (P 4))) (P 5)]
noncomputable def b3Body (P:Nat→Pos) (K:Nat→Nat):List Stmt:=
  [.Assign [.Name nR (P 0)] (.Call (.Attribute (.Name nB3 (P 1)) (Str.ofString "get") (P 2)) [.Call (.Name nOrd (P 3)) [.Name nCode (P 4)] [] (P 5)] [] (P 6)) (P 7),
   .If (.Compare (.Name nR (P 8)) [.IsNot] [.Constant .none (K 0) (P 9)] (P 10)) [.Return (some (.Name nR (P 11))) (P 12)] [] (P 13),
   .Return (some (.Call (.Attribute (.Name nCode (P 14)) (Str.ofString "lower") (P 15)) [] [] (P 16))) (P 17)]
noncomputable def b1Scope (sc:Scope):Bool:=fnOk { params:=[nCode],body:=[],scope:=sc }&&isGlobal sc nOrd&&isGlobal sc nB1
noncomputable def b3Scope (sc:Scope):Bool:=fnOk { params:=[nCode],body:=[],scope:=sc }&&isGlobal sc nOrd&&isGlobal sc nB3&&ownName sc nR
section
variable {p:Program} {w:World} {H0:Heap} {mg mb:Str→Option Value} {G:Gl} {R:Rec} {k:Nat}
  {A:Around} {V V':Addr→Prop} {m n:List Addr} {σ σ' σ1:Sto} {s s1:Shared} {L L':Loc} {env:Env} {c:Cx} {d:D} {fl:Fl} {ch:Nat}
theorem z6r (gd:Gnd p w H0 mg mb G.still) (hh:A.handled=none) (fo:q1m env c V) (st:q0k (p:=p) (w:=w) (tab:=G.tab) H0 s.heap V m σ) (lo:q0i p w G.tab env s.heap V m L) (hf:Loc.find nCode L=some (.str [ch])) (hg:isGlobal c.sc nOrd=true)
    {q q1 q2:Pos} {Q:Value→Shared→Prop} (h:∀ t s',Step noOne s s'→Q (.int ch t) s') :
    wpAny (model p w) A (eval (.Call (.Name nOrd q) [.Name nCode q1] [] q2) env) Q NoE s:=by
  have hd0:builtinD σ nOrd [.str [ch]]=some (.int ch):=by kernel_rfl
  refine q6e (q4w hd0) ?_;intro fv hb hn hty
  refine q0a (lo.vars _ _ hf) ?_;intro v hs rv
  refine Call_ (q3n (G:=G.still) gd fo st hg (gd.nob _ (by decide +kernel)) hn hb ?_)
  have fin:wpAny (model p w) A (call fv [v]) Q NoE s:=q6i st hh hd0 hb (RepL.single rv) (fun i hi zz=>absurd hi (by decide +kernel)) fun u s' hvp=>by
    have r:=hvp.rep
    obtain ⟨t,hq82⟩:=r
    apply q0g hq82
    exact h t s' hvp.step
  have base:wpAny (model p w) A (spliced (backTo q2 (starEach [.Name nCode q1] env))) (fun vs s'=>wpAny (model p w) A (call fv vs) Q NoE s') NoE s:=
    args_cons (q2c fo hs (args_nil fin)) (q0t rfl)
  rcases hty with ⟨id,rfl⟩ | ⟨T,rfl⟩
  · exact callWith_builtin1 base (q0t rfl) (q2d rfl)
  · exact callWith_type1 base (q0t rfl) (q2d rfl)
theorem k2j (gd:Gnd p w H0 mg mb G.still) {f:Str} {a:Addr} {o:Obj} {c':Addr} {pm doc:Value} {params:Arguments} {P:Nat→Pos} {sc:Scope} {ns:List Int} {nn:Nat} {dset:Addr} {args:List D} {vs:List Value} {Q:Value→Shared→Prop} (rm:q1d 2 A)
    (h2:H0.get? a=some o) (h3:o.data=.func (docDef f params (b1Body P) sc pm (.ref c') doc)) (h4:H0.CodeRec (.ref c') f) (h5:bareArgs params=true) (h6:params.args.map (·.arg)=[nCode]) (hsc:b1Scope sc=true)
    (hset:mg nB1=some (.ref dset)) (hS:H0.SetOf (intKind p w) dset (fun k=>ns.any (·==k)) nn)
    (st:q0k (p:=p) (w:=w) (tab:=G.tab) H0 s.heap V m σ) (ra:RepL p w G.tab s.heap V m [.str [ch]] vs) (hQ:∀ v s',VP p w G.tab V m (.bool (ns.contains (ch:Int))) s v s'→Q v s') :
    wpAny (model p w) A (call (.ref a) vs) Q NoE s:=by
  simp only [b1Scope,Bool.and_eq_true] at hsc
  refine q5x (eff:=false) (k:=1) (fd:={ params:=[nCode],body:=b1Body P,scope:=sc }) gd.lim rm st h2 h3 h4 h5 h6 hsc.1.1 rfl ra fun cenv V' s1 fo st1 lo step hV hO rm1=>?_
  refine wpAny_execs_cons (wpAny_Return_some (wpAny_Compare1 (z6r gd rm1.calm fo st1 lo (if_pos rfl) hsc.1.2 fun t s2 step2=>?_) rfl))
  have st2:=st1.step step2
  refine q2o (G:=G.still) gd fo st2 hsc.2 hset (wpAny_inSet_of (knd:=intKind p w) (S:=fun k=>ns.any (·==k)) (n:=nn) (k:=(ch:Int)) (intKind_is p w _ t) rfl ?_ ?_)
  · apply q0d;intro hG;rcases hS with ⟨o,es,ep,t,ho,r⟩;apply hG;clear hG
    exact ⟨o,es,ep,t,st2.kept _ _ ho,r⟩
  · have e:ns.any (·==(ch:Int))=ns.contains (ch:Int):=by
      rw [List.contains_eq_any_beq]
      congr 1
      funext x
      exact Bool.eq_iff_iff.mpr ⟨fun h=>beq_iff_eq.mpr (beq_iff_eq.mp h).symm,fun h=>beq_iff_eq.mpr (beq_iff_eq.mp h).symm⟩
    rw [e]
    exact hQ _ _ ⟨(step.trans step2).trans (Step.toks _),q3v⟩
theorem k2k (gd:Gnd p w H0 mg mb G.still) {f:Str} {a:Addr} {o:Obj} {c':Addr} {pm doc:Value} {params:Arguments} {P:Nat→Pos} {K:Nat→Nat} {sc:Scope} {D3:List (Int × Str)} {dd:Addr} {kvs:List (Int × Value)} {args:List D} {vs:List Value} {Q:Value→Shared→Prop} (rm:q1d 2 A)
    (h2:H0.get? a=some o) (h3:o.data=.func (docDef f params (b3Body P K) sc pm (.ref c') doc)) (h4:H0.CodeRec (.ref c') f) (h5:bareArgs params=true) (h6:params.args.map (·.arg)=[nCode]) (hsc:b3Scope sc=true)
    (hq1:((P 2).endLine==(P 6).line)=true) (hq2:((P 15).endLine==(P 16).line)=true)
    (hset:mg nB3=some (.ref dd)) (hds:(dd==sysModules)=false) (hD:H0.DictOf (intKind p w) dd kvs) (hF:q7d kvs (D3.map fun x=>(x.1,strVal x.2)))
    (st:q0k (p:=p) (w:=w) (tab:=G.tab) H0 s.heap V m σ) (ra:RepL p w G.tab s.heap V m [.str [ch]] vs) (hQ:∀ v s',VP p w G.tab V m (.str (b3D D3 ch)) s v s'→Q v s') :
    wpAny (model p w) A (call (.ref a) vs) Q NoE s:=by
  simp only [b3Scope,Bool.and_eq_true] at hsc
  refine q5x (eff:=false) (k:=1) (fd:={ params:=[nCode],body:=b3Body P K,scope:=sc }) gd.lim rm st h2 h3 h4 h5 h6 hsc.1.1.1 rfl ra fun cenv V' s1 fo st1 lo step hV hO rm1=>?_
  have hfind:Loc.find nCode ([nCode].zip ([D.str [ch]].map some))=some (.str [ch]):=if_pos rfl
  apply q0d;intro hG;rcases id hD with ⟨o3,es3,ep3,e3,r3⟩;apply hG;clear hG
  have hmap:∀ {h:Heap},Kept H0 h→h.MapOf (intKind p w) dd (valueAt kvs):=fun {h} hk=>Heap.DictOf.mapOf (show h.DictOf (intKind p w) dd kvs from ⟨o3,es3,ep3,hk _ _ e3,r3⟩)
  have hkeep:∀ {s':Shared} {O:Addr→Prop},Step O s1 s'→(∀ b,O b→Own cenv ⟨sc,[],false,false⟩ b)→Step noOne s s':=fun {s' O} x h=>(step.trans' x fun b o e hb=>by rw [hO b (h b hb)] at e;exact Mine.ns e)
  obtain ⟨dv,hdv⟩:∃ dv:D,dv=(D3.lookup (ch:Int)).elim .none fun i=>.str i.cps.toList:=⟨_,rfl⟩
  have hrep:∀ h V m,Rep p w G.tab h V m dv ((valueAt kvs (ch:Int)).getD .none):=fun h V m=>by
    have:=j0l hF (ch:Int)
    rw [hdv]
    generalize D3.lookup _=y at this ⊢
    induction y using Mine.oC with
    | none=>rw [show valueAt kvs _=none from this];exact q4s
    | some i=>
      obtain ⟨_,ht,t,rfl⟩:=this
      rw [ht]
      exact ⟨t,congrArg (fun X=>Value.str X t) (by simp)⟩
  have hres:b3D D3 ch=(D3.lookup (ch:Int)).elim (lowerD [ch]) fun i=>i.cps.toList:=rfl
  have hput:put1 sc nR dv ([nCode].zip ([D.str [ch]].map some))=some [(nCode,some (.str [ch])),(nR,some dv)]:=by
    have:¬ nR=nCode:=by decide +kernel
    unfold put1
    rw [if_pos hsc.2]
    exact congrArg some (if_neg this)
  have hfr:Loc.find nR [(nCode,some (D.str [ch])),(nR,some dv)]=some dv:=by
    have:¬ nR=nCode:=by decide +kernel
    exact (if_neg this).trans (if_pos rfl)
  have hfc:Loc.find nCode [(nCode,some (D.str [ch])),(nR,some dv)]=some (.str [ch]):=if_pos rfl
  have hobj:∀ {s':Shared},Kept H0 s'.heap→s'.TypeIs (.ref dd) "dict"∧∀ b,Value.ref dd=.ref b→∃ ob,s'.heap.get? b=some ob∧ob.dict=none:=fun {s'} hk=>by
    have hm:=hmap hk
    refine ⟨hm.typeIs,fun b e=>?_⟩
    cases e
    exact ⟨o3,hk _ _ e3,r3.1.2.1⟩
  refine wpAny_execs_cons (wpAny_Assign_Name (wpAny_Call_method_late rfl (q7r (by rfl) (show (1:Nat)<29 by decide)) hq1 rfl (q2o (G:=G.still) gd fo st1 hsc.1.2 hset
    ⟨"dict","dict.get",PySem.F.plainAttrs_dict,PySem.F.slot_dict_get,PySem.F.type_dict_get,(hobj st1.kept).1,(hobj st1.kept).2,?_⟩)) rfl)
  refine callWith_method1 (args_cons (z6r gd rm1.calm fo st1 lo hfind hsc.1.1.2 fun t s2 step2=>?_) (q0t rfl)) (q0t rfl) (q2d rfl)
  have st2:=st1.step step2
  have lo2:=lo.step fo st1 step2
  refine args_nil (call_meetsIn PySem.F.slot_dict_get (hobj st2.kept).1 PySem.F.entry_dict_get (PySem.F.args_dict_get_2 _ _) (meets_dict_get (intKind p w) dd (intKind_is p w (ch:Int) t) hds) ⟨_,hmap st2.kept,?_⟩)
  have step3:Step noOne s2 { s2 with toks:=s2.toks+1 }:=Step.toks _
  have st3:=st2.step step3
  have lo3:=lo2.step fo st2 step3
  refine wpAny_mono (q1u (s:={ s2 with toks:=s2.toks+1 }) fo st3 lo3 (hrep _ _ _) hput) (fun zz s4 as=>?_) fun zz zz h=>h
  have step4:Step noOne s s4:=hkeep ((step2.trans step3).mono (O':=Own cenv ⟨sc,[],false,false⟩) (fun zz zz zz h=>h.elim) |>.trans as.step) fun zz h=>h
  refine q0a (as.lo.vars _ _ hfr) ?_;intro vr hsr rvr
  refine q0a (as.lo.vars _ _ hfc) ?_;intro vc hsc' rvc
  induction hlk:D3.lookup (ch:Int) using Mine.oC with
  | some i=>
    rw [hlk] at hdv hres
    subst hdv
    refine wpAny_execs_cons (wpAny_If (wpAny_isTrue_Compare1 (q2c fo hsr (wpAny_Constant_none (q7o (b:=true) as.st rm1.line rfl rvr q4s fun tk=>wpAny_truthy_bool ?_))) rfl))
    rw [if_pos rfl]
    refine wpAny_execs_cons (wpAny_Return_some (q2c (s:={ s4 with toks:=tk }) fo hsr ?_))
    have r:=rvr
    obtain ⟨t',rfl⟩:=r
    rw [hres] at hQ
    exact hQ _ _ ⟨step4.trans (Step.toks _),q2w⟩
  | none=>
    rw [hlk] at hdv hres
    subst hdv
    refine wpAny_execs_cons (wpAny_If (wpAny_isTrue_Compare1 (q2c fo hsr (wpAny_Constant_none (q7o (b:=false) as.st rm1.line rfl rvr q4s fun tk=>wpAny_truthy_bool ?_))) rfl))
    rw [if_neg Bool.false_ne_true]
    refine wpAny_execs_nil (wpAny_execs_cons (wpAny_Return_some (wpAny_Call_method_lateS rfl (q7r (by rfl) (show (0:Nat)<29 by decide)) hq2 (q2c (s:={ s4 with toks:=tk }) fo hsc' ?_))))
    have r:=rvc
    obtain ⟨t',rfl⟩:=r
    refine SB.lower (fit_lower (by show (1:Nat)≤5592405;decide)) ?_
    rw [hres] at hQ
    refine hQ _ _ ⟨(step4.trans (Step.toks (tk+1))),?_⟩
    have e:∀ X:Str,X=⟨X.cps.toList.toArray⟩:=fun X=>by simp
    unfold lowerD
    exact ⟨_,congrArg (fun X=>Value.str X _) (e (Txt.lower ⟨[ch].toArray⟩))⟩
end
noncomputable def isDef:Stmt→Bool
  | .FunctionDef ..=>true
  | _=>false
noncomputable def defBare:Stmt→Bool
  | .FunctionDef _ params _ _ _ _ _ _ _ _=>bareArgs params
  | _=>true
theorem j6g {st:Stmt} {d:Str × Arguments × List Stmt × Scope} (h:defOf st=some d):∃ x1 x2 x3 x4 x5 x6,Stmt.FunctionDef d.1 d.2.1 d.2.2.1 x1 x2 x3 d.2.2.2 x4 x5 x6=st:=by
  induction st using PySem.Stmt.casesOn<;>first | exact ns h | (apply q0w h;exact ⟨_,_,_,_,_,_,rfl⟩)
theorem z8r {sts:List Stmt} {f:Str} {d} (h:theDef sts f=some d):∃ x1 x2 x3 x4 x5 x6,Stmt.FunctionDef f d.1 d.2.1 x1 x2 x3 d.2.2 x4 x5 x6∈sts:=by
  refine q0a (List.exists_of_findSome?_eq_some h) ?_;intro st hm h
  refine q0a (Option.bind_eq_some_iff.mp h) ?_;intro x hx h
  refine k0y (j6g hx) ?_;intro x1 x2 x3 x4 x5 x6 e
  refine Mine.iteE h ?_ ?_<;>clear h<;>intro hc h
  · apply q0w h;exact ⟨x1,x2,x3,x4,x5,x6,hc▸e▸hm⟩
  · exact Mine.ns h
theorem j6h {muts:Str→List Str × Bool × Option Nat} {sts:List Stmt} {f:Str} {fd:q9a} (h:fnIn muts sts f=some fd):∃ d,theDef sts f=some d∧fd.params=d.1.args.map (·.arg)∧fd.body=d.2.1∧fd.scope=d.2.2:=by
  refine q0a (Option.map_eq_some_iff.mp h) ?_;intro d hd e
  apply q1w e;exact ⟨d,hd,rfl,rfl,rfl⟩
theorem j6i {p:Program} {w:World} (hl:61≤(behindTheImports p).length) (h5:isDef ((behindTheImports p).getD 5 (.Pass default))=false) (h7:isDef ((behindTheImports p).getD 7 (.Pass default))=false) (h60:isDef ((behindTheImports p).getD 60 (.Pass default))=false)
    {st:Stmt} (hm:st∈behindTheImports p) (hd:isDef st=true) {x:q2y} (hx:factOf st=some x):x∈(shapeOf p).facts w:=by
  have hin:st∈(shapeOf p).sA∨st∈(shapeOf p).sC∨st∈(shapeOf p).sD∨st∈(shapeOf p).sE:=by
    show st∈(behindTheImports p).take 5∨st∈((behindTheImports p).drop 6).take 1∨st∈((behindTheImports p).drop 8).take 52∨st∈(behindTheImports p).drop 61
    generalize behindTheImports p=body at hl h5 h7 h60 hm
    obtain ⟨i,hi,rfl⟩:=List.getElem_of_mem hm
    have g:∀ j (hj:j<body.length),body.getD j (.Pass default)=body[j]:=fun j hj=>by simp [hj]
    have n5:i≠5:=fun h=>by subst h;rw [g 5 hi,hd] at h5;exact Mine.tf h5
    have n7:i≠7:=fun h=>by subst h;rw [g 7 hi,hd] at h7;exact Mine.tf h7
    have n60:i≠60:=fun h=>by subst h;rw [g 60 hi,hd] at h60;exact Mine.tf h60
    rcases Nat.lt_or_ge i 5 with h | h
    · left;exact List.mem_of_getElem? (i:=i) (by rw [List.getElem?_take_of_lt h];exact List.getElem?_eq_getElem hi)
    · right
      rcases Nat.lt_or_ge i 7 with h' | h'
      · left
        have:i=6:=by omega
        subst this
        exact List.mem_of_getElem? (i:=0) (by rw [List.getElem?_take_of_lt (by decide),List.getElem?_drop];exact List.getElem?_eq_getElem hi)
      · right
        rcases Nat.lt_or_ge i 60 with h2 | h2
        · left
          refine List.mem_of_getElem? (i:=i - 8) ?_
          rw [List.getElem?_take_of_lt (by omega),List.getElem?_drop,show 8+(i - 8)=i by omega]
          exact List.getElem?_eq_getElem hi
        · right
          refine List.mem_of_getElem? (i:=i - 61) ?_
          rw [List.getElem?_drop,show 61+(i - 61)=i by omega]
          exact List.getElem?_eq_getElem hi
  unfold q0f.facts q0f.fE q0f.fD q0f.f3 q0f.fC q0f.fB q0f.fA
  rcases hin with h | h | h | h
  all_goals
    have:=List.mem_filterMap.mpr ⟨st,h,hx⟩
    simp only [List.mem_append]
    simp [this]
structure q2u (p:Program):Prop where
  hl:61≤(behindTheImports p).length
  h5:isDef ((behindTheImports p).getD 5 (.Pass default))=false
  h7:isDef ((behindTheImports p).getD 7 (.Pass default))=false
  h60:isDef ((behindTheImports p).getD 60 (.Pass default))=false
  bare:(behindTheImports p).all defBare=true
  b1:∃ params P sc,theDef (behindTheImports p) (Str.ofString "in_table_b1")=some (params,b1Body P,sc)∧params.args.map (·.arg)=[nCode]∧b1Scope sc=true
  b3:∃ params P K sc,theDef (behindTheImports p) (Str.ofString "map_table_b3")=some (params,b3Body P K,sc)∧params.args.map (·.arg)=[nCode]∧b3Scope sc=true∧((P 2).endLine==(P 6).line)=true∧((P 15).endLine==(P 16).line)=true
  gen:∃ params P K sc,theDef (behindTheImports p) (Str.ofString "_iter_escaped_chars")=some (params,escBody P K,sc)∧params.args.map (·.arg)=[nAddr]∧escScope sc=true
section
variable {p:Program} {w:World} {h:Heap} {mg mb:Str→Option Value}
theorem q2u.at (ok:q2u p) (t:(shapeOf p).T w h mg) {f:Str} {d:Arguments × List Stmt × Scope} (hd:theDef (behindTheImports p) f=some d) :
    ∃ a o c' pm doc,mg f=some (.ref a)∧h.get? a=some o∧o.data=.func (docDef f d.1 d.2.1 d.2.2 pm (.ref c') doc)∧h.CodeRec (.ref c') f∧bareArgs d.1=true:=by
  refine q0d fun hn=>?_
  refine k0y (z8r hd) ?_;intro x1 x2 x3 x4 x5 x6 hm
  obtain ⟨⟨Pl,hf⟩,_⟩:=t
  rcases hf _ (j6i ok.hl ok.h5 ok.h7 ok.h60 hm rfl rfl) with ⟨v,hv,a,c',o,pm,doc,rfl,ho,hda,hc,_⟩
  refine hn ?_
  exact ⟨a,o,c',pm,doc,hv,ho,hda,hc,List.all_eq_true.mp ok.bare _ hm⟩
theorem q2u.set (t:(shapeOf p).T w h mg):∃ d,mg nB1=some (.ref d)∧h.SetOf (intKind p w) d (fun k=>(shapeOf p).b1.any (·==k)) (shapeOf p).n1:=by
  obtain ⟨⟨Pl,hf⟩,_⟩:=t
  apply q0d;intro hG;rcases hf (setFact p w nB1 (shapeOf p).b1 (shapeOf p).n1) (by
    unfold q0f.facts q0f.fE q0f.fD q0f.f3 q0f.fC q0f.fB
    simp) with ⟨v,hv,d,rfl,_,_,hS⟩;apply hG;clear hG
  exact ⟨d,hv,hS⟩
theorem q2u.tab3 (t:(shapeOf p).T w h mg):∃ d kvs,mg nB3=some (.ref d)∧(d==sysModules)=false∧h.DictOf (intKind p w) d kvs∧q7d kvs ((shapeOf p).D3.map fun x=>(x.1,strVal x.2)):=by
  obtain ⟨⟨Pl,hf⟩,_⟩:=t
  apply q0d;intro hG;rcases hf (tabFact (intKind p w) nB3 ((shapeOf p).D3.map fun x=>(x.1,strVal x.2))) (by
    unfold q0f.facts q0f.fE q0f.fD q0f.f3
    simp) with ⟨v,hv,d,kvs,rfl,_,_,h1,h2,h3⟩;apply hG;clear hG
  exact ⟨d,kvs,hv,h1,h2,h3⟩
theorem q2u.tabE (t:(shapeOf p).T w h mg):∃ d,mg nET=some (.ref d)∧IsTab p w (shapeOf p).DE h d:=by
  obtain ⟨⟨Pl,hf⟩,_⟩:=t
  apply q0d;intro hG;rcases hf (tabFact (strKind p w) nET ((shapeOf p).DE.map fun x=>(x.1,intVal x.2))) (by
    unfold q0f.facts q0f.fE
    simp) with ⟨v,hv,d,kvs,rfl,_,_,h1,h2,h3⟩;apply hG;clear hG
  exact ⟨d,hv,h1,kvs,h2,h3⟩
theorem q2u.int (t:(shapeOf p).T w h mg) {x:Str} {i:Int} (hx:(x,i)∈intsOf (shapeOf p).sD):∃ t,mg x=some (.int i t):=by
  obtain ⟨⟨Pl,hf⟩,_⟩:=t
  apply q0d;intro hG;rcases hf (intFact x i) (by
    have:=q7j hx
    unfold q0f.facts q0f.fE q0f.fD
    simp only [List.mem_append]
    exact Or.inl (Or.inl (Or.inr this))) with ⟨v,hv,tk,rfl⟩;apply hG;clear hG
  exact ⟨tk,hv⟩
set_option tactic.hygienic true in
theorem k8y (ok:q2u p) (muts:Str→List Str × Bool × Option Nat) (hm:h.Ns mainGlobals mg) (t:(shapeOf p).T w h mg) (hb:h.Ns builtinsNs mb) (hbf:∀ x:Str,x≠"__name__"→mb x=bootBuiltins x) (hl:h.NoLimit) :
    Gnd p w h mg mb (glOf p muts):=by
  have gd0:Gnd p w h mg mb (glOf p muts).still:=⟨hm,hb,hbf,hl,fun f hf=>t.2 f (by
      unfold builtinNames at hf
      unfold unboundNames
      simp only [List.map_cons,List.map_nil,List.mem_cons,List.not_mem_nil,or_false] at hf ⊢
      rcases hf with h | h | h | h | h | h | h<;>simp [h]),fun f fd h=>(by exact Mine.ns h),fun f g h=>(by exact Mine.ns h),fun f g h=>(by exact Mine.ns h)⟩
  refine ⟨hm,hb,hbf,hl,gd0.nob,fun f fd hfd=>?_,fun f g hg=>?_,fun x d hx=>?_⟩
  · have hfd':fnIn muts (behindTheImports p) f=some fd:=by
      refine Mine.iteE hfd ?_ ?_<;>clear hfd<;>intro hc hfd
      · exact Mine.ns hfd
      · exact hfd
    refine q0d fun hn=>?_
    refine z1u (j6h hfd') ?_;intro d hd h1 h2 h3
    refine q9j (ok.at t hd) ?_;intro a o c' pm doc q1 q2 q3 q4 q5
    refine hn ?_
    exact ⟨a,o,c',pm,doc,d.1,q1,q2,by rw [h2,h3];exact q3,q4,q5,h1.symm⟩
  · skip
    refine Mine.iteE hg ?_ ?_<;>clear hg<;>intro _ hg
    · rename_i hf
      apply q0w hg
      refine q0d fun hn=>?_
      subst hf
      refine k0u ok.b1 ?_;intro params P sc hd h6 hsc
      refine q9j (ok.at t hd) ?_;intro a o c' pm doc q1 q2 q3 q4 q5
      refine q0a (q2u.set t) ?_;intro ds hs1 hs2
      refine hn ?_
      refine ⟨a,o,_,q1,q2,q3,fun {A s V m σ args vs d Q} rm st ra e hQ=>?_⟩
      refine q0a (z6b e) ?_;intro c ea e;revert hQ ra;apply q1w e;apply q0g ea;intro ra hQ
      · exact k2j (G:=glOf p muts) (mg:=mg) (mb:=mb) (args:=[]) gd0 ⟨rm.calm,by have:=rm.depth;omega,by have:=rm.units;omega⟩ q2 q3 q4 q5 h6 hsc hs1 hs2 st ra hQ
    · refine Mine.iteE hg ?_ ?_<;>clear hg<;>intro _ hg
      · rename_i hf
        apply q0w hg
        refine q0d fun hn=>?_
        subst hf
        refine k8h ok.b3 ?_;intro params P K sc hd h6 hsc hp1 hp2
        refine q9j (ok.at t hd) ?_;intro a o c' pm doc q1 q2 q3 q4 q5
        refine q2x (q2u.tab3 t) ?_;intro ds kvs hs1 hs2 hs3 hs4
        refine hn ?_
        refine ⟨a,o,_,q1,q2,q3,fun {A s V m σ args vs d Q} rm st ra e hQ=>?_⟩
        refine q0a (z6b e) ?_;intro c ea e;revert hQ ra;apply q1w e;apply q0g ea;intro ra hQ
        · exact k2k (G:=glOf p muts) (mg:=mg) (mb:=mb) (args:=[]) gd0 ⟨rm.calm,by have:=rm.depth;omega,by have:=rm.units;omega⟩ q2 q3 q4 q5 h6 hsc hp1 hp2 hs1 hs2 hs3 hs4 st ra hQ
      · exact Mine.ns hg
  · skip
    refine Mine.iteE hx ?_ ?_<;>clear hx<;>intro _ hx
    · rename_i he
      apply q0w hx
      subst he
      refine q0a (q2u.tabE t) ?_;intro d h1 h2
      exact ⟨_,h1,by exact ⟨d,rfl,⟨fun h=>h,fun h=>by cases h⟩,h2⟩⟩
    · refine q0a (Option.map_eq_some_iff.mp hx) ?_;intro i hi zw2;apply q1w zw2
      obtain ⟨tk,ht⟩:=q2u.int t (mem_of_lookup hi)
      exact ⟨_,ht,q1k⟩
theorem j6j (ok:q2u p) (muts:Str→List Str × Bool × Option Nat) {name:Str} {fd:q9a} (hfd:(glOf p muts).fn name=some fd)
    (hev:∀ ns:List Int,ns.length≤63→(recN (glOf p muts) 100).ca name [.list (ns.map .int)] []=some (.bool true,[])):LawCall p name (shapeOf p).T:=by
  intro w s mg mb hm t hb hbf hst hgens a items ns hl hints hn
  have hlim:s.heap.NoLimit:=⟨_,hst,rfl⟩
  have gd:=k8y ok muts hm t hb hbf hlim
  have hEn:mg nEnum=none:=t.2 _ (by unfold unboundNames nEnum;simp)
  have hga:GenAll p w s.heap mg (glOf p muts) 40:=fun f hf=>by
    simp only [glOf,decide_eq_true_eq] at hf
    apply q0g hf
    refine q0d fun hn=>?_
    refine k0x ok.gen ?_;intro params P K sc hd h6 hsc
    refine q9j (ok.at t hd) ?_;intro a o c' pm doc q1 q2 q3 q4 q5
    refine hn ?_
    exact ⟨by decide,⟨a,o,c',pm,doc,params,P,K,sc,q1,q2,q3,q4,q5,h6,hsc⟩,hEn,z5a gd⟩
  have S:=j1l gd (by decide) hga 100
  apply q0d;intro hG;rcases gd.fns name fd hfd with ⟨fa,_,_,_,_,_,hfa,_⟩;apply hG;clear hG
  refine ⟨.ref fa,hfa,?_⟩
  have st:q0k (p:=p) (w:=w) (tab:=(glOf p muts).tab) s.heap s.heap noOne [] []:=⟨fun zz zz e=>e,fun zz h=>h.elim,fun zz h=>(by cases h),rfl,List.nodup_nil,fun zz h=>(by cases h),fun zz zz zz h=>(by exact Mine.ns h)⟩
  have rints:∀ {vs:List Value} {ns:List Int},IntsAre vs ns→RepL p w (glOf p muts).tab s.heap noOne [] (ns.map .int) vs:=by
    intro vs ns h
    induction h with
    | nil=>exact RepL.nil
    | cons i t _ ih=>exact RepL.cons q1k ih
  have ra:RepL p w (glOf p muts).tab s.heap noOne [] [.list (ns.map .int)] [.ref a]:=RepL.single (by
    exact ⟨a,items,rfl,⟨fun h=>h,fun h=>by cases h⟩,hl,rints hints⟩)
  have rm:q1d (100+40) callerA:=⟨rfl,by show 1+claimMargin+140≤900;decide,by show 4+4*140≤9000;decide⟩
  refine wpAny_mono (S.ca rm st hfd hfa ra (hev ns hn)) (fun v s' hh=>?_) fun zz zz h=>h
  refine q3k hh ?_;clear hh;intro step zw1 rv
  apply q0g rv
  refine ⟨rfl,fun b o e=>step.keep b o e fun h=>(by cases h),step.os,step.bare fun y hy=>?_⟩
  rw [hgens] at hy
  simp at hy
end
noncomputable def posE:Nat→PySem.Expr→List Pos
  | 0,_=>[]
  | n+1,e=>match e with
    | .Name _ p=>[p]
    | .Constant _ _ p=>[p]
    | .Tuple es _ p=>es.flatMap (posE n)++[p]
    | .Call f as _ p=>posE n f++as.flatMap (posE n)++[p]
    | .BinOp l _ r p=>posE n l++posE n r++[p]
    | .Compare l _ rs p=>posE n l++rs.flatMap (posE n)++[p]
    | .Attribute o _ p=>posE n o++[p]
    | .Yield v p=>v.toList.flatMap (posE n)++[p]
    | _=>[]
noncomputable def posS:Nat→Stmt→List Pos
  | 0,_=>[]
  | n+1,st=>match st with
    | .Assign ts e p=>ts.flatMap (posE n)++posE n e++[p]
    | .For t e b _ p=>posE n t++posE n e++b.flatMap (posS n)++[p]
    | .If t a b p=>posE n t++a.flatMap (posS n)++b.flatMap (posS n)++[p]
    | .Return v p=>v.toList.flatMap (posE n)++[p]
    | .Expr e p=>posE n e++[p]
    | _=>[]
noncomputable def numE:Nat→PySem.Expr→List Nat
  | 0,_=>[]
  | n+1,e=>match e with
    | .Constant _ k _=>[k]
    | .Tuple es k _=>es.flatMap (numE n)++[k]
    | .BinOp l _ r _=>numE n l++numE n r
    | .Compare _ _ rs _=>rs.flatMap (numE n)
    | .Yield v _=>v.toList.flatMap (numE n)
    | _=>[]
noncomputable def numS:Nat→Stmt→List Nat
  | 0,_=>[]
  | n+1,st=>match st with
    | .Assign _ e _=>numE n e
    | .For t _ b _ _=>numE n t++b.flatMap (numS n)
    | .If t a b _=>numE n t++a.flatMap (numS n)++b.flatMap (numS n)
    | .Expr e _=>numE n e
    | _=>[]
noncomputable def b1Pos (b:List Stmt):List Pos:=b.flatMap (posS 9)
noncomputable def b3Pos (b:List Stmt):List Pos:=b.flatMap (posS 9)
noncomputable def b3Num (b:List Stmt):List Nat:=b.flatMap (numS 9)
noncomputable def escPos (b:List Stmt):List Pos:=b.flatMap (posS 9)
noncomputable def escNum (b:List Stmt):List Nat:=let l:=b.flatMap (numS 9);(l.take 7++[l.getD 8 0])++(l.getD 7 0::l.drop 9)
noncomputable def posAt (l:List Pos) (i:Nat):Pos:=l.getD i default
noncomputable def numAt (l:List Nat) (i:Nat):Nat:=l.getD i 0
noncomputable def defBody (p:Program) (f:Str):List Stmt:=((theDef (behindTheImports p) f).getD (default,[],default)).2.1
noncomputable def defArgs (p:Program) (f:Str):Arguments:=((theDef (behindTheImports p) f).getD (default,[],default)).1
noncomputable def defScope (p:Program) (f:Str):Scope:=((theDef (behindTheImports p) f).getD (default,[],default)).2.2
end Mine
open PySem PySem.W PyProof.Rows
namespace Mine
open PySem PySem.W PySem.Calls PyProof.Rows
set_option maxRecDepth 100000 in
theorem v6p:q2u p1 where
  hl:=by decide +kernel
  h5:=by decide +kernel
  h7:=by decide +kernel
  h60:=by decide +kernel
  bare:=by decide +kernel
  b1:=⟨defArgs p1 (Str.ofString "in_table_b1"),posAt (b1Pos (defBody p1 (Str.ofString "in_table_b1"))),defScope p1 (Str.ofString "in_table_b1"),by kernel_rfl,by kernel_rfl,by kernel_rfl⟩
  b3:=⟨defArgs p1 (Str.ofString "map_table_b3"),posAt (b3Pos (defBody p1 (Str.ofString "map_table_b3"))),numAt (b3Num (defBody p1 (Str.ofString "map_table_b3"))),defScope p1 (Str.ofString "map_table_b3"),by kernel_rfl,by kernel_rfl,by kernel_rfl,by kernel_rfl,by kernel_rfl⟩
  gen:=⟨defArgs p1 (Str.ofString "_iter_escaped_chars"),posAt (escPos (defBody p1 (Str.ofString "_iter_escaped_chars"))),numAt (escNum (defBody p1 (Str.ofString "_iter_escaped_chars"))),defScope p1 (Str.ofString "_iter_escaped_chars"),by kernel_rfl,by kernel_rfl,by kernel_rfl⟩
theorem k2l {p:Program} {w:World} {h:Heap} {mg:Str→Option Value} (ok:q2u p) (hm:h.Ns mainGlobals mg) (t:(shapeOf p).T w h mg) {f:Str} {d:Arguments × List Stmt × Scope}
    (hd:theDef (behindTheImports p) f=some d) (hp:p.theDef f=some d):isTheDefsW p h f:=by
  refine q9j (ok.at t hd) ?_;intro a o c' pm doc h1 h2 h3 zw8 hb
  obtain ⟨params,body,scope⟩:=d
  refine ⟨a,o,_,params,body,scope,(q2n hm f).trans h1,h2,h3,hp,rfl,rfl,rfl,rfl,rfl,rfl,rfl,rfl,?_⟩
  refine q9i (q4p (env:=default) hb) ?_;intro zw0 k1 k2 k3
  have k1':params.kwonlyargs=[]:=k1
  have k2':params.kw_defaults=[]:=k2
  have k3':params.defaults=[]:=k3
  refine ⟨Or.inl ⟨k3',rfl⟩,[],?_,Or.inl ⟨rfl,rfl⟩⟩
  rw [k1',k2'];rfl
noncomputable def sel (b:List Stmt) (i:Nat):Stmt:=b.getD i (.Pass default)
noncomputable def thenOf:Stmt→List Stmt
  | .If _ a _ _=>a
  | _=>[]
noncomputable def elseOf:Stmt→List Stmt
  | .If _ _ b _=>b
  | _=>[]
noncomputable def bodyOf:Stmt→List Stmt
  | .For _ _ b _ _=>b
  | .While _ b _ _=>b
  | _=>[]
noncomputable def testOf:Stmt→PySem.Expr
  | .If t _ _ _=>t
  | .While t _ _ _=>t
  | _=>.Constant .none 0 default
noncomputable def iterOf:Stmt→PySem.Expr
  | .For _ e _ _ _=>e
  | _=>.Constant .none 0 default
noncomputable def targetOf:Stmt→PySem.Expr
  | .For t _ _ _ _=>t
  | _=>.Constant .none 0 default
noncomputable def isIf:Stmt→Bool
  | .If ..=>true
  | _=>false
noncomputable def caEnd (σ:Sto) (r:Fl × Loc × Sto):Option (D × Sto):=match r.1 with
  | .ret d=>(res r.2.2 σ.length resFuel d).bind fun d=>if ((r.2.2.take σ.length).all fun l=>l.all (locFree resFuel)) then some (d,r.2.2.take σ.length) else Option.none
  | _=>Option.none
noncomputable def noE:PySem.Expr:=.Constant .none 0 default
noncomputable def isC:PySem.Expr→Bool
  | .Call ..=>true
  | _=>false
noncomputable def callF:PySem.Expr→PySem.Expr
  | .Call f _ _ _=>f
  | _=>noE
noncomputable def methA:PySem.Expr→List PySem.Expr
  | .Call _ a _ _=>a
  | _=>[]
noncomputable def callK:PySem.Expr→List Keyword
  | .Call _ _ k _=>k
  | _=>[]
noncomputable def callP:PySem.Expr→Pos
  | .Call _ _ _ p=>p
  | _=>default
theorem q9v {e:PySem.Expr} (h:isC e=true):e=.Call (callF e) (methA e) (callK e) (callP e):=by
  induction e using PySem.Expr.casesOn<;>first | exact ff h | rfl
noncomputable def isAt:PySem.Expr→Bool
  | .Attribute ..=>true
  | _=>false
noncomputable def attO:PySem.Expr→PySem.Expr
  | .Attribute o _ _=>o
  | _=>noE
noncomputable def attM:PySem.Expr→Str
  | .Attribute _ m _=>m
  | _=>default
noncomputable def attP:PySem.Expr→Pos
  | .Attribute _ _ p=>p
  | _=>default
theorem k2m {e:PySem.Expr} (h:isAt e=true):e=.Attribute (attO e) (attM e) (attP e):=by
  induction e using PySem.Expr.casesOn<;>first | exact ff h | rfl
noncomputable def isN:PySem.Expr→Bool
  | .Name ..=>true
  | _=>false
noncomputable def nmX:PySem.Expr→Str
  | .Name x _=>x
  | _=>default
noncomputable def nmP:PySem.Expr→Pos
  | .Name _ p=>p
  | _=>default
theorem j1m {e:PySem.Expr} (h:isN e=true):e=.Name (nmX e) (nmP e):=by
  induction e using PySem.Expr.casesOn<;>first | exact ff h | rfl
noncomputable def isCm:PySem.Expr→Bool
  | .Compare ..=>true
  | _=>false
noncomputable def cmpL:PySem.Expr→PySem.Expr
  | .Compare l _ _ _=>l
  | _=>noE
noncomputable def cmpO:PySem.Expr→List CmpOp
  | .Compare _ o _ _=>o
  | _=>[]
noncomputable def cmpRs:PySem.Expr→List PySem.Expr
  | .Compare _ _ r _=>r
  | _=>[]
noncomputable def cmpP:PySem.Expr→Pos
  | .Compare _ _ _ p=>p
  | _=>default
theorem k2n {e:PySem.Expr} (h:isCm e=true):e=.Compare (cmpL e) (cmpO e) (cmpRs e) (cmpP e):=by
  induction e using PySem.Expr.casesOn<;>first | exact ff h | rfl
noncomputable def isBn:PySem.Expr→Bool
  | .BinOp ..=>true
  | _=>false
noncomputable def binL:PySem.Expr→PySem.Expr
  | .BinOp l _ _ _=>l
  | _=>noE
noncomputable def binO:PySem.Expr→Operator
  | .BinOp _ o _ _=>o
  | _=>.Add
noncomputable def binR:PySem.Expr→PySem.Expr
  | .BinOp _ _ r _=>r
  | _=>noE
noncomputable def binP:PySem.Expr→Pos
  | .BinOp _ _ _ p=>p
  | _=>default
theorem k2o {e:PySem.Expr} (h:isBn e=true):e=.BinOp (binL e) (binO e) (binR e) (binP e):=by
  induction e using PySem.Expr.casesOn<;>first | exact ff h | rfl
noncomputable def isSub:PySem.Expr→Bool
  | .Subscript ..=>true
  | _=>false
noncomputable def itemO:PySem.Expr→PySem.Expr
  | .Subscript o _ _=>o
  | _=>noE
noncomputable def itemI:PySem.Expr→PySem.Expr
  | .Subscript _ i _=>i
  | _=>noE
noncomputable def subP:PySem.Expr→Pos
  | .Subscript _ _ p=>p
  | _=>default
theorem z6s {e:PySem.Expr} (h:isSub e=true):e=.Subscript (itemO e) (itemI e) (subP e):=by
  induction e using PySem.Expr.casesOn<;>first | exact ff h | rfl
noncomputable def isSl:PySem.Expr→Bool
  | .Slice ..=>true
  | _=>false
noncomputable def slLo:PySem.Expr→Option PySem.Expr
  | .Slice lo _ _ _=>lo
  | _=>none
noncomputable def slHi:PySem.Expr→Option PySem.Expr
  | .Slice _ hi _ _=>hi
  | _=>none
noncomputable def slSt:PySem.Expr→Option PySem.Expr
  | .Slice _ _ st _=>st
  | _=>none
noncomputable def slP:PySem.Expr→Pos
  | .Slice _ _ _ p=>p
  | _=>default
theorem k2p {e:PySem.Expr} (h:isSl e=true):e=.Slice (slLo e) (slHi e) (slSt e) (slP e):=by
  induction e using PySem.Expr.casesOn<;>first | exact ff h | rfl
noncomputable def isTp:PySem.Expr→Bool
  | .Tuple ..=>true
  | _=>false
noncomputable def isLs:PySem.Expr→Bool
  | .List ..=>true
  | _=>false
noncomputable def eltsOf:PySem.Expr→List PySem.Expr
  | .Tuple es _ _=>es
  | .List es _=>es
  | _=>[]
noncomputable def tupK:PySem.Expr→Nat
  | .Tuple _ k _=>k
  | _=>0
noncomputable def tupP:PySem.Expr→Pos
  | .Tuple _ _ p=>p
  | .List _ p=>p
  | _=>default
theorem z0z {e:PySem.Expr} (h:isTp e=true):e=.Tuple (eltsOf e) (tupK e) (tupP e):=by
  induction e using PySem.Expr.casesOn<;>first | exact ff h | rfl
theorem k2q {e:PySem.Expr} (h:isLs e=true):e=.List (eltsOf e) (tupP e):=by
  induction e using PySem.Expr.casesOn<;>first | exact ff h | rfl
noncomputable def isXs:Stmt→Bool
  | .Expr ..=>true
  | _=>false
noncomputable def xsE:Stmt→PySem.Expr
  | .Expr e _=>e
  | _=>noE
noncomputable def stP:Stmt→Pos
  | .Expr _ p=>p
  | .Assign _ _ p=>p
  | .For _ _ _ _ p=>p
  | .If _ _ _ p=>p
  | .While _ _ _ p=>p
  | _=>default
theorem k2r {st:Stmt} (h:isXs st=true):st=.Expr (xsE st) (stP st):=by
  induction st using PySem.Stmt.casesOn<;>first | exact ff h | rfl
noncomputable def isAs:Stmt→Bool
  | .Assign ..=>true
  | _=>false
noncomputable def asTs:Stmt→List PySem.Expr
  | .Assign ts _ _=>ts
  | _=>[]
noncomputable def valOf:Stmt→PySem.Expr
  | .Assign _ e _=>e
  | _=>noE
theorem z5b {st:Stmt} (h:isAs st=true):st=.Assign (asTs st) (valOf st) (stP st):=by
  induction st using PySem.Stmt.casesOn<;>first | exact ff h | rfl
noncomputable def isFor:Stmt→Bool
  | .For ..=>true
  | _=>false
noncomputable def elsOf:Stmt→List Stmt
  | .For _ _ _ e _=>e
  | .While _ _ e _=>e
  | _=>[]
theorem j6k {st:Stmt} (h:isFor st=true):st=.For (targetOf st) (iterOf st) (bodyOf st) (elsOf st) (stP st):=by
  induction st using PySem.Stmt.casesOn<;>first | exact ff h | rfl
noncomputable def isWh:Stmt→Bool
  | .While ..=>true
  | _=>false
theorem k2s {st:Stmt} (h:isWh st=true):st=.While (testOf st) (bodyOf st) (elsOf st) (stP st):=by
  induction st using PySem.Stmt.casesOn<;>first | exact ff h | rfl
theorem k2t {st:Stmt} (h:isIf st=true):st=.If (testOf st) (thenOf st) (elseOf st) (stP st):=by
  induction st using PySem.Stmt.casesOn<;>first | exact ff h | rfl
noncomputable def one:List PySem.Expr→Bool
  | [_]=>true
  | _=>false
noncomputable def fst1 (l:List PySem.Expr):PySem.Expr:=l.getD 0 noE
theorem z3e {l:List PySem.Expr} (h:one l=true):l=[fst1 l]:=
  match l,h with
  | [_],_=>rfl
theorem an {a b:Bool} (h:(a&&b)=true):a=true∧b=true:=by
  induction a using q2i
  · exact ff h
  · exact ⟨rfl,h⟩
theorem v2v {α:Type} {l:List α} (h:l.isEmpty=true):l=[]:=List.isEmpty_iff.mp h
section
variable {G:Gl} {R:Rec} {c:Cx} {L L':Loc} {σ σ':Sto} {st:Stmt} {sts:List Stmt} {d:D}
theorem q0j:exs R c L σ []=some (.next,L,σ):=rfl
theorem q0c (h:R.ex c L σ st=some (.next,L',σ')):exs R c L σ (st::sts)=exs R c L' σ' sts:=bs h rfl
theorem q1r (h:R.ex c L σ st=some (.ret d,L',σ')):exs R c L σ (st::sts)=some (.ret d,L',σ'):=bs h rfl
theorem z5c (h:R.ex c L σ st=some (.brk,L',σ')):exs R c L σ (st::sts)=some (.brk,L',σ'):=bs h rfl
theorem q6x (h:R.ex c L σ st=some (.cont,L',σ')):exs R c L σ (st::sts)=some (.cont,L',σ'):=bs h rfl
theorem q1s {v:Bool} (hi:isIf st=true) (h:R.ts c L σ (testOf st)=some (v,σ')):exStep G R c L σ st=exs R c L σ' (if v then thenOf st else elseOf st):=
  (congrArg (exStep G R c L σ) (k2t hi)).trans (bs h rfl)
theorem q1i {t:PySem.Expr} {body:List Stmt} {d:D} {ds:List D} {L1 L2:Loc} {σ2:Sto} (hg:give c.sc σ t d L=some L1) (hb:exs R c L1 σ body=some (.next,L2,σ2)):forItems R c t body L σ (d::ds)=forItems R c t body L2 σ2 ds:=bs hg (bs hb rfl)
theorem z6t {t:PySem.Expr} {body:List Stmt} {d:D} {ds:List D} {L1 L2:Loc} {σ2:Sto} (hg:give c.sc σ t d L=some L1) (hb:exs R c L1 σ body=some (.cont,L2,σ2)):forItems R c t body L σ (d::ds)=forItems R c t body L2 σ2 ds:=bs hg (bs hb rfl)
theorem j1n {t:PySem.Expr} {body:List Stmt} {d:D} {ds:List D} {L1 L2:Loc} {σ2:Sto} (hg:give c.sc σ t d L=some L1) (hb:exs R c L1 σ body=some (.brk,L2,σ2)):forItems R c t body L σ (d::ds)=some (.next,L2,σ2):=bs hg (bs hb rfl)
theorem z5d {t:PySem.Expr} {body:List Stmt} {d e:D} {ds:List D} {L1 L2:Loc} {σ2:Sto} (hg:give c.sc σ t d L=some L1) (hb:exs R c L1 σ body=some (.ret e,L2,σ2)):forItems R c t body L σ (d::ds)=some (.ret e,L2,σ2):=bs hg (bs hb rfl)
theorem k2u {t:PySem.Expr} {body:List Stmt}:forItems R c t body L σ []=some (.next,L,σ):=rfl
noncomputable def methO (e:PySem.Expr):PySem.Expr:=attO (callF e)
noncomputable def isMeth (m:String) (e:PySem.Expr):Bool:=
  isC e&&(isAt (callF e)&&((callK e).isEmpty&&(decide (attM (callF e)=Str.ofString m)&&baseOk (methO e) (attP (callF e)) (callP e) (methA e))))
theorem z1a {m:String} {e:PySem.Expr} (h:isMeth m e=true):e=.Call (.Attribute (methO e) (Str.ofString m) (attP (callF e))) (methA e) [] (callP e)∧baseOk (methO e) (attP (callF e)) (callP e) (methA e)=true:=by
  refine q0d fun hn=>?_
  obtain ⟨h1,h⟩:=an h
  obtain ⟨h2,h⟩:=an h
  obtain ⟨h3,h⟩:=an h
  obtain ⟨h4,h⟩:=an h
  refine hn ?_
  have hf:=k2m h2
  rw [of_decide_eq_true h4] at hf
  have he:=q9v h1
  rw [v2v h3] at he
  exact ⟨he.trans (congrArg (fun f=>PySem.Expr.Call f (methA e) [] (callP e)) hf),h⟩
theorem q8e {e:PySem.Expr} {m:String} {o:D} {ds:List D} {σ1 σ2:Sto} (hs:isMeth m e=true) (ho:R.ev c L σ (methO e)=some (o,σ1)) (he:evs R c L σ1 (methA e)=some (ds,σ2)) (hm:methodD σ2 o (Str.ofString m) ds=some d):evStep G R c L σ e=some (d,σ2):=
  (congrArg (evStep G R c L σ) (z1a hs).1).trans (it (z1a hs).2 (bs ho (bs he (by rw [hm];rfl))))
theorem z1b {e:PySem.Expr} {m:String} {o:D} {ds:List D} {σ1 σ2 σ3:Sto} (hs:isMeth m e=true) (heff:c.eff=true) (ho:R.ev c L σ (methO e)=some (o,σ1)) (he:evs R c L σ1 (methA e)=some (ds,σ2))
    (hn:methodD σ2 o (Str.ofString m) ds=none) (hm:turnD σ2 o (Str.ofString m) ds=some (d,σ3)):evStep G R c L σ e=some (d,σ3):=
  (congrArg (evStep G R c L σ) (z1a hs).1).trans (it (z1a hs).2 (bs ho (bs he (by rw [hn];exact it heff hm))))
theorem k2v (h1:isXs st=true) (h2:isC (xsE st)=true) (h:R.ev c L σ (xsE st)=some (.none,σ')):exStep G R c L σ st=some (.next,L,σ'):=
  (congrArg (exStep G R c L σ) (k2r h1)).trans ((congrArg (fun e=>exStep G R c L σ (.Expr e (stP st))) (q9v h2)).trans (bs ((congrArg (R.ev c L σ) (q9v h2)).symm.trans h) rfl))
noncomputable def isApp (st:Stmt):Bool:=isXs st&&(isMeth "append" (xsE st)&&one (methA (xsE st)))
noncomputable def appO (st:Stmt):PySem.Expr:=methO (xsE st)
noncomputable def appE (st:Stmt):PySem.Expr:=fst1 (methA (xsE st))
theorem j1o {σ:Sto} {o:D} {args:List D}:methodD σ o (Str.ofString "append") args=none:=by kernel_rfl
theorem j6l {k:Nat} {l:List D} (hl:σ[k]?=some l) (hn:l.length≤LIM):turnD σ (.loc k) (Str.ofString "append") [d]=some (.none,σ.set k (l++[d])):=bs hl ((if_pos hn).trans (if_pos rfl))
theorem q1z {n k:Nat} {l:List D} (hs:isApp st=true) (heff:c.eff=true) (ho:(recN G n).ev c L σ (appO st)=some (.loc k,σ)) (he:(recN G n).ev c L σ (appE st)=some (d,σ')) (hl:σ'[k]?=some l) (hn:l.length≤LIM) :
    (recN G (n+2)).ex c L σ st=some (.next,L,σ'.set k (l++[d])):=by
  refine k2v (an hs).1 (an (an (an hs).2).1).1 ?_
  refine z1b (an (an hs).2).1 heff ho ?_ j1o (j6l hl hn)
  rw [z3e (an (an hs).2).2]
  exact bs he rfl
theorem z6u:∀ (l:List (List Nat)),strsOfD (l.map .str)=some l
  | []=>rfl
  | x::l=>ms (z6u l)
theorem j1p {σ:Sto} {d:D} {l:List (List Nat)} (h:listD σ d=some (l.map .str)) (h1:l.flatten.length≤LIM) (h2:l.length≤LIM):methodD σ (.str []) (Str.ofString "join") [d]=some (.str l.flatten):=by
  have n1:¬ Str.ofString "join"=Str.ofString "split":=by decide +kernel
  refine (if_neg n1).trans ((if_pos rfl).trans ?_)
  show (listD σ d).bind _=_
  exact bs h (bs (z6u l) (if_pos (Bool.and_eq_true_iff.mpr ⟨decide_eq_true h1,decide_eq_true h2⟩)))
theorem z3f {σ:Sto} {l:List (List Nat)} (h1:l.flatten.length≤LIM) (h2:l.length≤LIM):methodD σ (.str []) (Str.ofString "join") [.list (l.map .str)]=some (.str l.flatten):=j1p rfl h1 h2
theorem j6m {σ:Sto} {k:Nat} {l:List (List Nat)} (h:σ[k]?=some (l.map .str)) (h1:l.flatten.length≤LIM) (h2:l.length≤LIM):methodD σ (.str []) (Str.ofString "join") [.loc k]=some (.str l.flatten):=j1p h h1 h2
noncomputable def isCall (G:Gl) (c:Cx) (f:String) (e:PySem.Expr):Bool:=
  isC e&&(isN (callF e)&&((callK e).isEmpty&&(!(methA e).isEmpty&&(decide (nmX (callF e)=Str.ofString f)&&(isGlobal c.sc (Str.ofString f)&&(lits (methA e)&&!G.gen (Str.ofString f)))))))
theorem k2w {f:String} {e:PySem.Expr} (h:isCall G c f e=true):e=.Call (.Name (Str.ofString f) (nmP (callF e))) (methA e) [] (callP e):=by
  refine q0d fun hn=>?_
  obtain ⟨h1,h⟩:=an h
  obtain ⟨h2,h⟩:=an h
  obtain ⟨h3,h⟩:=an h
  refine hn ?_
  have hf:=j1m h2
  rw [of_decide_eq_true (an (an h).2).1] at hf
  have he:=q9v h1
  rw [v2v h3] at he
  exact he.trans (congrArg (fun f=>PySem.Expr.Call f (methA e) [] (callP e)) hf)
theorem j6n {es:List PySem.Expr} {f:Str} {p q:Pos} {ds:List D} {r:Option (D × Sto)} (h0:(!es.isEmpty)=true) (h1:isGlobal c.sc f=true) (hL:Loc.find f L=none) (h2:lits es=true) (h3:(!G.gen f)=true) (he:evs R c L σ es=some (ds,σ')) (hr:callD G R σ' f ds=r):evStep G R c L σ (.Call (.Name f p) es [] q)=r:=
  it (by rw [h1,hL,h2,h0,h3];rfl) (bs he hr)
theorem q0l {e:PySem.Expr} {f:String} {ds:List D} {r:Option (D × Sto)} (hs:isCall G c f e=true) (hL:Loc.find (Str.ofString f) L=none) (he:evs R c L σ (methA e)=some (ds,σ')) (hr:callD G R σ' (Str.ofString f) ds=r):evStep G R c L σ e=r:=
  have h:=(an (an (an hs).2).2).2
  have k:=an (an (an h).2).2
  (congrArg (evStep G R c L σ) (k2w hs)).trans (j6n (an h).1 k.1 hL (an k.2).1 (an k.2).2 he hr)
noncomputable def cmpR (e:PySem.Expr):PySem.Expr:=fst1 (cmpRs e)
noncomputable def isCmp (op:CmpOp) (e:PySem.Expr):Bool:=isCm e&&(decide (cmpO e=[op])&&(one (cmpRs e)&&notSet (cmpR e)))
theorem k1f {op:CmpOp} {e:PySem.Expr} (h:isCmp op e=true):e=.Compare (cmpL e) [op] [cmpR e] (cmpP e):=by
  have he:=k2n (an h).1
  rw [z3e (an (an (an h).2).2).1,of_decide_eq_true (an (an h).2).1] at he
  exact he
theorem k1g {e:PySem.Expr} {op:CmpOp} {a b:D} {v:Bool} {σ1 σ2:Sto} (hs:isCmp op e=true) (h1:R.ev c L σ (cmpL e)=some (a,σ1)) (h2:R.ev c L σ1 (cmpR e)=some (b,σ2)) (h3:cmpD G.tab σ2 op a b=some v):compareE G R c L σ (cmpL e) [op] [cmpR e]=some (v,σ2):=
  it (an (an (an hs).2).2).2 (bs h1 (bs h2 (ms h3)))
theorem q1l {e:PySem.Expr} {op:CmpOp} {a b:D} {v:Bool} {σ1 σ2:Sto} (hs:isCmp op e=true) (h1:R.ev c L σ (cmpL e)=some (a,σ1)) (h2:R.ev c L σ1 (cmpR e)=some (b,σ2)) (h3:cmpD G.tab σ2 op a b=some v):tsStep G R c L σ e=some (v,σ2):=
  (congrArg (tsStep G R c L σ) (k1f hs)).trans (k1g hs h1 h2 h3)
theorem q4j {e:PySem.Expr} {op:CmpOp} {a b:D} {v:Bool} {σ1 σ2:Sto} (hs:isCmp op e=true) (h1:R.ev c L σ (cmpL e)=some (a,σ1)) (h2:R.ev c L σ1 (cmpR e)=some (b,σ2)) (h3:cmpD G.tab σ2 op a b=some v):evStep G R c L σ e=some (.bool v,σ2):=
  (congrArg (evStep G R c L σ) (k1f hs)).trans (ms (k1g hs h1 h2 h3))
theorem q6a {f:Str} {args:List D} (h1:G.fn f=none) (h2:G.prim f=none) (h3:builtinD σ f args=some d) (h4:lenOk d=true):callD G R σ f args=some (d,σ):=by
  unfold callD
  rw [h1]
  show (G.prim f).elim _ _=_
  rw [h2]
  exact bs h3 (if_pos h4)
theorem q0s {f:String} {args:List D} {σ1:Sto} (hf:(G.fn (Str.ofString f)).map (·.ref)=some none) (hl:args.all (locFree resFuel)=true) (hc:R.ca (Str.ofString f) args []=some (d,σ1)):callD G R σ (Str.ofString f) args=some (d,σ):=by
  refine q0a (Option.map_eq_some_iff.mp hf) ?_;intro fd h1 h2
  unfold callD
  rw [h1]
  exact (if_pos hl).trans (ms hc)
noncomputable def retE:Stmt→PySem.Expr
  | .Return (some e) _=>e
  | _=>noE
noncomputable def isAsg (x:String) (st:Stmt):Bool:=isAs st&&(one (asTs st)&&(isN (fst1 (asTs st))&&decide (nmX (fst1 (asTs st))=Str.ofString x)))
theorem k1h {x:String} (h:isAsg x st=true):st=.Assign [.Name (Str.ofString x) (nmP (fst1 (asTs st)))] (valOf st) (stP st):=by
  have hf:=j1m (an (an (an h).2).2).1
  rw [of_decide_eq_true (an (an (an h).2).2).2] at hf
  have he:=z5b (an h).1
  rw [z3e (an (an h).2).1] at he
  exact he.trans (congrArg (fun f=>Stmt.Assign [f] (valOf st) (stP st)) hf)
theorem z1c {x:Str} {e:PySem.Expr} (h:c.muts.contains x=false):owned c x e d σ=(d,σ):=by
  unfold owned;rw [h];rfl
theorem q0p {n:Nat} {x:String} (hs:isAsg x st=true) (hm:c.muts.contains (Str.ofString x)=false) (ho:ownName c.sc (Str.ofString x)=true) (he:(recN G n).ev c L σ (valOf st)=some (d,σ')) :
    (recN G (n+1)).ex c L σ st=some (.next,Loc.put (Str.ofString x) d L,σ'):=by
  refine (congrArg (exStep G (recN G n) c L σ) (k1h hs)).trans (bs he ?_)
  rw [z1c hm]
  exact ms (it ho rfl)
theorem j1q {σ:Sto} {o:D} {args:List D}:methodD σ o (Str.ofString "pop") args=none:=by kernel_rfl
theorem j1r:¬ Str.ofString "pop"=Str.ofString "append":=by decide +kernel
theorem j6o {k:Nat} {l:List D} {σ:Sto} {i:Nat} {d:D} (hl:σ[k]?=some l) (hd:l[i]?=some d) (hn:l.length≤LIM):turnD σ (.loc k) (Str.ofString "pop") [.int i]=some (d,σ.set k (l.eraseIdx i)):=by
  refine bs hl ((if_pos hn).trans ((if_neg j1r).trans ((if_pos rfl).trans ?_)))
  show (if 0≤(i:Int) then (l[i]?).map (fun d=>(d,σ.set k (l.eraseIdx i))) else none)=_
  exact (if_pos (Int.natCast_nonneg i)).trans (ms hd)
theorem z3g {k:Nat} {l:List D} {σ:Sto} {d:D} (hl:σ[k]?=some l) (hd:l.getLast?=some d) (hn:l.length≤LIM):turnD σ (.loc k) (Str.ofString "pop") []=some (d,σ.set k l.dropLast):=
  bs hl ((if_pos hn).trans ((if_neg j1r).trans ((if_pos rfl).trans (ms hd))))
noncomputable def isBin (op:Operator) (e:PySem.Expr):Bool:=isBn e&&decide (binO e=op)
theorem q0r {e:PySem.Expr} {op:Operator} {a b:D} {σ1 σ2:Sto} (hs:isBin op e=true) (hde:(c.deep&&c.eff)=false) (h1:R.ev c L σ (binL e)=some (a,σ1)) (h2:R.ev c L σ1 (binR e)=some (b,σ2)) (h3:binD σ2 op a b=some d):evStep G R c L σ e=some (d,σ2):=by
  have he:=k2o (an hs).1
  rw [of_decide_eq_true (an hs).2] at he
  exact (congrArg (evStep G R c L σ) he).trans (bs h1 (bs h2 (ms h3)))
noncomputable def isItem (e:PySem.Expr):Bool:=isSub e&&!isSl (itemI e)
theorem j6p {o i:PySem.Expr} {p:Pos} {a b:D} {σ1 σ2:Sto} (hs:isSl i=false) (h1:R.ev c L σ o=some (a,σ1)) (h2:R.ev c L σ1 i=some (b,σ2)) (h3:itemD G.tab σ2 a b=some d):evStep G R c L σ (.Subscript o i p)=some (d,σ2):=by
  refine Eq.trans ?_ (bs h1 (bs h2 (ms h3)):itemE G R c L σ o i=some (d,σ2))
  clear h1 h2 h3
  induction i using PySem.Expr.casesOn<;>first | rfl | exact tf hs
theorem q0z {e:PySem.Expr} {a b:D} {σ1 σ2:Sto} (hs:isItem e=true) (h1:R.ev c L σ (itemO e)=some (a,σ1)) (h2:R.ev c L σ1 (itemI e)=some (b,σ2)) (h3:itemD G.tab σ2 a b=some d):evStep G R c L σ e=some (d,σ2):=
  (congrArg (evStep G R c L σ) (z6s (an hs).1)).trans (j6p (Bool.not_eq_true' _ |>.mp (an hs).2) h1 h2 h3)
noncomputable def isCut (e:PySem.Expr):Bool:=isSub e&&(isSl (itemI e)&&(slSt (itemI e)).isNone)
noncomputable def cutLo (e:PySem.Expr):Option PySem.Expr:=slLo (itemI e)
noncomputable def cutHi (e:PySem.Expr):Option PySem.Expr:=slHi (itemI e)
theorem q5c {e:PySem.Expr} {a:D} {lo hi:Option Int} {σ1 σ2 σ3:Sto} (hs:isCut e=true) (h1:R.ev c L σ (itemO e)=some (a,σ1)) (h2:evOpt R c L σ1 (cutLo e)=some (lo,σ2)) (h3:evOpt R c L σ2 (cutHi e)=some (hi,σ3)) (h4:sliceD σ3 lo hi a=some d):evStep G R c L σ e=some (d,σ3):=by
  have he:=k2p (an (an hs).2).1
  rw [Option.isNone_iff_eq_none.mp (an (an hs).2).2] at he
  exact (congrArg (evStep G R c L σ) ((z6s (an hs).1).trans (congrArg (fun i=>PySem.Expr.Subscript (itemO e) i (subP e)) he))).trans (bs h1 (bs h2 (bs h3 (ms h4))))
theorem z6v {e:PySem.Expr} {es:List PySem.Expr} {a:D} {ds:List D} {σ1 σ2:Sto} (h1:R.ev c L σ e=some (a,σ1)) (h2:evs R c L σ1 es=some (ds,σ2)):evs R c L σ (e::es)=some (a::ds,σ2):=bs h1 (ms h2)
theorem q0e {e:PySem.Expr} {es:List PySem.Expr} {a:D} {ds:List D} (h1:R.ev c L σ e=some (a,σ)) (h2:evs R c L σ es=some (ds,σ)):evs R c L σ (e::es)=some (a::ds,σ):=z6v h1 h2
theorem q0o:evs R c L σ []=some ([],σ):=rfl
noncomputable def isTup (e:PySem.Expr):Bool:=isTp e&&lits (eltsOf e)
noncomputable def eltOf (e:PySem.Expr) (i:Nat):PySem.Expr:=(eltsOf e).getD i (.Constant .none 0 default)
theorem q3c {e:PySem.Expr} {ds:List D} (hs:isTup e=true) (h:evs R c L σ (eltsOf e)=some (ds,σ')):evStep G R c L σ e=some (.tup ds,σ'):=
  (congrArg (evStep G R c L σ) (z0z (an hs).1)).trans (it (an hs).2 (ms h))
noncomputable def isLst (e:PySem.Expr):Bool:=isLs e&&lits (eltsOf e)
theorem q9w {e:PySem.Expr} {ds:List D} (hs:isLst e=true) (hde:(c.deep&&c.eff)=false) (h:evs R c L σ (eltsOf e)=some (ds,σ')):evStep G R c L σ e=some (.list ds,σ'):=by
  exact (congrArg (evStep G R c L σ) (k2q (an hs).1)).trans (it (an hs).2 (ms h))
noncomputable def isRt:Stmt→Bool
  | .Return ..=>true
  | _=>false
noncomputable def retO:Stmt→Option PySem.Expr
  | .Return e _=>e
  | _=>none
noncomputable def retP:Stmt→Pos
  | .Return _ p=>p
  | _=>default
theorem k2x (h:isRt st=true):st=.Return (retO st) (retP st):=by
  induction st using PySem.Stmt.casesOn<;>first | exact ff h | rfl
noncomputable def isRet (st:Stmt):Bool:=isRt st&&(retO st).isSome
theorem v7p {o:Option PySem.Expr} {p:Pos} (hs:o.isSome=true) (h:R.ev c L σ (retE (.Return o p))=some (d,σ')):exStep G R c L σ (.Return o p)=some (.ret d,L,σ'):=by
  induction o using Mine.oC with
  | none=>exact ff hs
  | some e=>exact ms h
theorem z6w {n:Nat} (hs:isRet st=true) (h:(recN G n).ev c L σ (retE st)=some (d,σ')):(recN G (n+1)).ex c L σ st=some (.ret d,L,σ'):=by
  have e:=k2x (an hs).1
  rw [e] at h
  exact (congrArg (exStep G (recN G n) c L σ) e).trans (v7p (an hs).2 h)
noncomputable def isGen (G:Gl) (c:Cx) (L:Loc) (e:PySem.Expr):Bool:=isC e&&(isN (callF e)&&(G.gen (nmX (callF e))&&isGlobal c.sc (nmX (callF e))&&(Loc.find (nmX (callF e)) L).isNone))
noncomputable def isForSeq (G:Gl) (c:Cx) (L:Loc) (st:Stmt):Bool:=isFor st&&((elsOf st).isEmpty&&(notSet (iterOf st)&&!isGen G c L (iterOf st)))
noncomputable def forS (R:Rec) (c:Cx) (L:Loc) (t:PySem.Expr) (body:List Stmt) (a:Option (D × Sto)):Option (Fl × Loc × Sto):=a.bind fun r=>(freshSeq r.1).bind fun items=>if items.length≤LIM then forItems R c t body L r.2 items else Option.none
noncomputable def ForIs (G:Gl) (R:Rec) (c:Cx) (L:Loc) (σ:Sto) (t:PySem.Expr) (body:List Stmt) (p:Pos) (e:PySem.Expr):Prop:=isGen G c L e=false→notSet e=true→exStep G R c L σ (.For t e body [] p)=forS R c L t body (R.ev c L σ e)
theorem k8z {t:PySem.Expr} {body:List Stmt} {p:Pos}:∀ e,ForIs G R c L σ t body p e
  | .Call f args ks pc=>by
    induction f using PySem.Expr.casesOn<;>first | exact fun zz zz=>rfl | exact fun hg zz=>if_neg (fun h=>tf ((show (true&&(true&&_))=true from h).symm.trans hg))
  | .Set ..=>fun zz h=>ff h
  | .BoolOp .. | .NamedExpr .. | .BinOp .. | .UnaryOp .. | .Lambda .. | .IfExp .. | .Dict .. | .ListComp .. | .SetComp .. | .DictComp .. | .GeneratorExp .. | .Await .. | .Yield .. | .YieldFrom .. | .Compare .. | .FormattedValue .. | .JoinedStr .. | .Constant .. | .Attribute .. | .Subscript .. | .Starred .. | .Name .. | .List .. | .Tuple .. | .Slice ..=>fun zz zz=>rfl
theorem q8f {n:Nat} {items:List D} (hs:isForSeq G c L st=true) (h:(recN G n).ev c L σ (iterOf st)=some (d,σ')) (hi:freshSeq d=some items) (hl:items.length≤LIM) :
    (recN G (n+1)).ex c L σ st=forItems (recN G n) c (targetOf st) (bodyOf st) L σ' items:=by
  have hs2:=an (an hs).2
  have e:=j6k (an hs).1
  rw [v2v hs2.1] at e
  exact (congrArg (exStep G (recN G n) c L σ) e).trans ((k8z _ (Bool.not_eq_true' _ |>.mp (an hs2.2).2) (an hs2.2).1).trans (bs h (bs hi (if_pos hl))))
theorem q5d {i:Nat} (hi:i≤1000000):smallI (.int (i:Int))=true:=decide_eq_true (Nat.le_trans hi (by decide))
theorem k1i {len:Nat} {i:Nat} (h:i<len):indexOf len (i:Int)=some i:=(if_pos (Int.natCast_nonneg i)).trans (if_pos (Int.ofNat_lt.mpr h))
theorem z1d {l:List D} {i:Nat} (h:l[i]?=some d):((asInt (.int i)).bind fun i=>(indexOf l.length i).bind fun k=>l[k]?)=some d:=by
  show (indexOf l.length (i:Int)).bind (fun k=>l[k]?)=some d
  exact bs (k1i (List.getElem?_eq_some_iff.mp h).1) h
theorem q2h {tab:List (Str × Int)} {l:List D} {i:Nat} (h:l[i]?=some d) (hi:i≤1000000):itemD tab σ (.list l) (.int i)=some d:=
  (if_pos (q5d hi)).trans (z1d h)
theorem v2w {tab:List (Str × Int)} {l:List D} {i:Nat} (h:l[i]?=some d) (hi:i≤1000000):itemD tab σ (.tup l) (.int i)=some d:=
  (if_pos (q5d hi)).trans (z1d h)
theorem j6q {tab:List (Str × Int)} {l:List D} {k i:Nat} (hk:σ[k]?=some l) (h:l[i]?=some d) (hi:i≤1000000):itemD tab σ (.loc k) (.int i)=some d:=
  (if_pos (q5d hi)).trans (bs hk (z1d h))
end
theorem z3h (a b:String):(Str.ofString a=Str.ofString b)=(a=b):=by
  apply propext
  constructor
  · intro h
    rw [Str.ofString_eq_toList,Str.ofString_eq_toList] at h
    injection h with h
    have h2:a.toList.map Char.toNat=b.toList.map Char.toNat:=by
      have:=congrArg Array.toList h
      exact this
    have inj:∀ (x y:Char),x.toNat=y.toNat→x=y:=fun x y h=>Char.ext (UInt32.toNat_inj.mp h)
    have:a.toList=b.toList:=List.map_inj_right inj |>.mp h2
    exact String.toList_inj.mp this
  · intro h;rw [h]
theorem k8f {i:Nat} (h:i<1000000):smallI (.int (i:Int))=true:=by
  simp only [smallI,small,decide_eq_true_eq];exact Nat.le_trans (Nat.le_of_lt (by assumption)) (Nat.le_of_ble_eq_true rfl)
theorem v2x {σ:Sto} {a:Int} {b:Int} (h:(decide (b.natAbs≤2 ^ 24)&&b !=0)=true):binD σ .FloorDiv (.int a) (.int b)=some (.int (a.fdiv b)):=if_pos h
theorem z5e {σ:Sto} {a:Int} {b:Int} (h:(b !=0)=true):binD σ .Mod (.int a) (.int b)=some (.int (a.fmod b)):=if_pos h
theorem k2y {σ:Sto} {a b:Int}:binD σ .Add (.int a) (.int b)=some (.int (a+b)):=rfl
theorem v3r {σ:Sto} {a b:Int}:binD σ .Sub (.int a) (.int b)=some (.int (a - b)):=rfl
theorem q1n {σ:Sto} {a b:List Nat} (h:a.length+b.length≤LIM):binD σ .Add (.str a) (.str b)=some (.str (a++b)):=if_pos h
theorem z6x {σ:Sto} {a:List Nat} {m:Nat} (h:a.length*m≤LIM) (h2:m≤LIM):binD σ .Mult (.str a) (.int (m:Int))=some (.str (List.replicate m a).flatten):=
  if_pos (Bool.and_eq_true_iff.mpr ⟨Bool.and_eq_true_iff.mpr ⟨decide_eq_true (Int.natCast_nonneg m),decide_eq_true h⟩,decide_eq_true (Int.ofNat_le.mpr h2)⟩)
theorem j6r {σ:Sto} {a:List D} {m:Nat} (h:a.length*m≤LIM) (h2:m≤LIM):binD σ .Mult (.list a) (.int (m:Int))=some (.list (List.replicate m a).flatten):=
  if_pos (Bool.and_eq_true_iff.mpr ⟨Bool.and_eq_true_iff.mpr ⟨decide_eq_true (Int.natCast_nonneg m),decide_eq_true h⟩,decide_eq_true (Int.ofNat_le.mpr h2)⟩)
theorem q2e {σ:Sto} {a b:List D} (h:a.length+b.length≤LIM):binD σ .Add (.list a) (.list b)=some (.list (a++b)):=if_pos h
theorem z6y {σ:Sto} {a b:List D} {k:Nat} (hk:σ[k]?=some a) (h:a.length+b.length≤LIM):binD σ .Add (.loc k) (.list b)=some (.list (a++b)):=bs hk (if_pos h)
theorem q5e {tab:List (Str × Int)} {σ:Sto} {s:List Nat} {i c:Nat} (h:s[i]?=some c) (hi:i<1000000):itemD tab σ (.str s) (.int (i:Int))=some (.str [c]):=by
  refine (if_pos (q5d (Nat.le_of_lt hi))).trans ?_
  show (indexOf s.length (i:Int)).bind (fun k=>(s[k]?).map fun c=>D.str [c])=_
  exact bs (k1i (List.getElem?_eq_some_iff.mp h).1) (ms h)
end Mine
open PySem PySem.W PyProof.Rows
namespace Mine
mutual
noncomputable def stO:List Nat→List Nat
  | []=>[]
  | [c]=>if c=34 then stQ [] [34] else [c]
  | c::d::r=>if c=92 then 92::d::stO r else if c=34 then stQ (d::r) [34] else c::stO (d::r)
noncomputable def stQ:List Nat→List Nat→List Nat
  | [],q=>q
  | [c],q=>if c=34 then stO [] else q++[c]
  | c::d::r,q=>if c=92 then stQ r (q++[92,d]) else if c=34 then stO (d::r) else stQ (d::r) (q++[c])
end
theorem z3i {c d r q}:stQ (c::d::r) q=if c=92 then stQ r (q++[92,d]) else if c=34 then stO (d::r) else stQ (d::r) (q++[c]):=rfl
theorem j1s {q}:stQ [] q=q:=rfl
theorem j1t {c q}:stQ [c] q=if c=34 then [] else q++[c]:=rfl
theorem q9h {c d r}:stO (c::d::r)=if c=92 then 92::d::stO r else if c=34 then stQ (d::r) [34] else c::stO (d::r):=rfl
theorem z5f:stO []=[]:=rfl
theorem z5g {c}:stO [c]=if c=34 then [34] else [c]:=rfl
noncomputable def ck:List Nat→Int→Option Int
  | [],h=>some h
  | [c],h=>if c=40 then some (h+1) else if c=41 then (if h - 1<0 then none else some (h - 1)) else some h
  | c::d::r,h=>if c=92 then ck r h else if c=40 then ck (d::r) (h+1) else if c=41 then (if h - 1<0 then none else ck (d::r) (h - 1)) else ck (d::r) h
theorem w2q {c h}:ck [c] h=if c=40 then some (h+1) else if c=41 then (if h - 1<0 then none else some (h - 1)) else some h:=rfl
theorem v2y {c d r h}:ck (c::d::r) h=if c=92 then ck r h else if c=40 then ck (d::r) (h+1) else if c=41 then (if h - 1<0 then none else ck (d::r) (h - 1)) else ck (d::r) h:=rfl
noncomputable def stripLoop (x:List Nat):List (Nat × List Nat)→Nat→Option Nat→List (List Nat)→Nat × Option Nat × List (List Nat)
  | [],st,op,res=>(st,op,res)
  | (p,s)::r,st,none,res=>if s=[34] then stripLoop x r st (some p) res else stripLoop x r st none res
  | (p,s)::r,st,some o,res=>if s=[34] then stripLoop x r (p+1) none (if st=o then res else res++[(x.take o).drop st]) else stripLoop x r st (some o) res
theorem q1a {x st op res}:stripLoop x [] st op res=(st,op,res):=rfl
theorem q1b {x p s r st res}:stripLoop x ((p,s)::r) st none res=if s=[34] then stripLoop x r st (some p) res else stripLoop x r st none res:=rfl
theorem q1c {x p s r st o res}:stripLoop x ((p,s)::r) st (some o) res=if s=[34] then stripLoop x r (p+1) none (if st=o then res else res++[(x.take o).drop st]) else stripLoop x r st (some o) res:=rfl
noncomputable def stripEnd (x:List Nat) (r:Nat × Option Nat × List (List Nat)):List (List Nat):=if r.1<x.length then r.2.2++[x.drop r.1] else r.2.2
theorem k9a {c d:Nat} {r:List Nat} (h1:c≠92) (h2:c≠34):stO (c::d::r)=c::stO (d::r):=by rw [q9h,if_neg h1,if_neg h2]
theorem q1t {c:Nat} {r:List Nat} (h1:c≠92) (h2:c≠34):stO (c::r)=c::stO r:=by
  induction r using q1h with
  | nil=>simp [z5f,z5g,q9h,h2]
  | cons d r=>exact k9a h1 h2
theorem z1e {d:Nat} {r:List Nat}:stO (92::d::r)=92::d::stO r:=by rw [q9h,if_pos rfl]
theorem v3s:stO [92]=[92]:=rfl
theorem j6s {r:List Nat}:stO (34::r)=stQ r [34]:=by
  induction r using q1h with
  | nil=>rfl
  | cons d r=>rw [q9h,if_neg (by decide),if_pos rfl]
theorem q6y {c:Nat} {r q:List Nat} (h1:c≠92) (h2:c≠34):stQ (c::r) q=stQ r (q++[c]):=by
  induction r using q1h with
  | nil=>simp [j1s,j1t,z3i,h2]
  | cons d r=>rw [z3i,if_neg h1,if_neg h2]
theorem z1f {d:Nat} {r q:List Nat}:stQ (92::d::r) q=stQ r (q++[92,d]):=by rw [z3i,if_pos rfl]
theorem v3t {q:List Nat}:stQ [92] q=q++[92]:=rfl
theorem j1u {r q:List Nat}:stQ (34::r) q=stO r:=by
  induction r using q1h with
  | nil=>rfl
  | cons d r=>rw [z3i,if_neg (by decide),if_pos rfl]
theorem k2z {p:Nat}:escaped p false [92]=[(p,[92])]:=rfl
theorem z5h {p c:Nat} {r:List Nat}:escaped p false (92::c::r)=(p+1,[92,c])::escaped (p+2) false r:=rfl
theorem z1g {x pre rest:List Nat} {st:Nat} (hx:x=pre++rest) (h:st≤pre.length):(x.take pre.length).drop st=pre.drop st:=by rw [hx,List.take_left]
theorem q5f {pre s:List Nat} {st:Nat} (h:st≤pre.length):(pre++s).drop st=pre.drop st++s:=List.drop_append_of_le_length h
noncomputable def stOk (k st:Nat):Option Nat→Prop
  | none=>st≤k
  | some o=>st≤o∧o≤k
noncomputable def outAt (x pre rest:List Nat) (st:Nat):Option Nat→List Nat
  | none=>pre.drop st++stO rest
  | some o=>(x.take o).drop st++stQ rest (pre.drop o)
set_option tactic.hygienic true in
theorem z8s (x:List Nat):∀ (n:Nat) (rest pre:List Nat) (st:Nat) (op:Option Nat) (res:List (List Nat)),rest.length≤n→x=pre++rest→stOk pre.length st op→
    (stripEnd x (stripLoop x (escaped pre.length false rest) st op res)).flatten=res.flatten++outAt x pre rest st op:=by
  have fin:∀ (pre:List Nat) (st:Nat) (op:Option Nat) (res:List (List Nat)),x=pre→stOk pre.length st op→
      (stripEnd x (st,op,res)).flatten=res.flatten++outAt x pre [] st op:=by
    intro pre st op res hx h
    have h0:(stripEnd x (st,op,res)).flatten=res.flatten++x.drop st:=by
      unfold stripEnd
      split
      · simp
      · rename_i hlt
        rw [List.drop_of_length_le (by dsimp only  at hlt;omega)];simp
    rw [h0]
    induction op using Mine.oC with
    | none=>rw [hx];simp [outAt,z5f,z5g,q9h]
    | some o=>
      dsimp only [outAt,j1s,j1t,z3i]
      congr 1
      rw [← hx]
      have:x.drop st=(x.take o++x.drop o).drop st:=by rw [List.take_append_drop]
      rw [this,q5f (by rw [List.length_take];have:=h.1;have:=h.2;rw [← hx] at this;omega)]
  intro n
  induction n with
  | zero=>
    intro rest pre st op res hn hx h
    have:rest=[]:=List.length_eq_zero_iff.mp (by omega)
    subst this
    rw [List.append_nil] at hx
    have:=fin pre st op res hx h
    exact this
  | succ n ih=>
    intro rest pre st op res hn hx h
    have pass:∀ (u r:List Nat) (p:Nat),rest=u++r→u≠[]→u≠[34]→escaped pre.length false rest=(p,u)::escaped (pre.length+u.length) false r→
        (stO rest=u++stO r)→(∀ q,stQ rest q=stQ r (q++u))→
        (stripEnd x (stripLoop x (escaped pre.length false rest) st op res)).flatten=res.flatten++outAt x pre rest st op:=by
      intro u r p hu hne h34 he hO hQ
      have hlen:0<u.length:=List.length_pos_iff.mpr hne
      have hr:r.length≤n:=by rw [hu,List.length_append] at hn;omega
      have hx':x=(pre++u)++r:=by rw [hx,hu,List.append_assoc]
      rw [he]
      have hl':(pre++u).length=pre.length+u.length:=List.length_append
      induction op using Mine.oC with
      | none=>
        have:=ih r (pre++u) st none res hr hx' (by dsimp only [stOk] at h ⊢;omega)
        rw [hl'] at this
        simp only [q1a,q1b,q1c,h34,if_false]
        rw [this]
        dsimp only [outAt]
        rw [hO,q5f h,List.append_assoc]
      | some o=>
        have:=ih r (pre++u) st (some o) res hr hx' (by dsimp only [stOk] at h ⊢;omega)
        rw [hl'] at this
        simp only [q1a,q1b,q1c,h34,if_false]
        rw [this]
        dsimp only [outAt]
        rw [hQ,q5f h.2]
    induction rest using q1h with
    | nil=>
      rw [List.append_nil] at hx
      have:=fin pre st op res hx h
      exact this
    | cons c r=>
      by_cases h92:c=92
      · subst h92
        induction r using q1h with
        | nil=>exact pass [92] [] pre.length rfl (by simp) (by simp) rfl (rfl) (fun q=>rfl)
        | cons d r=>exact pass [92,d] r (pre.length+1) rfl (by simp) (by simp) rfl z1e (fun q=>z1f)
      · by_cases h34:c=34
        · subst h34
          have he:escaped pre.length false (34::r)=(pre.length,[34])::escaped (pre.length+1) false r:=rfl
          have hr:r.length≤n:=by dsimp only [List.length_cons] at hn;omega
          have hx':x=(pre++[34])++r:=by rw [hx];simp
          have hl':(pre++[34]).length=pre.length+1:=by simp
          rw [he]
          induction op using Mine.oC with
          | none=>
            have:=ih r (pre++[34]) st (some pre.length) res hr hx' ⟨h,by simp⟩
            rw [hl'] at this
            simp only [q1a,q1b,q1c,if_true]
            rw [this]
            dsimp only [outAt]
            rw [j6s]
            rw [z1g hx h,q5f (Nat.le_refl _),List.drop_length,List.nil_append]
          | some o=>
            have:=ih r (pre++[34]) (pre.length+1) none (if st=o then res else res++[(x.take o).drop st]) hr hx' (by simp [stOk])
            rw [hl'] at this
            simp only [q1a,q1b,q1c,if_true]
            rw [this]
            dsimp only [outAt]
            rw [j1u]
            have e1:(pre++[34]).drop (pre.length+1)=[]:=List.drop_of_length_le (by simp)
            rw [e1]
            split
            · rename_i heq
              apply q1w heq
              have:(x.take st).drop st=[]:=List.drop_of_length_le (by rw [List.length_take];omega)
              rw [this]
            · simp
        · exact pass [c] r pre.length rfl (by simp) (by simpa using h34) (by rw [q3m,if_neg h92];rfl) (q1t h92 h34) (fun q=>q6y h92 h34)
theorem q3s (x:List Nat):∀ (items:List (Nat × List Nat)) (st:Nat) (op:Option Nat) (res:List (List Nat)),(stripLoop x items st op res).2.2.length≤res.length+items.length
  | [],st,op,res=>by simp [q1a,q1b,q1c]
  | (p,s)::r,st,none,res=>by
    dsimp only [q1a,q1b,q1c]
    split
    · have:=q3s x r st (some p) res;dsimp only [List.length_cons];omega
    · have:=q3s x r st none res;dsimp only [List.length_cons];omega
  | (p,s)::r,st,some o,res=>by
    dsimp only [q1a,q1b,q1c]
    split
    · have:=q3s x r (p+1) none (if st=o then res else res++[(x.take o).drop st])
      have h2:(if st=o then res else res++[(x.take o).drop st]).length≤res.length+1:=by split<;>simp
      dsimp only [List.length_cons];omega
    · have:=q3s x r st (some o) res;dsimp only [List.length_cons];omega
theorem q2p:∀ (cs:List Nat) (p:Nat) (e:Bool),(escaped p e cs).length≤cs.length+1
  | [],p,e=>by induction e using q2i<;>simp [q7m,q7n,q3m]
  | c::cs,p,true=>by dsimp only [q7m,q7n,q3m,List.length_cons];have:=q2p cs (p+1) false;omega
  | c::cs,p,false=>by
    dsimp only [q7m,q7n,q3m]
    split
    · have:=q2p cs (p+1) true;dsimp only [List.length_cons];omega
    · have:=q2p cs (p+1) false;dsimp only [List.length_cons];omega
theorem k9b:∀ (n:Nat) (x:List Nat),x.length≤n→(stO x).length≤x.length∧∀ q,(stQ x q).length≤x.length+q.length:=by
  intro n
  induction n with
  | zero=>intro x hx;have:x=[]:=List.length_eq_zero_iff.mp (by omega);subst this;simp [z5f,z5g,q9h,j1s,j1t,z3i]
  | succ n ih=>
    intro x hx
    induction x using q1h with
    | nil=>simp [z5f,z5g,q9h,j1s,j1t,z3i]
    | cons c r=>
      dsimp only [List.length_cons] at hx
      by_cases h92:c=92
      · subst h92
        induction r using q1h with
        | nil=>exact ⟨Nat.le_refl _,fun q=>by simp [j1s,j1t,z3i];omega⟩
        | cons d r=>
          dsimp only [List.length_cons] at hx
          obtain ⟨h1,h2⟩:=ih r (by omega)
          rw [z1e]
          refine ⟨by dsimp only [List.length_cons];omega,fun q=>?_⟩
          rw [z1f]
          have:=h2 (q++[92,d])
          simp only [List.length_append,List.length_cons,List.length_nil] at this ⊢
          omega
      · obtain ⟨h1,h2⟩:=ih r (by omega)
        by_cases h34:c=34
        · subst h34
          rw [j6s]
          refine ⟨by have:=h2 [34];assumption,fun q=>?_⟩
          rw [j1u];dsimp only [List.length_cons];omega
        · rw [q1t h92 h34]
          refine ⟨by dsimp only [List.length_cons];omega,fun q=>?_⟩
          rw [q6y h92 h34]
          have:=h2 (q++[c])
          simp only [List.length_append,List.length_cons,List.length_nil] at this ⊢
          omega
theorem k3a (x:List Nat):(stO x).length≤x.length:=(k9b x.length x (Nat.le_refl _)).1
theorem j1v:∀ (n:Nat) (x:List Nat),x.length≤n→x.contains 34=false→stO x=x:=by
  intro n
  induction n with
  | zero=>intro x hx _;have:x=[]:=List.length_eq_zero_iff.mp (by omega);apply q0g this;rfl
  | succ n ih=>
    intro x hx h
    induction x using q1h with
    | nil=>rfl
    | cons c r=>
      dsimp only [List.length_cons] at hx
      simp only [List.contains_cons,Bool.or_eq_false_iff,beq_eq_false_iff_ne] at h
      by_cases h92:c=92
      · subst h92
        induction r using q1h with
        | nil=>rfl
        | cons d r=>
          dsimp only [List.length_cons] at hx
          simp only [List.contains_cons,Bool.or_eq_false_iff] at h
          rw [z1e,ih r (by omega) h.2.2]
      · rw [q1t h92 (Ne.symm h.1),ih r (by omega) h.2]
theorem z3j {α:Type} (x:List α) (b:Nat):x.take (clipAt x.length (b:Int))=x.take b:=by
  rw [clipAt_nat]
  rcases Nat.le_total b x.length with h | h
  · rw [Nat.min_eq_left h]
  · rw [Nat.min_eq_right h,List.take_length,List.take_of_length_le h]
theorem j1w {α:Type} (x:List α) (b:Nat):cutL x none (some (b:Int))=x.take b:=z3j x b
theorem j6t {α:Type} (x:List α) (a b:Nat):cutL x (some (a:Int)) (some (b:Int))=(x.take b).drop a:=by
  show (x.take (clipAt x.length (b:Int))).drop (clipAt x.length (a:Int))=_
  rw [z3j,clipAt_nat]
  rcases Nat.le_total a x.length with h | h
  · rw [Nat.min_eq_left h]
  · rw [Nat.min_eq_right h,List.drop_of_length_le (by rw [List.length_take];exact Nat.min_le_right ..),List.drop_of_length_le (by rw [List.length_take];exact Nat.le_trans (Nat.min_le_right ..) h)]
theorem z3k {α:Type} (x:List α) (a:Nat):cutL x (some (a:Int)) none=x.drop a:=by
  show (x.take x.length).drop (clipAt x.length (a:Int))=_
  rw [List.take_length,clipAt_nat]
  rcases Nat.le_total a x.length with h | h
  · rw [Nat.min_eq_left h]
  · rw [Nat.min_eq_right h,List.drop_length,List.drop_of_length_le h]
noncomputable def ckItems:List (Nat × List Nat)→Int→Option Int
  | [],h=>some h
  | (_,s)::r,h=>if s=[40] then ckItems r (h+1) else if s=[41] then (if h - 1<0 then none else ckItems r (h - 1)) else ckItems r h
theorem j6u {c:Nat} {r:List Nat} {h:Int} (h1:c≠92) (h2:c≠40) (h3:c≠41):ck (c::r) h=ck r h:=by
  induction r using q1h with
  | nil=>exact (if_neg h2).trans (if_neg h3)
  | cons d r=>rw [v2y,if_neg h1,if_neg h2,if_neg h3]
theorem k9c {d:Nat} {r:List Nat} {h:Int}:ck (92::d::r) h=ck r h:=by rw [v2y,if_pos rfl]
theorem v6q {h:Int}:ck [92] h=some h:=rfl
theorem j1x {r:List Nat} {h:Int}:ck (40::r) h=ck r (h+1):=by
  induction r using q1h with
  | nil=>rfl
  | cons d r=>rw [v2y,if_neg (by decide),if_pos rfl]
theorem z6z {r:List Nat} {h:Int}:ck (41::r) h=if h - 1<0 then none else ck r (h - 1):=by
  induction r using q1h with
  | nil=>rfl
  | cons d r=>rw [v2y,if_neg (by decide),if_neg (by decide),if_pos rfl]
theorem j6v:∀ (n:Nat) (y:List Nat) (p:Nat) (h:Int),y.length≤n→ckItems (escaped p false y) h=ck y h:=by
  intro n
  induction n with
  | zero=>intro y p h hy;have:y=[]:=List.length_eq_zero_iff.mp (by omega);apply q0g this;rfl
  | succ n ih=>
    intro y p h hy
    induction y using q1h with
    | nil=>rfl
    | cons c r=>
      dsimp only [List.length_cons] at hy
      by_cases h92:c=92
      · subst h92
        induction r using q1h with
        | nil=>rfl
        | cons d r=>
          dsimp only [List.length_cons] at hy
          rw [k9c,z5h]
          dsimp only [ckItems]
          rw [if_neg (by simp),if_neg (by simp),ih r _ h (by omega)]
      · have he:escaped p false (c::r)=(p,[c])::escaped (p+1) false r:=by rw [q3m,if_neg h92]
        rw [he]
        dsimp only [ckItems]
        by_cases h40:c=40
        · subst h40;rw [if_pos rfl,j1x,ih r _ _ (by omega)]
        · rw [if_neg (by simpa using h40)]
          by_cases h41:c=41
          · apply q0g h41
            rw [if_pos rfl,z6z]
            split
            · rfl
            · exact ih r _ _ (by omega)
          · rw [if_neg (by simpa using h41),j6u h92 h40 h41,ih r _ _ (by omega)]
noncomputable def checkS (x:List Nat):Bool:=ck (stO x) 0==some 0
end Mine
open PySem PySem.W PyProof.Rows
namespace Mine
open PySem PySem.W PySem.Calls PyProof.Rows
noncomputable def compE:PySem.Expr→PySem.Expr
  | .ListComp e _ _ _=>e
  | _=>noE
noncomputable def compG:PySem.Expr→Comprehension
  | .ListComp _ (g::_) _ _=>g
  | _=>⟨noE,noE,[],0⟩
noncomputable def compSc:PySem.Expr→Scope
  | .ListComp _ _ sc _=>sc
  | _=>default
noncomputable def isComp (c:Cx) (L:Loc):PySem.Expr→Bool
  | .ListComp _ [g] sc _=>decide (g.is_async=0)&&notSet g.iter&&compOk c.sc sc&&freshT g.target (Loc.keep sc L)
  | _=>false
noncomputable def cxC (c:Cx) (e:PySem.Expr):Cx:={ c with sc:=compSc e,eff:=false }
noncomputable def cxI (c:Cx):Cx:={ c with eff:=false }
section
variable {G:Gl} {R:Rec} {c:Cx} {L L':Loc} {σ σ':Sto} {d:D}
theorem j6w {el:PySem.Expr} {gs:List Comprehension} {sc:Scope} {p:Pos} {items l:List D} (hs:isComp c L (.ListComp el gs sc p)=true) (h1:R.ev (cxI c) L σ (compG (.ListComp el gs sc p)).iter=some (d,σ')) (h2:seqItems σ d=some items) (h3:items.length≤LIM)
    (h4:cpItems R (cxC c (.ListComp el gs sc p)) (Loc.keep sc L) σ (compG (.ListComp el gs sc p)) (fun L'=>(R.ev (cxC c (.ListComp el gs sc p)) L' σ el).map fun r=>[r.1]) items=some l) (h5:l.length≤LIM):evStep G R c L σ (.ListComp el gs sc p)=some (.list l,σ):=by
  induction gs using q1h with
  | nil=>exact ff hs
  | cons g gs=>
    induction gs using q1h with
    | cons _ _=>exact ff hs
    | nil=>exact it hs (bs h1 (bs h2 ((if_pos h3).trans (bs h4 (if_pos h5)))))
theorem q4k {e:PySem.Expr} {items l:List D} (hs:isComp c L e=true) (h1:R.ev (cxI c) L σ (compG e).iter=some (d,σ')) (h2:seqItems σ d=some items) (h3:items.length≤LIM)
    (h4:cpItems R (cxC c e) (Loc.keep (compSc e) L) σ (compG e) (fun L'=>(R.ev (cxC c e) L' σ (compE e)).map fun r=>[r.1]) items=some l) (h5:l.length≤LIM):evStep G R c L σ e=some (.list l,σ):=by
  revert hs h1 h4
  induction e using PySem.Expr.casesOn<;>first | exact fun hs zz zz=>ff hs | exact fun hs h1 h4=>j6w hs h1 h2 h3 h4 h5
theorem q6m {g:Comprehension} {more:Loc→Option (List D)} {α:Type} {it:α→D} {P:α→Bool} {f:α→D}:∀ (l:List α),
    (∀ a∈l,∃ L',give c.sc σ g.target (it a) L=some L'∧oks R c L' σ g.ifs=some (P a)∧(P a=true→more L'=some [f a]))→cpItems R c L σ g more (l.map it)=some ((l.filter P).map f)
  | [],_=>rfl
  | a::l,h=>by
    refine q6e (h a List.mem_cons_self) ?_;intro L' h1 h2 h3
    have ih:=q6m l fun b hb=>h b (List.mem_cons_of_mem _ hb)
    refine bs h1 (bs h2 ?_)
    induction hp:P a using q2i with
    | false=>exact bs rfl ((ms ih).trans (by simp [List.filter,hp]))
    | true=>exact bs (h3 hp) ((ms ih).trans (by simp [List.filter,hp]))
theorem v3u:oks R c L σ []=some true:=rfl
theorem z1h {t:PySem.Expr} {v:Bool} (h:R.ts c L σ t=some (v,σ')):oks R c L σ [t]=some v:=bs h (by induction v using q2i<;>rfl)
theorem q8g {e:PySem.Expr} (h:R.ev c L σ e=some (d,σ')):(R.ev c L σ e).map (fun r=>[r.1])=some [d]:=ms h
noncomputable def isWhile (st:Stmt):Bool:=isWh st&&(elsOf st).isEmpty
theorem j6x {n:Nat} {st:Stmt} (hs:isWhile st=true):(recN G (n+1)).ex c L σ st=whileN (recN G n) c (testOf st) (bodyOf st) LIM L σ:=by
  have e:=k2s (an hs).1
  rw [v2v (an hs).2] at e
  exact congrArg (exStep G (recN G n) c L σ) e
theorem z1i {t:PySem.Expr} {body:List Stmt} {m:Nat} {L2:Loc} {σ1 σ2:Sto} (h1:R.ts c L σ t=some (true,σ1)) (h2:exs R c L σ1 body=some (.next,L2,σ2)):whileN R c t body (m+1) L σ=whileN R c t body m L2 σ2:=bs h1 (bs h2 rfl)
theorem j1y {t:PySem.Expr} {body:List Stmt} {m:Nat} {σ1:Sto} (h1:R.ts c L σ t=some (false,σ1)):whileN R c t body (m+1) L σ=some (.next,L,σ1):=bs h1 rfl
theorem k1j {σ:Sto} {x:List Nat} {b:Nat} (hx:x.length≤LIM):sliceD σ none (some (b:Int)) (.str x)=some (.str (x.take b)):=by
  have h:((x.length:Int).toNat≤LIM):=hx
  refine (if_pos h).trans ?_
  show some (D.str (cutL x none (some (b:Int))))=_
  rw [j1w]
theorem z7a {e:PySem.Expr} {i:Int} (h:R.ev c L σ e=some (.int i,σ')):evOpt R c L σ (some e)=some (some i,σ'):=bs h rfl
theorem v2z:evOpt R c L σ none=some (none,σ):=rfl
noncomputable def theE:Option PySem.Expr→PySem.Expr
  | some e=>e
  | none=>noE
theorem z3l {f:Str} {args:List D} {g:List D→Option D} (h1:G.fn f=none) (h2:G.prim f=some g) (h3:g args=some d):callD G R σ f args=some (d,σ):=by
  unfold callD
  rw [h1]
  show (G.prim f).elim _ _=_
  rw [h2]
  exact ms h3
end
section
variable {G:Gl} {R:Rec} {c:Cx} {L L':Loc} {σ σ':Sto} {d:D}
noncomputable def isTA (st:Stmt):Bool:=isAs st&&(one (asTs st)&&(isTp (fst1 (asTs st))&&!isTp (valOf st)))
noncomputable def asgT (st:Stmt):PySem.Expr:=fst1 (asTs st)
noncomputable def TaIs (G:Gl) (R:Rec) (c:Cx) (L:Loc) (σ:Sto) (t:PySem.Expr) (p:Pos) (e:PySem.Expr):Prop:=isTp t=true→isTp e=false→exStep G R c L σ (.Assign [t] e p)=(R.ev c L σ e).bind fun r=>(give c.sc r.2 t r.1 L).map fun L=>(.next,L,r.2)
theorem v3v {xs:List PySem.Expr} {k:Nat} {q p:Pos}:∀ e,TaIs G R c L σ (.Tuple xs k q) p e
  | .Tuple ..=>fun zz h=>tf h
  | .BoolOp .. | .NamedExpr .. | .BinOp .. | .UnaryOp .. | .Lambda .. | .IfExp .. | .Dict .. | .Set .. | .ListComp .. | .SetComp .. | .DictComp .. | .GeneratorExp .. | .Await .. | .Yield .. | .YieldFrom .. | .Compare .. | .Call .. | .FormattedValue .. | .JoinedStr .. | .Constant .. | .Attribute .. | .Subscript .. | .Starred .. | .Name .. | .List .. | .Slice ..=>fun zz zz=>rfl
theorem k9d {n:Nat} {st:Stmt} (hs:isTA st=true) (he:(recN G n).ev c L σ (valOf st)=some (d,σ')) (hg:give c.sc σ' (asgT st) d L=some L'):(recN G (n+1)).ex c L σ st=some (.next,L',σ'):=by
  have h3:=an (an (an hs).2).2
  have e:=z5b (an hs).1
  have e1:asTs st=[asgT st]:=z3e (an (an hs).2).1
  have et:asgT st=.Tuple (eltsOf (asgT st)) (tupK (asgT st)) (tupP (asgT st)):=z0z h3.1
  rw [e1,et] at e
  rw [et] at hg
  exact (congrArg (exStep G (recN G n) c L σ) e).trans ((v3v _ rfl (Bool.not_eq_true' _ |>.mp h3.2)).trans (bs he (ms hg)))
noncomputable def isBo:PySem.Expr→Bool
  | .BoolOp ..=>true
  | _=>false
noncomputable def boolO:PySem.Expr→BoolOp
  | .BoolOp o _ _=>o
  | _=>.And
noncomputable def boolEs:PySem.Expr→List PySem.Expr
  | .BoolOp _ es _=>es
  | _=>[]
noncomputable def boolP:PySem.Expr→Pos
  | .BoolOp _ _ p=>p
  | _=>default
theorem z1j {e:PySem.Expr} (h:isBo e=true):e=.BoolOp (boolO e) (boolEs e) (boolP e):=by
  induction e using PySem.Expr.casesOn<;>first | exact ff h | rfl
noncomputable def isAnd (e:PySem.Expr):Bool:=isBo e&&decide (boolO e=.And)
theorem j1z {e:PySem.Expr} (hs:isAnd e=true):tsStep G R c L σ e=allT R c L .And σ (boolEs e):=by
  have he:=z1j (an hs).1
  rw [of_decide_eq_true (an hs).2] at he
  exact congrArg (tsStep G R c L σ) he
theorem q3t:allT R c L .And σ []=some (true,σ):=rfl
theorem q0q {e:PySem.Expr} {es:List PySem.Expr} {v:Bool} {w:Bool} (h:R.ts c L σ e=some (v,σ)) (h2:v=true→allT R c L .And σ es=some (w,σ)):allT R c L .And σ (e::es)=some (v&&w,σ):=by
  refine bs h ?_
  induction v using q2i with
  | false=>rfl
  | true=>exact h2 rfl
theorem z8t {n:Nat} (h:n≤LIM):builtinD σ (sO "range") [.int n]=some (.rng 0 n):=by
  have n1:¬ sO "range"=Str.ofString "len":=by decide +kernel
  have n2:¬ sO "range"=Str.ofString "ord":=by decide +kernel
  have n3:¬ sO "range"=Str.ofString "chr":=by decide +kernel
  have n4:sO "range"=Str.ofString "range":=rfl
  have hs:small (n:Int)=true:=by
    have:LIM=65536:=rfl
    simp only [small,decide_eq_true_eq]
    exact Nat.le_trans (by assumption) (Nat.le_of_ble_eq_true rfl)
  exact (if_neg n1).trans ((if_neg n2).trans ((if_neg n3).trans ((if_pos n4).trans (if_pos hs))))
theorem j2a {n:Nat} (h:n≤LIM):freshSeq (.rng 0 n)=some ((List.range n).map fun k:Nat=>D.int (k:Int)):=by
  have hs:small (n:Int)=true:=by
    have:LIM=65536:=rfl
    simp only [small,decide_eq_true_eq]
    exact Nat.le_trans (by assumption) (Nat.le_of_ble_eq_true rfl)
  have h0:small 0=true:=rfl
  simp only [freshSeq,h0,hs,Bool.and_self,if_true,intsD]
  have:((n:Int) - 0).toNat=n:=by omega
  simp
theorem z3m {l:List D} {x:Str} {e:PySem.Expr} (h:c.muts.contains x=true) (h2:isFresh e=true):owned c x e (.list l) σ=(.loc σ.length,σ++[l]):=by
  unfold owned;rw [h,h2];rfl
theorem v3w {e:PySem.Expr} (hs:isN e=true) (h:Loc.find (nmX e) L=some d):evStep G R c L σ e=some (d,σ):=by
  refine (congrArg (evStep G R c L σ) (j1m hs)).trans ?_
  show (Loc.find (nmX e) L).elim _ _=_
  rw [h];rfl
noncomputable abbrev tupE (e:PySem.Expr) (i:Nat):PySem.Expr:=(eltsOf e).getD i noE
theorem q9x {l:List D} {a:Nat} (hx:l.length≤LIM):sliceD σ (some (a:Int)) none (.list l)=some (.list (l.drop a)):=by
  have h:((l.length:Int).toNat≤LIM):=hx
  refine (if_pos h).trans ?_
  show some (D.list (cutL l (some (a:Int)) none))=_
  rw [z3k]
theorem z5i {e:PySem.Expr} {f:String} {v:Bool} (hs:isCall G c f e=true) (h:R.ev c L σ e=some (.bool v,σ')):tsStep G R c L σ e=some (v,σ'):=
  (congrArg (tsStep G R c L σ) (q9v (an hs).1)).trans (bs ((congrArg (R.ev c L σ) (q9v (an hs).1)).symm.trans h) rfl)
noncomputable def isOr (e:PySem.Expr):Bool:=isBo e&&decide (boolO e=.Or)
theorem j2b {e:PySem.Expr} (hs:isOr e=true):tsStep G R c L σ e=allT R c L .Or σ (boolEs e):=by
  have he:=z1j (an hs).1
  rw [of_decide_eq_true (an hs).2] at he
  exact congrArg (tsStep G R c L σ) he
theorem q9y:allT R c L .Or σ []=some (false,σ):=rfl
theorem q2a {e:PySem.Expr} {es:List PySem.Expr} {v:Bool} {w:Bool} (h:R.ts c L σ e=some (v,σ)) (h2:v=false→allT R c L .Or σ es=some (w,σ)):allT R c L .Or σ (e::es)=some (v||w,σ):=by
  refine bs h ?_
  induction v using q2i with
  | false=>exact h2 rfl
  | true=>rfl
noncomputable def isUn:PySem.Expr→Bool
  | .UnaryOp ..=>true
  | _=>false
noncomputable def unO:PySem.Expr→UnaryOp
  | .UnaryOp o _ _=>o
  | _=>.Not
noncomputable def notE:PySem.Expr→PySem.Expr
  | .UnaryOp _ e _=>e
  | _=>noE
noncomputable def unP:PySem.Expr→Pos
  | .UnaryOp _ _ p=>p
  | _=>default
theorem k3b {e:PySem.Expr} (h:isUn e=true):e=.UnaryOp (unO e) (notE e) (unP e):=by
  induction e using PySem.Expr.casesOn<;>first | exact ff h | rfl
noncomputable def isNot (e:PySem.Expr):Bool:=isUn e&&decide (unO e=.Not)
theorem k9e {e:PySem.Expr} {v:Bool} (hs:isNot e=true) (h:R.ts c L σ (notE e)=some (v,σ')):tsStep G R c L σ e=some (!v,σ'):=by
  have he:=k3b (an hs).1
  rw [of_decide_eq_true (an hs).2] at he
  exact (congrArg (tsStep G R c L σ) he).trans (ms h)
theorem q8h {l:List D} {b:Nat} (hx:l.length≤LIM):sliceD σ none (some (b:Int)) (.list l)=some (.list (l.take b)):=by
  have h:((l.length:Int).toNat≤LIM):=hx
  refine (if_pos h).trans ?_
  show some (D.list (cutL l none (some (b:Int))))=_
  rw [j1w]
theorem z3n {e:PySem.Expr} (hs:isAnd e=true):evStep G R c L σ e=allV R c L .And σ (boolEs e):=by
  have he:=z1j (an hs).1
  rw [of_decide_eq_true (an hs).2] at he
  exact congrArg (evStep G R c L σ) he
theorem v3x {e:PySem.Expr} (hs:isOr e=true):evStep G R c L σ e=allV R c L .Or σ (boolEs e):=by
  have he:=z1j (an hs).1
  rw [of_decide_eq_true (an hs).2] at he
  exact congrArg (evStep G R c L σ) he
theorem z1k {e e':PySem.Expr} {es:List PySem.Expr} {v w:Bool} (h:R.ev c L σ e=some (.bool v,σ)) (h2:v=false→allV R c L .Or σ (e'::es)=some (.bool w,σ)):allV R c L .Or σ (e::e'::es)=some (.bool (v||w),σ):=by
  refine bs h ?_
  induction v using q2i with
  | false=>exact h2 rfl
  | true=>rfl
theorem k3c {e:PySem.Expr}:allV R c L .Or σ [e]=R.ev c L σ e:=rfl
theorem q2q {e e':PySem.Expr} {es:List PySem.Expr} {v w:Bool} (h:R.ev c L σ e=some (.bool v,σ)) (h2:v=true→allV R c L .And σ (e'::es)=some (.bool w,σ)):allV R c L .And σ (e::e'::es)=some (.bool (v&&w),σ):=by
  refine bs h ?_
  induction v using q2i with
  | false=>rfl
  | true=>exact h2 rfl
theorem z1l {e:PySem.Expr}:allV R c L .And σ [e]=R.ev c L σ e:=rfl
theorem j6y {f:String} {args args':List D} {σ1:Sto} (hf:(G.fn (Str.ofString f)).map (·.ref)=some none) (hl:args.all (locFree resFuel)=false) (hr:resL (res σ 0 resFuel) args=some args') (hc:R.ca (Str.ofString f) args' []=some (d,σ1)) (hs:scalarD d=true):callD G R σ (Str.ofString f) args=some (d,σ):=by
  refine q0a (Option.map_eq_some_iff.mp hf) ?_;intro fd h1 h2
  unfold callD
  rw [h1]
  exact (if_neg (hl▸Bool.false_ne_true)).trans (bs hr (bs hc (if_pos hs)))
theorem z5j {m:Nat}:∀ (a b:List Int),a.length=b.length→eqL (eqD (m+1)) (a.map .int) (b.map .int)=some (a==b)
  | [],[],_=>rfl
  | x::a,y::b,h=>by
    have ih:=z5j (m:=m) a b (by simpa using h)
    exact (ms ih).trans (congrArg some (List.cons_beq_cons ..).symm)
theorem j2c {m:Nat} (a:List Int):eqL (eqD (m+1)) (a.map .int) (a.map .int)=some true:=by
  rw [z5j a a rfl];simp
theorem q2m {σ:Sto} {tab:List (Str × Int)} {b:Bool}:cmpD tab σ .IsNot (.bool b) (.bool b)=some false:=by
  induction b using q2i<;>rfl
noncomputable def isIt:PySem.Expr→Bool
  | .IfExp ..=>true
  | _=>false
noncomputable def iteT:PySem.Expr→PySem.Expr
  | .IfExp t _ _ _=>t
  | _=>noE
noncomputable def iteA:PySem.Expr→PySem.Expr
  | .IfExp _ a _ _=>a
  | _=>noE
noncomputable def iteB:PySem.Expr→PySem.Expr
  | .IfExp _ _ b _=>b
  | _=>noE
noncomputable def iteP:PySem.Expr→Pos
  | .IfExp _ _ _ p=>p
  | _=>default
theorem j2d {e:PySem.Expr} (h:isIt e=true):e=.IfExp (iteT e) (iteA e) (iteB e) (iteP e):=by
  induction e using PySem.Expr.casesOn<;>first | exact ff h | rfl
noncomputable abbrev isIte:=isIt
theorem q5g {e:PySem.Expr} {v:Bool} (hs:isIt e=true) (h:R.ts c L σ (iteT e)=some (v,σ')):evStep G R c L σ e=if v then R.ev c L σ' (iteA e) else R.ev c L σ' (iteB e):=
  (congrArg (evStep G R c L σ) (j2d hs)).trans (bs h (by induction v using q2i<;>rfl))
theorem v6r {e:PySem.Expr} {v:Bool} (hs:isIt e=true) (h:R.ts c L σ (iteT e)=some (v,σ')):tsStep G R c L σ e=if v then R.ts c L σ' (iteA e) else R.ts c L σ' (iteB e):=
  (congrArg (tsStep G R c L σ) (j2d hs)).trans (bs h (by induction v using q2i<;>rfl))
end
end Mine
open PySem PySem.W PyProof.Rows
namespace Mine
structure q3d where
  h:Int
  l:Int
  r:Int
  num:Int
  w:List Nat
structure q0h where
  head:Int
  due:Int
  k:Nat
  sign:List Nat
  told:List Int
noncomputable def q3d.zero:q3d:=⟨0,0,0,0,[]⟩
noncomputable def ruleAt (rules:List q3d) (k:Nat):q3d:=rules.getD k q3d.zero
noncomputable def opening (rules:List q3d) (due:Int) (k:Nat):q0h:=⟨due,(ruleAt rules k).l,k,40::(ruleAt rules k).w,[]⟩
noncomputable def closing (rules:List q3d) (k:Nat):q0h:=⟨0,(ruleAt rules k).r,k,41::(ruleAt rules k).w,[]⟩
noncomputable def leafP (head:Int) (sign:List Nat) (told:List Int):q0h:=⟨head,0,3,sign,told⟩
noncomputable def isSym (x:Int):Prop:=x=256∨x=257
inductive q2r (rules:List q3d) (Leaf:Int→List Nat→List Int→Prop):List Nat→Int→List q0h→Bool→Prop
  | openIt {opened:List Nat} {due:Int} {k:Nat} {tail:List q0h} {f:Bool} (hk:k<3) (hd:(ruleAt rules k).h=due) (t:q2r rules Leaf (k::opened) (ruleAt rules k).l tail f):q2r rules Leaf opened due (opening rules due k::tail) f
  | endIt {due:Int} {s:List Nat} {t:List Int} (hl:Leaf due s t):q2r rules Leaf [] due [leafP due s t] false
  | closeIt {opened:List Nat} {due:Int} {k:Nat} {s:List Nat} {t:List Int} {tail:List q0h} {f:Bool} (hl:Leaf due s t) (hk:k<3) (r:q2r rules Leaf opened (ruleAt rules k).r tail f):q2r rules Leaf (k::opened) due (leafP due s t::closing rules k::tail) f
  | badLeaf {opened:List Nat} {due head:Int} {s:List Nat} {t:List Int} {tail:List q0h} (hl:Leaf head s t) (hne:head≠due):q2r rules Leaf opened due (leafP head s t::tail) true
  | badClose {opened:List Nat} {due:Int} {k k':Nat} {s:List Nat} {t:List Int} {tail:List q0h} (hl:Leaf due s t) (hk:k<3) (hk':k'<3) (hne:k≠k'):q2r rules Leaf (k::opened) due (leafP due s t::closing rules k'::tail) true
  | early {opened:List Nat} {due:Int} {k:Nat} {s:List Nat} {t:List Int} (hl:Leaf due s t):q2r rules Leaf (k::opened) due [leafP due s t] true
  | extra {due:Int} {k:Nat} {s:List Nat} {t:List Int} {tail:List q0h} (hl:Leaf due s t) (hk:k<3):q2r rules Leaf [] due (leafP due s t::closing rules k::tail) true
noncomputable def nb:Int→List q0h→Bool
  | d,[]=>d==0
  | d,p::r=>p.head==d&&nb p.due r
noncomputable def closedAt:Int→List q0h→Bool
  | h,[]=>h==0
  | h,p::r=>if p.k<3 then (if p.head>0 then closedAt (h+1) r else decide (0≤h - 1)&&closedAt (h - 1) r) else closedAt h r
theorem q1v {h}:closedAt h []=(h==0):=rfl
theorem q1q {h p r}:closedAt h (p::r)=if p.k<3 then (if p.head>0 then closedAt (h+1) r else decide (0≤h - 1)&&closedAt (h - 1) r) else closedAt h r:=rfl
noncomputable def mt:List Nat→List q0h→Bool
  | _,[]=>true
  | st,p::r=>if p.k<3 then (if p.head>0 then mt (p.k::st) r else match st with
      | k::st=>k==p.k&&mt st r
      | []=>true) else mt st r
theorem v7q {k st p r}:mt (k::st) (p::r)=if p.k<3 then (if p.head>0 then mt (p.k::k::st) r else k==p.k&&mt st r) else mt (k::st) r:=rfl
theorem v7r {p r}:mt [] (p::r)=if p.k<3 then (if p.head>0 then mt [p.k] r else true) else mt [] r:=rfl
noncomputable def pileOf (rules:List q3d):List Nat→List Int
  | []=>[0]
  | k::opened=>(ruleAt rules k).num::(ruleAt rules k).r::pileOf rules opened
theorem j6z {rules k o}:pileOf rules (k::o)=(ruleAt rules k).num::(ruleAt rules k).r::pileOf rules o:=rfl
noncomputable def dv (rules:List q3d):List Int→List q0h→Option (List Int)
  | pile,[]=>some pile
  | [],_::_=>none
  | top::pile,p::r=>
    if top=0∨(top<256∧(p.head≠0∨(ruleAt rules p.k).num≠top))∨(256≤top∧p.head≠top) then none
    else if p.k=3 then dv rules pile r
    else if p.head>0 then dv rules ((ruleAt rules p.k).l::(ruleAt rules p.k).num::(ruleAt rules p.k).r::pile) r
    else dv rules pile r
theorem v7s {rules t s p r}:dv rules (t::s) (p::r)=if t=0∨(t<256∧(p.head≠0∨(ruleAt rules p.k).num≠t))∨(256≤t∧p.head≠t) then none else if p.k=3 then dv rules s r else if p.head>0 then dv rules ((ruleAt rules p.k).l::(ruleAt rules p.k).num::(ruleAt rules p.k).r::s) r else dv rules s r:=rfl
structure z5k (rules:List q3d):Prop where
  sym:∀ k,k<3→isSym (ruleAt rules k).h∧isSym (ruleAt rules k).l∧isSym (ruleAt rules k).r
  num:∀ k,k<3→9≤(ruleAt rules k).num∧(ruleAt rules k).num≤54
  apart:∀ j k,j<3→k<3→(ruleAt rules j).num=(ruleAt rules k).num→j=k
section
variable {rules:List q3d} {Leaf:Int→List Nat→List Int→Prop}
theorem z8u (ok:z5k rules) (hLeaf:∀ h s t,Leaf h s t→isSym h):∀ {opened:List Nat} {due:Int} {row:List q0h} {f:Bool},q2r rules Leaf opened due row f→isSym due→(∀ k∈opened,k<3)→
    (if f then ∀ p,dv rules (due::pileOf rules opened) row=some p→p≠[0] else dv rules (due::pileOf rules opened) row=some [0])∧True:=by
  intro opened due row f g
  induction g with
  | @openIt opened due k tail f hk hd t ih=>
    intro hs ho
    refine q3k (ok.sym k hk) ?_;intro s1 s2 s3
    have:=(ih s2 (fun j hj=>by rcases List.mem_cons.mp hj with rfl | hj;exact hk;exact ho j hj)).1
    refine ⟨?_,trivial⟩
    have e:dv rules (due::pileOf rules opened) (opening rules due k::tail)=dv rules ((ruleAt rules k).l::pileOf rules (k::opened)) tail:=by
      have h1:¬ (due=0∨(due<256∧(due≠0∨(ruleAt rules k).num≠due))∨(256≤due∧due≠due)):=by
        rcases hs with rfl | rfl<;>simp
      have h2:¬ k=3:=by omega
      have h3:due>0:=by rcases hs with rfl | rfl<;>decide
      show (if due=0∨(due<256∧(due≠0∨(ruleAt rules k).num≠due))∨(256≤due∧due≠due) then none else if k=3 then _ else if due>0 then _ else _)=_
      rw [if_neg h1,if_neg h2,if_pos h3]
      rfl
    rw [e];exact this
  | @endIt due s t hl=>
    intro hs _
    refine ⟨?_,trivial⟩
    have h1:¬ (due=0∨(due<256∧(due≠0∨(ruleAt rules 3).num≠due))∨(256≤due∧due≠due)):=by rcases hs with rfl | rfl<;>simp
    show (if due=0∨(due<256∧(due≠0∨(ruleAt rules 3).num≠due))∨(256≤due∧due≠due) then none else if (3:Nat)=3 then _ else _)=_
    rw [if_neg h1];rfl
  | @closeIt opened due k s t tail f hl hk r ih=>
    intro hs ho
    refine q3k (ok.sym k hk) ?_;intro s1 s2 s3
    have:=(ih s3 (fun j hj=>ho j (List.mem_cons_of_mem _ hj))).1
    refine ⟨?_,trivial⟩
    have e:dv rules (due::pileOf rules (k::opened)) (leafP due s t::closing rules k::tail)=dv rules ((ruleAt rules k).r::pileOf rules opened) tail:=by
      have h1:¬ (due=0∨(due<256∧(due≠0∨(ruleAt rules 3).num≠due))∨(256≤due∧due≠due)):=by rcases hs with rfl | rfl<;>simp
      obtain ⟨n1,n2⟩:=ok.num k hk
      have h2:¬ ((ruleAt rules k).num=0∨((ruleAt rules k).num<256∧((0:Int)≠0∨(ruleAt rules k).num≠(ruleAt rules k).num))∨(256≤(ruleAt rules k).num∧(0:Int)≠(ruleAt rules k).num)):=by omega
      have h3:¬ k=3:=by omega
      show (if due=0∨(due<256∧(due≠0∨(ruleAt rules 3).num≠due))∨(256≤due∧due≠due) then none else if (3:Nat)=3 then (if (ruleAt rules k).num=0∨((ruleAt rules k).num<256∧((0:Int)≠0∨(ruleAt rules k).num≠(ruleAt rules k).num))∨(256≤(ruleAt rules k).num∧(0:Int)≠(ruleAt rules k).num) then none
          else if k=3 then _ else if (0:Int)>0 then _ else dv rules ((ruleAt rules k).r::pileOf rules opened) tail) else _)=_
      rw [if_neg h1,if_pos rfl,if_neg h2,if_neg h3,if_neg (by decide)]
    rw [e];exact this
  | @badLeaf opened due head s t tail hl hne=>
    intro hs _
    refine ⟨?_,trivial⟩
    have hh:=hLeaf _ _ _ hl
    have h1:(due=0∨(due<256∧(head≠0∨(ruleAt rules 3).num≠due))∨(256≤due∧head≠due)):=by
      rcases hs with rfl | rfl<;>simp [hne]
    have e:dv rules (due::pileOf rules opened) (leafP head s t::tail)=none:=by
      show (if due=0∨(due<256∧(head≠0∨(ruleAt rules 3).num≠due))∨(256≤due∧head≠due) then none else _)=_
      rw [if_pos h1]
    simp only [if_true,e]
    intro p hp;exact Mine.ns hp
  | @badClose opened due k k' s t tail hl hk hk' hne=>
    intro hs _
    refine ⟨?_,trivial⟩
    have h1:¬ (due=0∨(due<256∧(due≠0∨(ruleAt rules 3).num≠due))∨(256≤due∧due≠due)):=by rcases hs with rfl | rfl<;>simp
    obtain ⟨n1,n2⟩:=ok.num k hk
    have hn:(ruleAt rules k').num≠(ruleAt rules k).num:=fun h=>hne (ok.apart k k' hk hk' h.symm)
    have h2:(ruleAt rules k).num=0∨((ruleAt rules k).num<256∧((0:Int)≠0∨(ruleAt rules k').num≠(ruleAt rules k).num))∨(256≤(ruleAt rules k).num∧(0:Int)≠(ruleAt rules k).num):=Or.inr (Or.inl ⟨by omega,Or.inr hn⟩)
    have e:dv rules (due::pileOf rules (k::opened)) (leafP due s t::closing rules k'::tail)=none:=by
      show (if due=0∨(due<256∧(due≠0∨(ruleAt rules 3).num≠due))∨(256≤due∧due≠due) then none else if (3:Nat)=3 then (if (ruleAt rules k).num=0∨((ruleAt rules k).num<256∧((0:Int)≠0∨(ruleAt rules k').num≠(ruleAt rules k).num))∨(256≤(ruleAt rules k).num∧(0:Int)≠(ruleAt rules k).num) then none else _) else _)=_
      rw [if_neg h1,if_pos rfl,if_pos h2]
    simp only [if_true,e]
    intro p hp;exact Mine.ns hp
  | @early opened due k s t hl=>
    intro hs _
    refine ⟨?_,trivial⟩
    have h1:¬ (due=0∨(due<256∧(due≠0∨(ruleAt rules 3).num≠due))∨(256≤due∧due≠due)):=by rcases hs with rfl | rfl<;>simp
    have e:dv rules (due::pileOf rules (k::opened)) [leafP due s t]=some (pileOf rules (k::opened)):=by
      show (if due=0∨(due<256∧(due≠0∨(ruleAt rules 3).num≠due))∨(256≤due∧due≠due) then none else if (3:Nat)=3 then dv rules (pileOf rules (k::opened)) [] else _)=_
      rw [if_neg h1]
      rfl
    simp only [if_true,e]
    intro p hp
    apply q0w hp
    simp [j6z]
  | @extra due k s t tail hl hk=>
    intro hs _
    refine ⟨?_,trivial⟩
    have h1:¬ (due=0∨(due<256∧(due≠0∨(ruleAt rules 3).num≠due))∨(256≤due∧due≠due)):=by rcases hs with rfl | rfl<;>simp
    have e:dv rules (due::pileOf rules []) (leafP due s t::closing rules k::tail)=none:=by
      show (if due=0∨(due<256∧(due≠0∨(ruleAt rules 3).num≠due))∨(256≤due∧due≠due) then none else if (3:Nat)=3 then (if (0:Int)=0∨_ then none else _) else _)=_
      rw [if_neg h1,if_pos rfl,if_pos (Or.inl rfl)]
    simp only [if_true,e]
    intro p hp;exact Mine.ns hp
theorem j2e (ok:z5k rules) (hLeaf:∀ h s t,Leaf h s t→isSym h):∀ {opened:List Nat} {due:Int} {row:List q0h} {f:Bool},q2r rules Leaf opened due row f→isSym due→(∀ k∈opened,k<3)→
    (closedAt opened.length row&&mt opened row&&nb due row)=!f:=by
  intro opened due row f g
  induction g with
  | @openIt opened due k tail f hk hd t ih=>
    intro hs ho
    refine q3k (ok.sym k hk) ?_;intro s1 s2 s3
    have:=ih s2 (fun j hj=>by rcases List.mem_cons.mp hj with rfl | hj;exact hk;exact ho j hj)
    have h3:due>0:=by rcases hs with rfl | rfl<;>decide
    have e1:closedAt opened.length (opening rules due k::tail)=closedAt ((k::opened).length) tail:=by
      show (if k<3 then (if due>0 then closedAt ((opened.length:Int)+1) tail else _) else _)=_
      rw [if_pos hk,if_pos h3]
      rfl
    have e2:mt opened (opening rules due k::tail)=mt (k::opened) tail:=by
      show (if k<3 then (if due>0 then mt (k::opened) tail else _) else _)=_
      rw [if_pos hk,if_pos h3]
    have e3:nb due (opening rules due k::tail)=nb (ruleAt rules k).l tail:=by
      show (due==due&&nb (ruleAt rules k).l tail)=_
      simp
    rw [e1,e2,e3];exact this
  | @endIt due s t hl=>
    intro hs _
    show (((0:Int)==0)&&true&&(due==due&&((0:Int)==0)))=true
    simp
  | @closeIt opened due k s t tail f hl hk r ih=>
    intro hs ho
    refine q3k (ok.sym k hk) ?_;intro s1 s2 s3
    have:=ih s3 (fun j hj=>ho j (List.mem_cons_of_mem _ hj))
    have e1:closedAt (k::opened).length (leafP due s t::closing rules k::tail)=closedAt opened.length tail:=by
      show (if (3:Nat)<3 then _ else (if k<3 then (if (0:Int)>0 then _ else decide (0≤(((k::opened).length:Nat):Int) - 1)&&closedAt ((((k::opened).length:Nat):Int) - 1) tail) else _))=_
      rw [if_neg (by decide),if_pos hk]
      have:(((k::opened).length:Nat):Int) - 1=(opened.length:Int):=by simp
      rw [this]
      have h0:(0:Int)≤(opened.length:Int):=Int.natCast_nonneg _
      rfl
    have e2:mt (k::opened) (leafP due s t::closing rules k::tail)=mt opened tail:=by
      show (if (3:Nat)<3 then _ else (if k<3 then (if (0:Int)>0 then _ else k==k&&mt opened tail) else _))=_
      rw [if_neg (by decide),if_pos hk]
      simp
    have e3:nb due (leafP due s t::closing rules k::tail)=nb (ruleAt rules k).r tail:=by
      show (due==due&&((0:Int)==0&&nb (ruleAt rules k).r tail))=_
      simp
    rw [e1,e2,e3];exact this
  | @badLeaf opened due head s t tail hl hne=>
    intro hs _
    have e3:nb due (leafP head s t::tail)=false:=by
      show (head==due&&_)=false
      simp [hne]
    rw [e3];simp
  | @badClose opened due k k' s t tail hl hk hk' hne=>
    intro hs _
    have e2:mt (k::opened) (leafP due s t::closing rules k'::tail)=false:=by
      show (if (3:Nat)<3 then _ else (if k'<3 then (if (0:Int)>0 then _ else k==k'&&mt opened tail) else _))=_
      rw [if_neg (by decide),if_pos hk']
      simp [hne]
    rw [e2];simp
  | @early opened due k s t hl=>
    intro hs _
    have e1:closedAt (k::opened).length [leafP due s t]=false:=by
      show ((((k::opened).length:Nat):Int)==0)=false
      simp
      omega
    rfl
  | @extra due k s t tail hl hk=>
    intro hs _
    have e1:closedAt ([]:List Nat).length (leafP due s t::closing rules k::tail)=false:=by
      show (if (3:Nat)<3 then _ else (if k<3 then (if (0:Int)>0 then _ else decide (0≤(0:Int) - 1)&&_) else _))=_
      rw [if_neg (by decide),if_pos hk]
      rfl
    rw [e1];rfl
end
mutual
noncomputable def ntO:List Nat→Bool
  | []=>true
  | [c]=>if c=92 then false else if c=34 then false else true
  | c::d::r=>if c=92 then ntO r else if c=34 then ntQ (d::r) else ntO (d::r)
noncomputable def ntQ:List Nat→Bool
  | []=>false
  | [c]=>if c=92 then false else if c=34 then true else false
  | c::d::r=>if c=92 then ntQ r else if c=34 then ntO (d::r) else ntQ (d::r)
end
theorem k9f {c}:ntQ [c]=if c=92 then false else if c=34 then true else false:=rfl
theorem k3d {c d r}:ntQ (c::d::r)=if c=92 then ntQ r else if c=34 then ntO (d::r) else ntQ (d::r):=rfl
theorem k9g {c}:ntO [c]=if c=92 then false else if c=34 then false else true:=rfl
theorem k3e {c d r}:ntO (c::d::r)=if c=92 then ntO r else if c=34 then ntQ (d::r) else ntO (d::r):=rfl
noncomputable def quiet:List Nat→Bool
  | []=>true
  | [c]=>!(c=92||c=40||c=41)
  | c::d::r=>if c=92 then quiet r else !(c=40||c=41)&&quiet (d::r)
theorem j2f {c}:quiet [c]=!(c=92||c=40||c=41):=rfl
theorem j2g {c d r}:quiet (c::d::r)=if c=92 then quiet r else !(c=40||c=41)&&quiet (d::r):=rfl
theorem k9h:∀ (n:Nat) (a b:List Nat),a.length≤n→(ntO a=true→stO (a++b)=stO a++stO b)∧(∀ q,ntQ a=true→stQ (a++b) q=stQ a q++stO b):=by
  intro n
  induction n with
  | zero=>intro a b ha;have:a=[]:=List.length_eq_zero_iff.mp (by omega);apply q0g this;exact ⟨fun zz=>rfl,fun q h=>by exact Mine.ff h⟩
  | succ n ih=>
    intro a b ha
    induction a using q1h with
    | nil=>exact ⟨fun zz=>rfl,fun q h=>by exact Mine.ff h⟩
    | cons c r=>
      dsimp only [List.length_cons] at ha
      induction r using q1h with
      | nil=>
        refine ⟨fun h=>?_,fun q h=>?_⟩
        · by_cases h92:c=92
          · simp [k9g,k3e,h92] at h
          · by_cases h34:c=34
            · simp [k9g,k3e,h34] at h
            · rw [List.cons_append,q1t h92 h34,q1t h92 h34];rfl
        · by_cases h92:c=92
          · simp [k9f,k3d,h92] at h
          · by_cases h34:c=34
            · apply q0g h34
              rw [List.cons_append,j1u];rfl
            · simp [k9f,k3d,h92,h34] at h
      | cons d r=>
        dsimp only [List.length_cons] at ha
        by_cases h92:c=92
        · subst h92
          obtain ⟨i1,i2⟩:=ih r b (by omega)
          refine ⟨fun h=>?_,fun q h=>?_⟩
          · rw [List.cons_append,List.cons_append,z1e,i1 (h)];rfl
          · rw [List.cons_append,List.cons_append,z1f,z1f,i2 _ (h)]
        · obtain ⟨i1,i2⟩:=ih (d::r) b (by dsimp only [List.length_cons];omega)
          by_cases h34:c=34
          · apply q0g h34
            refine ⟨fun h=>?_,fun q h=>?_⟩
            · rw [List.cons_append,j6s,j6s,i2 _ (h)]
            · rw [List.cons_append,j1u,j1u,i1 (h)]
          · refine ⟨fun h=>?_,fun q h=>?_⟩
            · rw [List.cons_append,q1t h92 h34,q1t h92 h34,i1 (by rw [k3e,if_neg h92,if_neg h34] at h;exact h)];rfl
            · rw [List.cons_append,q6y h92 h34,q6y h92 h34,i2 _ (by rw [k3d,if_neg h92,if_neg h34] at h;exact h)]
theorem k3f {a b:List Nat} (h:ntO a=true):stO (a++b)=stO a++stO b:=(k9h a.length a b (Nat.le_refl _)).1 h
theorem j2h:∀ (n:Nat) (y b:List Nat) (h:Int),y.length≤n→quiet y=true→ck (y++b) h=ck b h:=by
  intro n
  induction n with
  | zero=>intro y b h hy _;have:y=[]:=List.length_eq_zero_iff.mp (by omega);apply q0g this;rfl
  | succ n ih=>
    intro y b h hy hq
    induction y using q1h with
    | nil=>rfl
    | cons c r=>
      dsimp only [List.length_cons] at hy
      induction r using q1h with
      | nil=>
        simp only [j2f,j2g,Bool.not_eq_true',Bool.or_eq_false_iff,decide_eq_false_iff_not] at hq
        rw [List.cons_append,List.nil_append,j6u hq.1.1 hq.1.2 hq.2]
      | cons d r=>
        dsimp only [List.length_cons] at hy
        by_cases h92:c=92
        · subst h92
          exact ih r b h (by omega) (hq)
        · have hq':quiet (c::d::r)=(!(c=40||c=41)&&quiet (d::r)):=by simp only [j2f,j2g,h92,if_false]
          rw [hq'] at hq
          simp only [Bool.and_eq_true,Bool.not_eq_true',Bool.or_eq_false_iff,decide_eq_false_iff_not] at hq
          rw [List.cons_append,j6u h92 hq.1.1 hq.1.2]
          exact ih (d::r) b h (by dsimp only [List.length_cons];omega) hq.2
theorem j7a {y b:List Nat} {h:Int} (hq:quiet y=true):ck (y++b) h=ck b h:=j2h y.length y b h (Nat.le_refl _) hq
noncomputable def tame (c:Nat):Bool:=!(c=92||c=34||c=40||c=41)
theorem z1m {w b:List Nat} (h:w.all tame=true):stO (w++b)=w++stO b:=by
  induction w with
  | nil=>rfl
  | cons c w ih=>
    simp only [List.all_cons,Bool.and_eq_true,tame,Bool.not_eq_true',Bool.or_eq_false_iff,decide_eq_false_iff_not] at h
    rw [List.cons_append,q1t h.1.1.1.1 h.1.1.1.2,ih (h.2)];rfl
theorem j2i {w b:List Nat} {i:Int} (h:w.all tame=true):ck (w++b) i=ck b i:=by
  induction w with
  | nil=>rfl
  | cons c w ih=>
    simp only [List.all_cons,Bool.and_eq_true,tame,Bool.not_eq_true',Bool.or_eq_false_iff,decide_eq_false_iff_not] at h
    rw [List.cons_append,j6u h.1.1.1.1 h.1.1.2 h.1.2,ih (h.2)]
noncomputable def pieceOk (p:q0h):Prop:=
  (p.k<3∧∃ w,w.all tame=true∧p.sign=(if p.head>0 then 40 else 41)::w)∨(¬ p.k<3∧ntO p.sign=true∧quiet (stO p.sign)=true)
noncomputable def textOf (row:List q0h):List Nat:=(row.map (·.sign)).flatten
theorem q8i {p:q0h} (ok:pieceOk p) (b:List Nat):stO (p.sign++b)=stO p.sign++stO b:=by
  rcases ok with ⟨hk,w,hw,hs⟩ | ⟨hk,h1,_⟩
  · rw [hs]
    have hb:∀ c:Nat,(c=40∨c=41)→stO (c::w++b)=stO (c::w)++stO b:=fun c hc=>by
      have h1:c≠92:=by omega
      have h2:c≠34:=by omega
      have e:=z1m (b:=[]) hw
      rw [List.append_nil] at e
      rw [List.cons_append,q1t h1 h2,q1t h1 h2,z1m hw,e];simp [z5f,z5g,q9h]
    split
    · exact hb 40 (Or.inl rfl)
    · exact hb 41 (Or.inr rfl)
  · exact k3f h1
theorem z1n {row:List q0h} (ok:∀ p∈row,pieceOk p) (b:List Nat):stO (textOf row++b)=stO (textOf row)++stO b:=by
  induction row with
  | nil=>rfl
  | cons p r ih=>
    have e:textOf (p::r)=p.sign++textOf r:=rfl
    rw [e,List.append_assoc,q8i (ok p List.mem_cons_self),ih (fun q hq=>ok q (List.mem_cons_of_mem _ hq)),q8i (ok p List.mem_cons_self),List.append_assoc]
noncomputable def turnH (p:q0h) (h:Int):Option Int:=if p.k<3 then (if p.head>0 then some (h+1) else if h - 1<0 then none else some (h - 1)) else some h
theorem j7b {p:q0h} (ok:pieceOk p) (b:List Nat) (h:Int):ck (stO p.sign++b) h=(turnH p h).bind (ck b):=by
  unfold turnH
  rcases ok with ⟨hk,w,hw,hs⟩ | ⟨hk,h1,h2⟩
  · rw [hs,if_pos hk]
    have e:=z1m (b:=[]) hw
    rw [List.append_nil] at e
    split
    · rw [q1t (by decide) (by decide),e]
      simp only [z5f,z5g,q9h,List.append_nil,List.cons_append]
      rw [j1x,j2i hw];rfl
    · rw [q1t (by decide) (by decide),e]
      simp only [z5f,z5g,q9h,List.append_nil,List.cons_append]
      rw [z6z,j2i hw]
      split<;>rfl
  · rw [if_neg hk,j7a h2];rfl
noncomputable def runH:List q0h→Int→Option Int
  | [],h=>some h
  | p::r,h=>(turnH p h).bind (runH r)
theorem z7b {row:List q0h} (ok:∀ p∈row,pieceOk p) (b:List Nat):∀ h,ck (stO (textOf row)++b) h=(runH row h).bind (ck b):=by
  induction row with
  | nil=>intro h;rfl
  | cons p r ih=>
    intro h
    have e:textOf (p::r)=p.sign++textOf r:=rfl
    rw [e,q8i (ok p List.mem_cons_self),List.append_assoc,j7b (ok p List.mem_cons_self)]
    show _=((turnH p h).bind (runH r)).bind (ck b)
    cases turnH p h with
    | none=>rfl
    | some h'=>exact ih (fun q hq=>ok q (List.mem_cons_of_mem _ hq)) h'
set_option tactic.hygienic true in
theorem q3e:∀ (row:List q0h) (h:Int),(runH row h==some 0)=closedAt h row
  | [],h=>by
    show (some h==some 0)=(h==0)
    rfl
  | p::r,h=>by
    show ((turnH p h).bind (runH r)==some 0)=_
    unfold turnH;rw [q1q]
    split
    · split
      · exact q3e r (h+1)
      · split
        · rename_i hneg
          have:decide (0≤h - 1)=false:=decide_eq_false (by omega)
          rw [this];rfl
        · rename_i hneg
          have:decide (0≤h - 1)=true:=decide_eq_true (by omega)
          rw [this]
          exact q3e r (h - 1)
    · exact q3e r h
theorem z5l:∀ (row:List q0h) (h h':Int),0≤h→runH row h=some h'→0≤h'
  | [],h,h',h0,e=>by apply q0w e;exact h0
  | p::r,h,h',h0,e=>by
    obtain ⟨h1,e1,e2⟩:=Option.bind_eq_some_iff.mp e
    refine z5l r h1 h' ?_ e2
    refine Mine.iteE e1 ?_ ?_<;>clear e1<;>intro hc e1
    · refine Mine.iteE e1 ?_ ?_<;>clear e1<;>intro hc e1
      · apply q0w e1;omega
      · refine Mine.iteE e1 ?_ ?_<;>clear e1<;>intro hc e1
        · exact Mine.ns e1
        · apply q0w e1;omega
    · apply q0w e1;exact h0
theorem j2j {row:List q0h} (ok:∀ p∈row,pieceOk p):checkS (textOf row)=closedAt 0 row:=by
  unfold checkS
  have:=z7b ok [] 0
  rw [List.append_nil] at this
  rw [this,← q3e]
  cases runH row 0<;>rfl
theorem z8v {row:List q0h} (ok:∀ p∈row,pieceOk p):checkS (textOf row++[34,92])=closedAt 0 row:=by
  unfold checkS
  rw [z1n ok,z7b ok,← q3e]
  cases runH row 0<;>rfl
theorem z8w {row:List q0h} (ok:∀ p∈row,pieceOk p):checkS (textOf row++[34,40,92])=false:=by
  unfold checkS
  rw [z1n ok,z7b ok]
  induction e:runH row 0 using Mine.oC with
  | none=>rfl
  | some h=>
    have:=z5l row 0 h (Int.le_refl _) e
    show (some (h+1)==some 0)=false
    simp
    omega
theorem z8x {row:List q0h} (ok:∀ p∈row,pieceOk p):checkS (textOf row++[41])=(runH row 0==some 1):=by
  unfold checkS
  rw [z1n ok,z7b ok]
  induction e:runH row 0 using Mine.oC with
  | none=>rfl
  | some h=>
    have:=z5l row 0 h (Int.le_refl _) e
    show ((if h - 1<0 then none else some (h - 1))==some 0)=(some h==some 1)
    split
    · have:h≠1:=by omega
      simp [this]
    · by_cases h1:h=1
      · apply q0g h1;rfl
      · have h2:h - 1≠0:=by omega
        show (some (h - 1)==some 0)=(some h==some 1)
        have e1:(some (h - 1)==some (0:Int))=false:=by simpa using h2
        have e2:(some h==some (1:Int))=false:=by simpa using h1
        rw [e1,e2]
noncomputable def mateOf:Nat→List q0h→Nat
  | _,[]=>3
  | h,p::r=>if p.k<3 then (if p.head>0 then mateOf (h+1) r else if h=1 then p.k else mateOf (h - 1) r) else mateOf h r
theorem q3g {h p r}:mateOf h (p::r)=if p.k<3 then (if p.head>0 then mateOf (h+1) r else if h=1 then p.k else mateOf (h - 1) r) else mateOf h r:=rfl
noncomputable def alikeS:List q0h→Bool
  | []=>true
  | p::r=>(if p.k<3∧p.head>0 then mateOf 1 r==p.k else true)&&alikeS r
theorem q5h {p r}:alikeS (p::r)=((if p.k<3∧p.head>0 then mateOf 1 r==p.k else true)&&alikeS r):=rfl
noncomputable def pend (row:List q0h):Nat→List Nat→Bool
  | _,[]=>true
  | i,k::st=>mateOf i row==k&&pend row (i+1) st
theorem z3o {p:q0h} {r:List q0h} (h1:p.k<3) (h2:p.head>0):∀ (st:List Nat) (i:Nat),pend (p::r) i st=pend r (i+1) st
  | [],i=>rfl
  | k::st,i=>by
    dsimp only [pend]
    rw [z3o h1 h2 st (i+1)]
    congr 1
    simp only [q3g,h1,h2,if_true]
theorem z3p {p:q0h} {r:List q0h} (h1:¬ p.k<3):∀ (st:List Nat) (i:Nat),pend (p::r) i st=pend r i st
  | [],i=>rfl
  | k::st,i=>by
    dsimp only [pend]
    rw [z3p h1 st (i+1)]
    congr 1
    simp only [q3g,h1,if_false]
theorem q9z {p:q0h} {r:List q0h} (h1:p.k<3) (h2:¬ p.head>0):∀ (st:List Nat) (i:Nat),1≤i→pend (p::r) (i+1) st=pend r i st
  | [],i,_=>rfl
  | k::st,i,hi=>by
    dsimp only [pend]
    rw [q9z h1 h2 st (i+1) (by exact Nat.le_of_ble_eq_true rfl)]
    congr 1
    have:¬ i+1=1:=by omega
    simp only [q3g,h1,h2,this,if_true,if_false,Nat.add_sub_cancel]
theorem q6z:∀ (row:List q0h) (st:List Nat),closedAt st.length row=true→(alikeS row&&pend row 1 st)=mt st row
  | [],st,h=>by
    have:st=[]:=by
      simp only [q1v,q1q,beq_iff_eq] at h
      exact List.length_eq_zero_iff.mp (by omega)
    apply q0g this;rfl
  | p::r,st,h=>by
    by_cases h1:p.k<3
    · by_cases h2:p.head>0
      · have hc:closedAt (p.k::st).length r=true:=by
          have:closedAt st.length (p::r)=closedAt ((st.length:Int)+1) r:=by simp only [q1v,q1q,h1,h2,if_true]
          rw [this] at h
          exact h
        have ih:=q6z r (p.k::st) hc
        have e1:alikeS (p::r)=((mateOf 1 r==p.k)&&alikeS r):=by simp only [q5h,h1,h2,and_self,if_true]
        have e2:mt st (p::r)=mt (p.k::st) r:=(if_pos h1).trans (if_pos h2)
        rw [e1,e2,z3o h1 h2,← ih]
        dsimp only [pend]
        cases mateOf 1 r==p.k<;>cases alikeS r<;>rfl
      · induction st using q1h with
        | nil=>
          exfalso
          have:closedAt ([]:List Nat).length (p::r)=false:=by
            simp only [q1v,q1q,h1,h2,if_true,if_false,List.length_nil]
            rfl
          rw [this] at h;exact Mine.ff h
        | cons k st=>
          have hc:closedAt st.length r=true:=by
            have:closedAt (k::st).length (p::r)=(decide ((0:Int)≤(((k::st).length:Nat):Int) - 1)&&closedAt ((((k::st).length:Nat):Int) - 1) r):=by simp only [q1v,q1q,h1,h2,if_true,if_false]
            rw [this] at h
            have e:(((k::st).length:Nat):Int) - 1=(st.length:Int):=by simp
            rw [e] at h
            exact (Bool.and_eq_true_iff.mp h).2
          have ih:=q6z r st hc
          have e1:alikeS (p::r)=alikeS r:=by simp [q5h,h2]
          have e2:mt (k::st) (p::r)=(k==p.k&&mt st r):=by simp only [v7q,v7r,h1,h2,if_true,if_false]
          have e3:pend (p::r) 1 (k::st)=((p.k==k)&&pend r 1 st):=by
            dsimp only [pend]
            rw [q9z h1 h2 st 1 (Nat.le_refl _)]
            congr 1
            simp only [q3g,h1,h2,if_true,if_false]
          rw [e1,e2,e3,← ih]
          have:(p.k==k)=(k==p.k):=Bool.eq_iff_iff.mpr ⟨fun h=>beq_iff_eq.mpr (beq_iff_eq.mp h).symm,fun h=>beq_iff_eq.mpr (beq_iff_eq.mp h).symm⟩
          rw [this]
          cases k==p.k<;>cases alikeS r<;>rfl
    · have hc:closedAt st.length r=true:=by
        have:closedAt st.length (p::r)=closedAt st.length r:=by simp only [q1v,q1q,h1,if_false]
        rw [this] at h;exact h
      have ih:=q6z r st hc
      have e1:alikeS (p::r)=alikeS r:=by simp [q5h,h1]
      have e2:mt st (p::r)=mt st r:=if_neg h1
      rw [e1,e2,z3p h1,ih]
noncomputable def opC (c:Nat):Bool:=[33,37,38,42,43,45,46,47,58,60,61,62,64,94,124].contains c
structure z1o (tab:List (Str × Int)):Prop where
  all:(tab.all fun x=>decide (x.1.cps.toList.length≤3)&&(decide (x.1.cps.toList.length<2)||x.1.cps.toList.all opC))=true
  lp:hasTab tab [40]=some 7
  rp:hasTab tab [41]=some 8
section
variable {tab:List (Str × Int)} (ok:z1o tab)
include ok
theorem z1o.op {s:List Nat} {i:Int} (h:hasTab tab s=some i) (h2:2≤s.length):∀ c∈s,opC c=true:=by
  have hm:((⟨s.toArray⟩:Str),i)∈tab:=mem_of_lookup h
  have:=List.all_eq_true.mp ok.all _ hm
  simp only [Bool.and_eq_true,Bool.or_eq_true,decide_eq_true_eq] at this
  rcases this.2 with h3 | h3
  · omega
  · exact List.all_eq_true.mp h3
end
noncomputable def inTab (tab:List (Str × Int)) (t:List Nat) (n:Nat):Bool:=(hasTab tab (t.take n)).isSome
noncomputable def sizeS (tab:List (Str × Int)) (t:List Nat):Nat:=if inTab tab t 3 then 3 else if inTab tab t 2 then 2 else if inTab tab t 1 then 1 else 0
inductive q2b (tab:List (Str × Int)) (b1:Nat→Bool) (b3:Nat→List Nat):List Nat→List Int→List Nat→Prop
  | nil:q2b tab b1 b3 [] [] []
  | tok {t:List Nat} {i:Int} {nums:List Int} {plain:List Nat} (hne:t≠[]) (hs:0<sizeS tab t) (hi:hasTab tab (t.take (sizeS tab t))=some i) (r:q2b tab b1 b3 (t.drop (sizeS tab t)) nums plain):q2b tab b1 b3 t (i::nums) plain
  | held {c:Nat} {t:List Nat} {nums:List Int} {plain:List Nat} (hs:sizeS tab (c::t)=0) (hb:b1 c=true) (r:q2b tab b1 b3 t nums plain):q2b tab b1 b3 (c::t) nums plain
  | sgn {c:Nat} {t:List Nat} {nums:List Int} {plain:List Nat} (hs:sizeS tab (c::t)=0) (hb:b1 c=false) (r:q2b tab b1 b3 t nums plain):q2b tab b1 b3 (c::t) nums (b3 c++plain)
noncomputable def restOk:List Nat→Bool
  | []=>true
  | c::_=>!opC c
section
variable {tab:List (Str × Int)} {b1:Nat→Bool} {b3:Nat→List Nat} {nums:List Int} {plain:List Nat}
theorem z7c (ok:z1o tab) {c:Nat} {r:List Nat} {n:Nat} (hc:opC c=false) (hr:r≠[]) (hn:2≤n):inTab tab (c::r) n=false:=by
  unfold inTab
  induction e:hasTab tab ((c::r).take n) using Mine.oC with
  | none=>rfl
  | some i=>
    exfalso
    induction r using q1h with
    | nil=>exact hr rfl
    | cons d r=>
      have:=ok.op e (by rw [List.length_take];dsimp only [List.length_cons];omega) c (by
        induction n using j5f with
        | zero=>omega
        | succ n=>simp)
      rw [hc] at this;exact Mine.ff this
theorem q6b (ok:z1o tab) {c:Nat} {i:Int} (hc:(c=40∧i=7)∨(c=41∧i=8)) {r:List Nat} (h:q2b tab b1 b3 r nums plain):q2b tab b1 b3 (c::r) (i::nums) plain:=by
  have hop:opC c=false:=by rcases hc with ⟨rfl,_⟩ | ⟨rfl,_⟩<;>rfl
  have h1:hasTab tab [c]=some i:=by
    rcases hc with ⟨rfl,rfl⟩ | ⟨rfl,rfl⟩
    · exact ok.lp
    · exact ok.rp
  induction hr:r using q1h with
  | nil=>
    subst hr
    have hs:sizeS tab [c]=3:=by
      have:inTab tab [c] 3=true:=by unfold inTab;simp [h1]
      unfold sizeS;rw [this];rfl
    refine .tok (by simp) (by rw [hs];decide) (by rw [hs];exact h1) ?_
    rw [hs];exact h
  | cons d r'=>
    subst hr
    have hs:sizeS tab (c::d::r')=1:=by
      have h3:=z7c ok (r:=d::r') (n:=3) hop (by simp) (by decide)
      have h2:=z7c ok (r:=d::r') (n:=2) hop (by simp) (by decide)
      have:inTab tab (c::d::r') 1=true:=by unfold inTab;simp [h1]
      unfold sizeS;rw [h3,h2,this];rfl
    refine .tok (by simp) (by rw [hs];decide) (by rw [hs];exact h1) ?_
    rw [hs];exact h
theorem j2k (ok:z1o tab) {c:Nat} {r:List Nat} (hop:opC c=false) (h1:hasTab tab [c]=none):sizeS tab (c::r)=0:=by
  induction r using q1h with
  | nil=>
    have:∀ n,0<n→inTab tab [c] n=false:=fun n hn=>by
      unfold inTab
      have:[c].take n=[c]:=List.take_of_length_le (by assumption)
      rw [this,h1];rfl
    unfold sizeS
    rw [this 3 (by decide),this 2 (by decide),this 1 (by decide)];rfl
  | cons d r=>
    have h3:=z7c ok (r:=d::r) (n:=3) hop (by simp) (by decide)
    have h2:=z7c ok (r:=d::r) (n:=2) hop (by simp) (by decide)
    have:inTab tab (c::d::r) 1=false:=by unfold inTab;simp [h1]
    unfold sizeS;rw [h3,h2,this];rfl
theorem j2l (ok:z1o tab) {w:List Nat} {i:Int} {rest:List Nat} (hw:hasTab tab w=some i) (h1:1≤w.length) (h3:w.length≤3) (hr:restOk rest=true) (h:q2b tab b1 b3 rest nums plain) :
    q2b tab b1 b3 (w++rest) (i::nums) plain:=by
  have hmore:∀ n,w.length<n→rest≠[]→inTab tab (w++rest) n=false:=fun n hn hne=>by
    unfold inTab
    induction e:hasTab tab ((w++rest).take n) using Mine.oC with
    | none=>rfl
    | some j=>
      exfalso
      induction rest using q1h with
      | nil=>exact hne rfl
      | cons c r=>
        have hc:c∈(w++c::r).take n:=by
          rw [List.take_append]
          refine List.mem_append_right _ ?_
          have:n - w.length=(n - w.length - 1)+1:=by omega
          rw [this];simp
        have:=ok.op e (by rw [List.length_take];simp only [List.length_append,List.length_cons];omega) c hc
        simp only [restOk,this] at hr
        exact Mine.ff hr
  have hne:w++rest≠[]:=by
    induction w using q1h with
    | nil=>simp at h1
    | cons _ _=>simp
  by_cases hre:rest=[]
  · subst hre
    rw [List.append_nil] at hne ⊢
    have hs:sizeS tab w=3:=by
      have:inTab tab w 3=true:=by unfold inTab;rw [List.take_of_length_le h3,hw];rfl
      unfold sizeS;rw [this];rfl
    refine .tok hne (by rw [hs];decide) (by rw [hs,List.take_of_length_le h3];exact hw) ?_
    rw [hs,List.drop_of_length_le h3];exact h
  · have hl:inTab tab (w++rest) w.length=true:=by unfold inTab;rw [List.take_left,hw];rfl
    have hs:sizeS tab (w++rest)=w.length:=by
      unfold sizeS
      have hl3:w.length=1∨w.length=2∨w.length=3:=by omega
      rcases hl3 with e | e | e
      · rw [e] at hl
        rw [hmore 3 (by omega) hre,hmore 2 (by omega) hre,hl,e];rfl
      · rw [e] at hl
        rw [hmore 3 (by omega) hre,hl,e];rfl
      · rw [e] at hl
        rw [hl,e];rfl
    refine .tok hne (by omega) (by rw [hs,List.take_left];exact hw) ?_
    rw [hs,List.drop_left];exact h
noncomputable def signOk (tab:List (Str × Int)) (c:Nat):Bool:=decide (c=40)||decide (c=41)||(!opC c&&(hasTab tab [c]).isNone)
noncomputable def numsOf (s:List Nat):List Int:=s.filterMap fun c=>if c=40 then some 7 else if c=41 then some 8 else none
noncomputable def plainOf (b1:Nat→Bool) (b3:Nat→List Nat) (s:List Nat):List Nat:=s.flatMap fun c=>if c=40∨c=41∨b1 c=true then [] else b3 c
theorem z3q (ok:z1o tab) {rest:List Nat} (h:q2b tab b1 b3 rest nums plain):∀ (s:List Nat),s.all (signOk tab)=true→q2b tab b1 b3 (s++rest) (numsOf s++nums) (plainOf b1 b3 s++plain)
  | [],_=>h
  | c::s,hs=>by
    simp only [List.all_cons,Bool.and_eq_true] at hs
    have ih:=z3q ok h s hs.2
    have h1:=hs.1
    by_cases h40:c=40
    · apply q0g h40
      exact q6b ok (Or.inl ⟨rfl,rfl⟩) ih
    · by_cases h41:c=41
      · apply q0g h41
        exact q6b ok (Or.inr ⟨rfl,rfl⟩) ih
      · simp only [signOk,h40,h41,decide_false,Bool.false_or,Bool.and_eq_true,Bool.not_eq_true',Option.isNone_iff_eq_none] at h1
        have hz:=j2k ok (r:=s++rest) h1.1 h1.2
        have en:numsOf (c::s)=numsOf s:=by simp [numsOf,h40,h41]
        rw [en]
        induction hb:b1 c using q2i with
        | true=>
          have ep:plainOf b1 b3 (c::s)=plainOf b1 b3 s:=by simp [plainOf,hb]
          rw [ep]
          exact .held hz hb ih
        | false=>
          have ep:plainOf b1 b3 (c::s)=b3 c++plainOf b1 b3 s:=by simp [plainOf,h40,h41,hb]
          rw [ep,List.append_assoc]
          exact .sgn hz hb ih
noncomputable def pieceScan (tab:List (Str × Int)) (b1:Nat→Bool) (b3:Nat→List Nat) (rules:List q3d) (p:q0h):Prop:=
  (p.k<3∧(∃ w,p.sign=(if p.head>0 then 40 else 41)::w∧hasTab tab w=some (ruleAt rules p.k).num∧1≤w.length∧w.length≤3∧numsOf w=[])∧p.told=[])∨
  (¬ p.k<3∧p.sign.all (signOk tab)=true∧restOk p.sign=true∧p.sign≠[]∧plainOf b1 b3 p.sign=(p.told.filter (0<·)).map Int.toNat)
noncomputable def numsRow (rules:List q3d) (row:List q0h):List Int:=row.flatMap fun p=>numsOf p.sign++(if p.k<3 then [(ruleAt rules p.k).num] else [])
noncomputable def plainRow (row:List q0h):List Nat:=row.flatMap fun p=>(p.told.filter (0<·)).map Int.toNat
theorem j7c {rules:List q3d} {row:List q0h} (h:∀ p∈row,pieceScan tab b1 b3 rules p):restOk (textOf row)=true:=by
  induction row using q1h with
  | nil=>rfl
  | cons p r=>
    have e:textOf (p::r)=p.sign++textOf r:=rfl
    rw [e]
    rcases h p List.mem_cons_self with ⟨_,⟨w,hs,_⟩,_⟩ | ⟨_,_,h1,h2,_⟩
    · rw [hs];split<;>rfl
    · induction hp:p.sign using q1h with
      | nil=>exact absurd hp h2
      | cons c s=>rw [hp] at h1;exact h1
theorem z7d (ok:z1o tab) {rules:List q3d}:∀ (row:List q0h),(∀ p∈row,pieceScan tab b1 b3 rules p)→q2b tab b1 b3 (textOf row) (numsRow rules row) (plainRow row)
  | [],_=>.nil
  | p::r,h=>by
    have ih:=z7d ok r fun q hq=>h q (List.mem_cons_of_mem _ hq)
    have hrest:restOk (textOf r)=true:=j7c fun q hq=>h q (List.mem_cons_of_mem _ hq)
    have e:textOf (p::r)=p.sign++textOf r:=rfl
    have en:numsRow rules (p::r)=(numsOf p.sign++(if p.k<3 then [(ruleAt rules p.k).num] else []))++numsRow rules r:=rfl
    have ep:plainRow (p::r)=(p.told.filter (0<·)).map Int.toNat++plainRow r:=rfl
    rw [e,en,ep]
    rcases h p List.mem_cons_self with ⟨hk,⟨w,hs,hw,h1,h3,hnw⟩,ht⟩ | ⟨hk,hsg,_,_,hpl⟩
    · rw [hs,ht]
      have step:=j2l ok hw h1 h3 hrest ih
      have base:∀ (c:Nat) (i:Int),((c=40∧i=7)∨(c=41∧i=8))→q2b tab b1 b3 (c::w++textOf r) ((numsOf (c::w)++[(ruleAt rules p.k).num])++numsRow rules r) (([]:List Int).map Int.toNat++plainRow r):=by
        intro c i hc
        have en:numsOf (c::w)=[i]:=by
          rcases hc with ⟨rfl,rfl⟩ | ⟨rfl,rfl⟩
          · show 7::numsOf w=[7];rw [hnw]
          · show 8::numsOf w=[8];rw [hnw]
        rw [en]
        exact q6b ok hc step
      split
      · exact base 40 7 (Or.inl ⟨rfl,rfl⟩)
      · exact base 41 8 (Or.inr ⟨rfl,rfl⟩)
    · rw [if_neg hk,List.append_nil,← hpl]
      exact z3q ok ih p.sign hsg
end
noncomputable def marksOf:Nat→List q0h→List (Nat × Nat × Bool)
  | _,[]=>[]
  | off,p::r=>(if p.k<3 then [(off,p.k,decide (p.head>0))] else [])++marksOf (off+p.sign.length) r
theorem q2s {o p r}:marksOf o (p::r)=(if p.k<3 then [(o,p.k,decide (p.head>0))] else [])++marksOf (o+p.sign.length) r:=rfl
noncomputable def innerS (f:Nat→Bool):Nat→List (Nat × Nat × Bool)→Nat
  | mate,[]=>mate
  | mate,(place,kind,opening)::ms=>innerS f (if (mate==3&&(!opening&&f place)) then kind else mate) ms
theorem z1p {f m a b c l}:innerS f m ((a,b,c)::l)=innerS f (if (m==3&&(!c&&f a)) then b else m) l:=rfl
theorem q8j {f:Nat→Bool} {m:Nat} (h:m≠3):∀ ms,innerS f m ms=m
  | []=>rfl
  | (place,kind,opening)::ms=>by
    have:(m==3)=false:=by simpa using h
    simp only [z1p,this,Bool.false_and,Bool.false_eq_true,if_false]
    exact q8j h ms
theorem v3a (a b:List q0h):textOf (a++b)=textOf a++textOf b:=by simp [textOf]
theorem q5i (p:q0h) (r:List q0h):textOf (p::r)=p.sign++textOf r:=rfl
theorem j2m:∀ (a b:List q0h) (h:Int),runH (a++b) h=(runH a h).bind (runH b)
  | [],b,h=>rfl
  | p::a,b,h=>by
    show (turnH p h).bind (runH (a++b))=((turnH p h).bind (runH a)).bind (runH b)
    cases turnH p h with
    | none=>rfl
    | some h'=>exact j2m a b h'
noncomputable def partB (text:List Nat) (start place:Nat):Bool:=checkS ((text.take (place+1)).drop start)
theorem z0a:∀ (r seg:List q0h) (tpre:List Nat) (h:Nat),(∀ p∈r,pieceOk p)→(∀ p∈seg,pieceOk p)→runH seg 0=some (h:Int)→1≤h→
    innerS (partB (tpre++textOf seg++textOf r) tpre.length) 3 (marksOf (tpre.length+(textOf seg).length) r)=mateOf h r
  | [],seg,tpre,h,_,_,_,_=>rfl
  | p::r,seg,tpre,h,ok,oks,run,h1=>by
    have okp:=ok p List.mem_cons_self
    have okr:∀ q∈r,pieceOk q:=fun q hq=>ok q (List.mem_cons_of_mem _ hq)
    have oks':∀ q∈seg++[p],pieceOk q:=fun q hq=>by
      rcases List.mem_append.mp hq with h | h
      · exact oks q h
      · rw [List.mem_singleton.mp h];exact okp
    have htext:tpre++textOf seg++textOf (p::r)=tpre++textOf (seg++[p])++textOf r:=by
      simp [textOf]
    have hoff:tpre.length+(textOf (seg++[p])).length=tpre.length+(textOf seg).length+p.sign.length:=by
      simp [textOf];omega
    have run':∀ h',turnH p h=some h'→runH (seg++[p]) 0=some h':=fun h' e=>by
      rw [j2m,run]
      show (turnH p h).bind (runH [])=_
      rw [e];rfl
    have rest:∀ (h':Nat),turnH p h=some (h':Int)→1≤h'→innerS (partB (tpre++textOf seg++textOf (p::r)) tpre.length) 3 (marksOf (tpre.length+(textOf seg).length+p.sign.length) r)=mateOf h' r:=fun h' e e1=>by
      rw [htext,← hoff]
      exact z0a r (seg++[p]) tpre h' okr oks' (run' _ e) e1
    by_cases hk:p.k<3
    · simp only [q2s,hk,if_true,List.cons_append,List.nil_append,z1p]
      by_cases hh:p.head>0
      · have:decide (p.head>0)=true:=decide_eq_true hh
        simp only [this,Bool.not_true,Bool.false_and,Bool.and_false,Bool.false_eq_true,if_false,q3g,hk,hh,if_true]
        refine rest (h+1) ?_ (by exact Nat.le_of_ble_eq_true rfl)
        unfold turnH
        rw [if_pos hk,if_pos hh];rfl
      · have hd:decide (p.head>0)=false:=decide_eq_false hh
        have hpart:partB (tpre++textOf seg++textOf (p::r)) tpre.length (tpre.length+(textOf seg).length)=decide (h=1):=by
          unfold partB
          have hs:∃ w,p.sign=41::w:=by
            rcases okp with ⟨_,w,_,e⟩ | ⟨h,_⟩
            · rw [if_neg hh] at e;exact ⟨w,e⟩
            · exact (h hk).elim
          obtain ⟨w,hs⟩:=hs
          have e1:((tpre++textOf seg++textOf (p::r)).take (tpre.length+(textOf seg).length+1)).drop tpre.length=textOf seg++[41]:=by
            have:tpre++textOf seg++textOf (p::r)=(tpre++(textOf seg++[41]))++(w++textOf r):=by rw [q5i,hs];simp
            rw [this,List.take_left' (by simp;omega),List.drop_left]
          rw [e1,z8x oks,run]
          by_cases h2:h=1
          · apply q0g h2;rfl
          · have h3:¬ (h:Int)=1:=by omega
            have h4:decide (h=1)=false:=decide_eq_false h2
            rw [h4]
            exact beq_eq_false_iff_ne.mpr fun e=>h3 (by injection e)
        simp only [hd,Bool.not_false,decide_false,Bool.true_and,beq_self_eq_true,hpart,q3g,hk,hh,if_true,if_false]
        by_cases h2:h=1
        · have:decide (h=1)=true:=decide_eq_true h2
          rw [if_pos this,if_pos h2]
          exact q8j (by omega) _
        · have:¬ decide (h=1)=true:=by simpa using h2
          rw [if_neg this,if_neg h2]
          refine rest (h - 1) ?_ (by omega)
          unfold turnH
          rw [if_pos hk,if_neg hh,if_neg (by omega)]
          congr 1
          omega
    · simp only [q2s,hk,if_false,List.nil_append,q3g]
      refine rest h ?_ h1
      unfold turnH
      rw [if_neg hk]
theorem z3r:∀ (r:List q0h) (off:Nat),(marksOf off r).length≤r.length
  | [],_=>Nat.le_refl _
  | p::r,off=>by
    have:=z3r r (off+p.sign.length)
    rw [q2s]
    split<;>simp<;>(first | assumption | omega)
theorem j2n:∀ (a b:List q0h) (off:Nat),marksOf off (a++b)=marksOf off a++marksOf (off+(textOf a).length) b
  | [],b,off=>by rfl
  | p::a,b,off=>by
    show _++marksOf (off+p.sign.length) (a++b)=(_++marksOf (off+p.sign.length) a)++_
    rw [j2n a b,q5i,List.length_append,List.append_assoc,Nat.add_assoc]
set_option tactic.hygienic true in
theorem k3g:∀ (r:List q0h) (off:Nat),∀ x∈marksOf off r,x.2.1<3∧x.1≤off+(textOf r).length
  | [],_,x,h=>by cases h
  | p::r,off,x,h=>by
    rw [q5i,List.length_append]
    rcases List.mem_append.mp h with h | h
    · split at h
      · rename_i hk
        rw [List.mem_singleton.mp h]
        exact ⟨hk,by simp⟩
      · cases h
    · obtain ⟨h1,h2⟩:=k3g r _ x h
      exact ⟨h1,by omega⟩
noncomputable def htsS:Int→List q0h→List Int
  | _,[]=>[]
  | h,p::r=>if p.k<3 then (h+(if p.head>0 then 1 else -1))::htsS (h+(if p.head>0 then 1 else -1)) r else htsS h r
theorem z0b {h p r}:htsS h (p::r)=if p.k<3 then (h+(if p.head>0 then 1 else -1))::htsS (h+(if p.head>0 then 1 else -1)) r else htsS h r:=rfl
noncomputable def lastI (h:Int) (l:List Int):Int:=l.getLast?.getD h
theorem q8k (h a:Int) (l:List Int):lastI h (a::l)=lastI a l:=by
  unfold lastI
  rw [List.getLast?_cons]
  rfl
theorem q8l:∀ (l:List Int) (m:Int),m≤0→(minI m l==0)=(m==0&&l.all (fun x=>decide (0≤x)))
  | [],m,_=>by simp [minI]
  | a::l,m,hm=>by
    have e:minI m (a::l)=minI (if a<m then a else m) l:=rfl
    rw [e]
    by_cases h:a<m
    · rw [if_pos h,q8l l a (by omega),List.all_cons]
      have h1:(a==0)=false:=by simp only [beq_eq_false_iff_ne,ne_eq];omega
      have h2:decide (0≤a)=false:=decide_eq_false (by omega)
      rw [h1,h2];simp
    · rw [if_neg h,q8l l m hm,List.all_cons]
      by_cases h0:m=0
      · apply q0g h0
        have h2:decide (0≤a)=true:=decide_eq_true (by omega)
        rw [h2];rfl
      · have h1:(m==0)=false:=by simpa using h0
        rw [h1];rfl
theorem q3y:∀ (r:List q0h) (h:Int),0≤h→closedAt h r=((htsS h r).all (fun x=>decide (0≤x))&&(lastI h (htsS h r)==0))
  | [],h,_=>by rfl
  | p::r,h,h0=>by
    by_cases hk:p.k<3
    · by_cases hh:p.head>0
      · simp only [q1v,q1q,z0b,hk,hh,if_true,q8k,List.all_cons]
        rw [q3y r (h+1) (by omega)]
        have:decide (0≤h+1)=true:=decide_eq_true (by omega)
        rw [this,Bool.true_and]
      · simp only [q1v,q1q,z0b,hk,hh,if_true,if_false,q8k,List.all_cons]
        have e:h+-1=h - 1:=rfl
        rw [e]
        by_cases h1:0≤h - 1
        · rw [q3y r (h - 1) h1,decide_eq_true h1,Bool.true_and,Bool.true_and]
        · rw [decide_eq_false h1];rfl
    · simp only [q1v,q1q,z0b,hk,if_false]
      exact q3y r h h0
theorem z8y (r:List q0h):(minI 0 (htsS 0 r)==0&&(lastI 0 (htsS 0 r)==0))=closedAt 0 r:=by
  rw [q3y r 0 (Int.le_refl _),q8l _ _ (Int.le_refl _)]
  rfl
theorem z5m:∀ (r:List q0h) (h:Int),(htsS h r).length≤r.length
  | [],_=>Nat.le_refl _
  | p::r,h=>by
    rw [z0b]
    split
    · have:=z5m r (h+(if p.head>0 then 1 else -1))
      dsimp only [List.length_cons];omega
    · have:=z5m r h
      dsimp only [List.length_cons];omega
theorem z7e:∀ (r:List q0h) (d:Int),(r.map (·.head)++[0]==d::r.map (·.due))=nb d r
  | [],d=>by
    show (([0]:List Int)==[d])=(d==0)
    by_cases h:d=0
    · apply q0g h;rfl
    · have h1:(d==0)=false:=by simpa using h
      rw [h1]
      simp only [beq_eq_false_iff_ne,ne_eq]
      intro e;injection e with e _;exact h e.symm
  | p::r,d=>by
    have ih:=z7e r p.due
    show (p.head::(r.map (·.head)++[0])==d::p.due::r.map (·.due))=(p.head==d&&nb p.due r)
    rw [List.cons_beq_cons,ih]
theorem q8m:∀ (s:List Nat),(s.filter fun c=>[40,41].contains c).map (fun c=>if c=40 then (7:Int) else 8)=numsOf s
  | []=>rfl
  | c::s=>by
    have ih:=q8m s
    by_cases h40:c=40
    · apply q0g h40
      have:numsOf (40::s)=7::numsOf s:=rfl
      rw [this,← ih];rfl
    · by_cases h41:c=41
      · apply q0g h41
        have:numsOf (41::s)=8::numsOf s:=rfl
        rw [this,← ih];rfl
      · have:numsOf (c::s)=numsOf s:=by simp [numsOf,h40,h41]
        rw [this,← ih]
        have hc:([40,41].contains c)=false:=by simp [h40,h41]
        simp only [List.filter_cons,hc,Bool.false_eq_true,if_false]
end Mine
open PySem PySem.W PyProof.Rows
namespace Mine
open PySem PySem.W PySem.Calls PyProof.Rows
noncomputable abbrev pp:Program:=p1
noncomputable abbrev mm:Str→List Str × Bool × Option Nat:=muts1
set_option maxRecDepth 100000
noncomputable abbrev GG:Gl:=glOf pp mm
noncomputable abbrev bd (f:String):List Stmt:=defBody pp (sO f)
noncomputable abbrev cx (f:String):Cx:=⟨defScope pp (sO f),(mm (sO f)).1,(mm (sO f)).2.1,true⟩
noncomputable abbrev fS:String:="_strip_quoted_realnames"
noncomputable abbrev cS:Cx:=cx fS
noncomputable def LS (x:List Nat) (st:Nat) (op:D) (vp vc:Option D):Loc:=[(sO "addr",some (.str x)),(sO "start",some (.int st)),(sO "open_pos",some op),(sO "result",some (.loc 0)),(sO "pos",vp),(sO "ch",vc)]
theorem z5n {n:Nat} {x:List Nat}:(recN GG (n+20)).ca (sO fS) [.str x] [] =
    (exs (recN GG (n+19)) cS [(sO "addr",some (.str x)),(sO "start",none),(sO "open_pos",none),(sO "result",none),(sO "pos",none),(sO "ch",none)] [] (bd fS)).bind (caEnd []):=by kernel_rfl
theorem z8z:bd fS=[sel (bd fS) 0,sel (bd fS) 1,sel (bd fS) 2,sel (bd fS) 3,sel (bd fS) 4,sel (bd fS) 5,sel (bd fS) 6]:=by kernel_rfl
noncomputable abbrev sS (i:Nat):Stmt:=sel (bd fS) i
theorem z7f {n:Nat} {x:List Nat} {L:Loc}:(recN GG (n+18)).ts cS ((sO "addr",some (.str x))::L) [] (testOf (sS 0))=some (!(x.contains 34),[]):=by kernel_rfl
theorem j2o {n:Nat} {x:List Nat} {L:Loc}:exs (recN GG (n+18)) cS ((sO "addr",some (.str x))::L) [] (thenOf (sS 0))=some (.ret (.str x),((sO "addr",some (.str x))::L),[]):=by kernel_rfl
theorem z9a {n:Nat} {x:List Nat}:exs (recN GG (n+19)) cS [(sO "addr",some (.str x)),(sO "start",none),(sO "open_pos",none),(sO "result",none),(sO "pos",none),(sO "ch",none)] [] (sS 1::sS 2::sS 3::sS 4::sS 5::[sS 6]) =
    exs (recN GG (n+19)) cS (LS x 0 .none none none) [[]] (sS 4::sS 5::[sS 6]):=by kernel_rfl
noncomputable def itD (it:Nat × List Nat):D:=.tup [.int it.1,.str it.2]
noncomputable def opD:Option Nat→D
  | none=>.none
  | some o=>.int o
theorem v3b {n:Nat} {x:List Nat}:(recN GG (n+19)).ex cS (LS x 0 .none none none) [[]] (sS 4) =
    forItems (recN GG (n+18)) cS (targetOf (sS 4)) (bodyOf (sS 4)) (LS x 0 .none none none) [[]] (escD x):=by kernel_rfl
noncomputable abbrev sSb:Stmt:=sel (bodyOf (sS 4)) 0
theorem k3h:bodyOf (sS 4)=[sSb]:=by kernel_rfl
theorem k9i:isIf sSb=true:=by kernel_rfl
theorem z9b {n:Nat} {x s:List Nat} {st p:Nat} {op:D} {vp vc:Option D} {σ:Sto}:give cS.sc σ (targetOf (sS 4)) (.tup [.int p,.str s]) (LS x st op vp vc)=some (LS x st op (some (.int p)) (some (.str s))):=by kernel_rfl
theorem j2p {n:Nat} {x s:List Nat} {st:Nat} {op:D} {vp:Option D} {σ:Sto}:(recN GG (n+17)).ts cS (LS x st op vp (some (.str s))) σ (testOf sSb)=some (s==[34],σ):=by kernel_rfl
noncomputable abbrev sSo:Stmt:=sel (thenOf sSb) 0
theorem k3i:thenOf sSb=[sSo]:=by kernel_rfl
theorem v3y:elseOf sSb=[]:=by kernel_rfl
theorem z9c {n:Nat} {x:List Nat} {st p:Nat} {vc:Option D} {σ:Sto}:(recN GG (n+17)).ex cS (LS x st .none (some (.int p)) vc) σ sSo=some (.next,LS x st (.int p) (some (.int p)) vc,σ):=by kernel_rfl
theorem z5o {n:Nat} {x:List Nat} {st o p:Nat} {vc:Option D} {σ:Sto}:(recN GG (n+17)).ex cS (LS x st (.int o) (some (.int p)) vc) σ sSo =
    exs (recN GG (n+16)) cS (LS x st (.int o) (some (.int p)) vc) σ (elseOf sSo):=by kernel_rfl
noncomputable abbrev sSi:Stmt:=sel (elseOf sSo) 0
theorem j7d:elseOf sSo=[sSi,sel (elseOf sSo) 1,sel (elseOf sSo) 2]:=by kernel_rfl
theorem z3s:isIf sSi=true:=by kernel_rfl
theorem z3t {n:Nat} {x:List Nat} {st o:Nat} {vp vc:Option D} {σ:Sto}:(recN GG (n+15)).ts cS (LS x st (.int o) vp vc) σ (testOf sSi)=some (!((st:Int)==(o:Int)),σ):=by kernel_rfl
theorem z0c {n:Nat} {x:List Nat} {st o p:Nat} {vc:Option D} {σ:Sto}:exs (recN GG (n+16)) cS (LS x st (.int o) (some (.int p)) vc) σ [sel (elseOf sSo) 1,sel (elseOf sSo) 2] =
    some (.next,LS x (p+1) .none (some (.int p)) vc,σ):=by kernel_rfl
noncomputable abbrev sSa:Stmt:=sel (thenOf sSi) 0
theorem j7e:thenOf sSi=[sSa]:=by kernel_rfl
theorem j7f:isApp sSa=true:=by kernel_rfl
theorem j7g {n:Nat} {x:List Nat} {st o:Nat} {vp vc:Option D} {σ:Sto}:(recN GG (n+12)).ev cS (LS x st (.int o) vp vc) σ (appO sSa)=some (.loc 0,σ):=by kernel_rfl
theorem j7h {n:Nat} {x:List Nat} {st o:Nat} {vp vc:Option D} {σ:Sto}:(recN GG (n+12)).ev cS (LS x st (.int o) vp vc) σ (appE sSa)=(sliceD σ (some (st:Int)) (some (o:Int)) (.str x)).map fun d=>(d,σ):=by kernel_rfl
theorem v3c:elseOf sSi=[]:=by kernel_rfl
theorem j2q:isIf (sS 5)=true:=by kernel_rfl
theorem j7i:isCmp .Lt (testOf (sS 5))=true:=by kernel_rfl
theorem j7j {n:Nat} {x:List Nat} {st:Nat} {op:D} {vp vc:Option D} {σ:Sto}:(recN GG (n+17)).ev cS (LS x st op vp vc) σ (cmpL (testOf (sS 5)))=some (.int st,σ):=by kernel_rfl
theorem j7k:isCall GG cS "len" (cmpR (testOf (sS 5)))=true:=by kernel_rfl
theorem j2r {n:Nat} {x:List Nat} {st:Nat} {op:D} {vp vc:Option D} {σ:Sto}:evs (recN GG (n+16)) cS (LS x st op vp vc) σ (methA (cmpR (testOf (sS 5))))=some ([.str x],σ):=by kernel_rfl
noncomputable abbrev sS5a:Stmt:=sel (thenOf (sS 5)) 0
theorem j7l:thenOf (sS 5)=[sS5a]:=by kernel_rfl
theorem v3d:elseOf (sS 5)=[]:=by kernel_rfl
theorem j2s:isApp sS5a=true:=by kernel_rfl
theorem j2t {n:Nat} {x:List Nat} {st:Nat} {op:D} {vp vc:Option D} {σ:Sto}:(recN GG (n+12)).ev cS (LS x st op vp vc) σ (appO sS5a)=some (.loc 0,σ):=by kernel_rfl
theorem j2u {n:Nat} {x:List Nat} {st:Nat} {op:D} {vp vc:Option D} {σ:Sto}:(recN GG (n+12)).ev cS (LS x st op vp vc) σ (appE sS5a)=(sliceD σ (some (st:Int)) none (.str x)).map fun d=>(d,σ):=by kernel_rfl
theorem j7m {n:Nat} {L:Loc} {σ:Sto}:(recN GG (n+19)).ex cS L σ (sS 6)=((recN GG (n+18)).ev cS L σ (retE (sS 6))).map fun r=>(.ret r.1,L,r.2):=by kernel_rfl
theorem j7n:isMeth "join" (retE (sS 6))=true:=by kernel_rfl
theorem j7o {n:Nat} {L:Loc} {σ:Sto}:(recN GG (n+17)).ev cS L σ (methO (retE (sS 6)))=some (.str [],σ):=by kernel_rfl
theorem j7p {n:Nat} {x:List Nat} {st:Nat} {op:D} {vp vc:Option D} {σ:Sto}:evs (recN GG (n+17)) cS (LS x st op vp vc) σ (methA (retE (sS 6)))=some ([.loc 0],σ):=by kernel_rfl
theorem q2v {R:Rec} {σ:Sto} {d:D} {n:Nat} (h:lenD σ d=some (n:Int)) (hn:n≤9223372036854775807):callD GG R σ (sO "len") [d]=some (.int n,σ):=by
  have h3:builtinD σ (sO "len") [d]=(lenD σ d).map .int:=by kernel_rfl
  exact q6a (by kernel_rfl) (by kernel_rfl) (h3.trans (ms h)) (Nat.ble_eq_true_of_le hn)
theorem z3u {σ:Sto} {x:List Nat} {a b:Nat} (hx:x.length≤LIM):sliceD σ (some (a:Int)) (some (b:Int)) (.str x)=some (.str ((x.take b).drop a)):=by
  have h:((x.length:Int).toNat≤LIM):=hx
  exact (if_pos h).trans (congrArg (fun y=>some (D.str y)) (j6t ..))
theorem z0d {σ:Sto} {x:List Nat} {a:Nat} (hx:x.length≤LIM):sliceD σ (some (a:Int)) none (.str x)=some (.str (x.drop a)):=by
  have h:((x.length:Int).toNat≤LIM):=hx
  exact (if_pos h).trans (congrArg (fun y=>some (D.str y)) (z3k ..))
theorem q3z {n:Nat} {x:List Nat} (hx:x.length≤LIM):∀ (items:List (Nat × List Nat)) (st:Nat) (op:Option Nat) (res:List (List Nat)) (vp vc:Option D),res.length+items.length≤LIM→
    ∃ vp' vc',forItems (recN GG (n+18)) cS (targetOf (sS 4)) (bodyOf (sS 4)) (LS x st (opD op) vp vc) [res.map .str] (items.map itD) =
      some (.next,LS x (stripLoop x items st op res).1 (opD (stripLoop x items st op res).2.1) vp' vc',[(stripLoop x items st op res).2.2.map .str])
  | [],st,op,res,vp,vc,_=>⟨vp,vc,rfl⟩
  | (p,s)::r,st,op,res,vp,vc,hl=>by
    dsimp only [List.length_cons] at hl
    rw [List.map_cons]
    have hts:(recN GG (n+17)).ts cS (LS x st (opD op) (some (.int p)) (some (.str s))) [res.map .str] (testOf sSb)=some (s==[34],[res.map .str]):=j2p
    have step:∀ {L2:Loc} {σ2:Sto},exs (recN GG (n+17)) cS (LS x st (opD op) (some (.int p)) (some (.str s))) [res.map .str] (if (s==[34])=true then thenOf sSb else elseOf sSb)=some (.next,L2,σ2)→
        forItems (recN GG (n+18)) cS (targetOf (sS 4)) (bodyOf (sS 4)) (LS x st (opD op) vp vc) [res.map .str] (itD (p,s)::r.map itD)=forItems (recN GG (n+18)) cS (targetOf (sS 4)) (bodyOf (sS 4)) L2 σ2 (r.map itD):=by
      intro L2 σ2 h
      refine q1i (z9b (n:=0)) ?_
      rw [k3h]
      refine (q0c (L':=L2) (σ':=σ2) ?_).trans q0j
      exact h
    by_cases h34:s=[34]
    · have hb:(s==[34])=true:=by simpa using h34
      rw [hb] at step
      simp only [if_true,k3i] at step
      induction op using Mine.oC with
      | none=>
        rw [step (q0c z9c)]
        have:stripLoop x ((p,s)::r) st none res=stripLoop x r st (some p) res:=by simp only [q1a,q1b,q1c,h34,if_true]
        rw [this]
        exact q3z hx r st (some p) res _ _ (by exact Nat.le_of_lt (by assumption))
      | some o=>
        have key:exs (recN GG (n+17)) cS (LS x st (opD (some o)) (some (.int p)) (some (.str s))) [res.map .str] [sSo]=some (.next,LS x (p+1) .none (some (.int p)) (some (.str s)),[(if st=o then res else res++[(x.take o).drop st]).map .str]):=by
          have h1:(recN GG (n+17)).ex cS (LS x st (.int o) (some (.int p)) (some (.str s))) [res.map .str] sSo=some (.next,LS x (p+1) .none (some (.int p)) (some (.str s)),[(if st=o then res else res++[(x.take o).drop st]).map .str]):=by
            rw [z5o,j7d]
            by_cases hso:st=o
            · have h2:(recN GG (n+16)).ex cS (LS x st (.int o) (some (.int p)) (some (.str s))) [res.map .str] sSi=some (.next,LS x st (.int o) (some (.int p)) (some (.str s)),[res.map .str]):=by
                rw [q0m,q1s z3s z3t]
                have:(!((st:Int)==(o:Int)))=false:=by simp [hso]
                rw [this]
                exact q0j
              rw [q0c h2,z0c,if_pos hso]
            · have h2:(recN GG (n+16)).ex cS (LS x st (.int o) (some (.int p)) (some (.str s))) [res.map .str] sSi=some (.next,LS x st (.int o) (some (.int p)) (some (.str s)),[res.map .str++[.str ((x.take o).drop st)]]):=by
                rw [q0m,q1s z3s z3t]
                have:(!((st:Int)==(o:Int)))=true:=by simp;omega
                rw [this]
                simp only [if_true,j7e]
                refine (q0c ?_).trans q0j
                refine q1z (n:=n+13) j7f rfl j7g (d:=.str ((x.take o).drop st)) ?_ (show ([res.map D.str]:Sto)[0]?=some (res.map D.str) from rfl) (by simp;omega)
                rw [j7h,z3u hx];rfl
              rw [q0c h2,z0c,if_neg hso]
              simp
          exact (q0c h1).trans q0j
        rw [step key]
        have:stripLoop x ((p,s)::r) st (some o) res=stripLoop x r (p+1) none (if st=o then res else res++[(x.take o).drop st]):=by simp only [q1a,q1b,q1c,h34,if_true]
        rw [this]
        refine q3z hx r (p+1) none _ _ _ ?_
        have h2:(if st=o then res else res++[(x.take o).drop st]).length≤res.length+1:=by split<;>simp
        omega
    · have hb:(s==[34])=false:=by simpa using h34
      rw [hb] at step
      rw [step q0j]
      have:stripLoop x ((p,s)::r) st op res=stripLoop x r st op res:=by induction op using Mine.oC<;>simp only [q1a,q1b,q1c,h34,if_false]
      rw [this]
      exact q3z hx r st op res _ _ (by exact Nat.le_of_lt (by assumption))
theorem j7q {n:Nat} {x:List Nat} (hx:x.length+2≤LIM):(recN GG (n+20)).ca (sO fS) [.str x] []=some (.str (stO x),[]):=by
  rw [z5n,z8z]
  have h0i:isIf (sS 0)=true:=by kernel_rfl
  have h0e:elseOf (sS 0)=[]:=by kernel_rfl
  induction hc:x.contains 34 using q2i with
  | false=>
    have h0:(recN GG (n+19)).ex cS [(sO "addr",some (.str x)),(sO "start",none),(sO "open_pos",none),(sO "result",none),(sO "pos",none),(sO "ch",none)] [] (sS 0)=some (.ret (.str x),[(sO "addr",some (.str x)),(sO "start",none),(sO "open_pos",none),(sO "result",none),(sO "pos",none),(sO "ch",none)],[]):=by
      rw [q0m,q1s h0i z7f,hc]
      exact j2o
    rw [q1r h0,j1v x.length x (Nat.le_refl _) hc]
    rfl
  | true=>
    have h0:(recN GG (n+19)).ex cS [(sO "addr",some (.str x)),(sO "start",none),(sO "open_pos",none),(sO "result",none),(sO "pos",none),(sO "ch",none)] [] (sS 0)=some (.next,[(sO "addr",some (.str x)),(sO "start",none),(sO "open_pos",none),(sO "result",none),(sO "pos",none),(sO "ch",none)],[]):=by
      rw [q0m,q1s h0i z7f,hc]
      exact q0j
    rw [q0c h0,z9a]
    refine q3i (q3z (n:=n) (x:=x) (by omega) (escaped 0 false x) 0 none [] none none (by have:=q2p x 0 false;dsimp only [List.length_nil];omega)) ?_;intro vp vc hl
    have hspec:=z8s x x.length x [] 0 none [] (Nat.le_refl _) rfl (Nat.le_refl _)
    have hlen:=q3s x (escaped 0 false x) 0 none []
    have helen:=q2p x 0 false
    simp only [List.length_nil,List.flatten_nil,List.nil_append,outAt,List.drop_nil] at hspec hlen
    generalize stripLoop x (escaped 0 false x) 0 none []=r at hl hspec hlen
    obtain ⟨st,op,res⟩:=r
    dsimp only  at hl hlen
    have hlf:(recN GG (n+19)).ex cS (LS x 0 .none none none) [[]] (sS 4)=some (.next,LS x st (opD op) vp vc,[res.map .str]):=by
      exact hl
    rw [q0c hlf]
    have hLx:Loc.find (sO "len") (LS x st (opD op) vp vc)=none:=by kernel_rfl
    have hlen63:x.length≤9223372036854775807:=by
      have:x.length+2≤65536:=hx
      omega
    have ht:(recN GG (n+18)).ts cS (LS x st (opD op) vp vc) [res.map .str] (testOf (sS 5))=some (decide ((st:Int)<(x.length:Int)),[res.map .str]):=by
      refine q1l (a:=.int st) (b:=.int x.length) j7i j7j ?_ rfl
      rw [q0b]
      exact q0l j7k hLx j2r (q2v rfl hlen63)
    have h5:(recN GG (n+19)).ex cS (LS x st (opD op) vp vc) [res.map .str] (sS 5)=some (.next,LS x st (opD op) vp vc,[(stripEnd x (st,op,res)).map .str]):=by
      rw [q0m,q1s j2q ht]
      by_cases hs:st<x.length
      · have:decide ((st:Int)<(x.length:Int))=true:=decide_eq_true (Int.ofNat_lt.mpr hs)
        rw [this]
        simp only [if_true,j7l]
        have ha:(recN GG (n+18)).ex cS (LS x st (opD op) vp vc) [res.map .str] sS5a=some (.next,LS x st (opD op) vp vc,[res.map .str++[.str (x.drop st)]]):=by
          refine q1z (n:=n+16) j2s rfl (j2t (n:=n+4)) (d:=.str (x.drop st)) ?_ (show ([res.map D.str]:Sto)[0]?=some (res.map D.str) from rfl) (by simp;omega)
          rw [j2u (n:=n+4),z0d (by omega)];rfl
        rw [q0c ha]
        unfold stripEnd
        rw [if_pos hs]
        rw [List.map_append];rfl
      · have:decide ((st:Int)<(x.length:Int))=false:=decide_eq_false (fun h=>hs (Int.ofNat_lt.mp h))
        rw [this]
        unfold stripEnd
        rw [if_neg hs]
        exact q0j
    rw [q0c h5]
    have h6:(recN GG (n+19)).ex cS (LS x st (opD op) vp vc) [(stripEnd x (st,op,res)).map .str] (sS 6)=some (.ret (.str (stO x)),LS x st (opD op) vp vc,[(stripEnd x (st,op,res)).map .str]):=by
      rw [j7m]
      have hfl:(stripEnd x (st,op,res)).flatten.length≤LIM:=by rw [hspec];have:=k3a x;omega
      have hel:(stripEnd x (st,op,res)).length≤LIM:=by
        unfold stripEnd
        split
        · simp only [List.length_append,List.length_cons,List.length_nil];omega
        · dsimp only ;omega
      rw [q0b,q8e j7n j7o j7p (j6m rfl hfl hel),hspec]
      rfl
    rw [q1r h6]
    rfl
noncomputable abbrev fC:String:="_check_parenthesis"
noncomputable abbrev cC:Cx:=cx fC
noncomputable abbrev sC (i:Nat):Stmt:=sel (bd fC) i
noncomputable def LC (x:List Nat) (h:Int) (vp vc:Option D):Loc:=[(sO "addr",some (.str x)),(sO "opens",some (.int h)),(sO "pos",vp),(sO "ch",vc)]
noncomputable def LC0 (x:List Nat):Loc:=[(sO "addr",some (.str x)),(sO "opens",none),(sO "pos",none),(sO "ch",none)]
theorem z5p {n:Nat} {x:List Nat}:(recN GG (n+30)).ca (sO fC) [.str x] []=(exs (recN GG (n+29)) cC (LC0 x) [] (bd fC)).bind (caEnd []):=by kernel_rfl
theorem z9d:bd fC=[sC 0,sC 1,sC 2,sC 3]:=by kernel_rfl
theorem j7r:isAsg "addr" (sC 0)=true:=by kernel_rfl
theorem j7s:isCall GG cC fS (valOf (sC 0))=true:=by kernel_rfl
theorem j7t {n:Nat} {x:List Nat}:evs (recN GG (n+27)) cC (LC0 x) [] (methA (valOf (sC 0)))=some ([.str x],[]):=by kernel_rfl
theorem k3j {n:Nat} {x:List Nat}:(recN GG (n+29)).ex cC (LC0 x) [] (sC 1)=some (.next,LC x 0 none none,[]):=by kernel_rfl
theorem k3k {n:Nat} {x:List Nat}:(recN GG (n+29)).ex cC (LC x 0 none none) [] (sC 2)=forItems (recN GG (n+28)) cC (targetOf (sC 2)) (bodyOf (sC 2)) (LC x 0 none none) [] (escD x):=by kernel_rfl
theorem q4a {n:Nat} {x s:List Nat} {p:Nat} {h:Int} {vp vc:Option D} {σ:Sto}:give cC.sc σ (targetOf (sC 2)) (.tup [.int p,.str s]) (LC x h vp vc)=some (LC x h (some (.int p)) (some (.str s))):=by kernel_rfl
noncomputable abbrev sCb:Stmt:=sel (bodyOf (sC 2)) 0
noncomputable abbrev sCe:Stmt:=sel (elseOf sCb) 0
theorem k3l:bodyOf (sC 2)=[sCb]:=by kernel_rfl
theorem v3e:isIf sCb=true:=by kernel_rfl
theorem v3f {n:Nat} {x s:List Nat} {h:Int} {vp:Option D} {σ:Sto}:(recN GG (n+27)).ts cC (LC x h vp (some (.str s))) σ (testOf sCb)=some (s==[40],σ):=by kernel_rfl
theorem j7u {n:Nat} {x:List Nat} {h:Int} {vp vc:Option D} {σ:Sto}:exs (recN GG (n+27)) cC (LC x h vp vc) σ (thenOf sCb)=some (.next,LC x (h+1) vp vc,σ):=by kernel_rfl
theorem v3g:elseOf sCb=[sCe]:=by kernel_rfl
theorem v3h:isIf sCe=true:=by kernel_rfl
theorem v3i {n:Nat} {x s:List Nat} {h:Int} {vp:Option D} {σ:Sto}:(recN GG (n+26)).ts cC (LC x h vp (some (.str s))) σ (testOf sCe)=some (s==[41],σ):=by kernel_rfl
theorem v3j:elseOf sCe=[]:=by kernel_rfl
noncomputable abbrev sCm:Stmt:=sel (thenOf sCe) 0
noncomputable abbrev sCn:Stmt:=sel (thenOf sCe) 1
theorem j7v:thenOf sCe=[sCm,sCn]:=by kernel_rfl
theorem j2v {n:Nat} {x:List Nat} {h:Int} {vp vc:Option D} {σ:Sto}:(recN GG (n+26)).ex cC (LC x h vp vc) σ sCm=some (.next,LC x (h - 1) vp vc,σ):=by kernel_rfl
theorem z7g:isIf sCn=true:=by kernel_rfl
theorem z7h {n:Nat} {x:List Nat} {h:Int} {vp vc:Option D} {σ:Sto}:(recN GG (n+25)).ts cC (LC x h vp vc) σ (testOf sCn)=some (decide (h<0),σ):=by kernel_rfl
theorem j7w {n:Nat} {x:List Nat} {h:Int} {vp vc:Option D} {σ:Sto}:exs (recN GG (n+25)) cC (LC x h vp vc) σ (thenOf sCn)=some (.ret (.bool false),LC x h vp vc,σ):=by kernel_rfl
theorem v3k:elseOf sCn=[]:=by kernel_rfl
theorem v3z {n:Nat} {x:List Nat} {h:Int} {vp vc:Option D}:(recN GG (n+29)).ex cC (LC x h vp vc) [] (sC 3)=some (.ret (.bool (h==0)),LC x h vp vc,[]):=by kernel_rfl
theorem q4b {n:Nat} {x:List Nat}:∀ (items:List (Nat × List Nat)) (h:Int) (vp vc:Option D),
    (∃ h' vp' vc',ckItems items h=some h'∧forItems (recN GG (n+28)) cC (targetOf (sC 2)) (bodyOf (sC 2)) (LC x h vp vc) [] (items.map itD)=some (.next,LC x h' vp' vc',[]))∨
    (ckItems items h=none∧∃ L',forItems (recN GG (n+28)) cC (targetOf (sC 2)) (bodyOf (sC 2)) (LC x h vp vc) [] (items.map itD)=some (.ret (.bool false),L',[]))
  | [],h,vp,vc=>Or.inl ⟨h,vp,vc,rfl,rfl⟩
  | (p,s)::r,h,vp,vc=>by
    rw [List.map_cons]
    dsimp only [ckItems]
    have one:∀ {fl:Fl} {L2:Loc},exs (recN GG (n+27)) cC (LC x h (some (.int p)) (some (.str s))) [] (if (s==[40])=true then thenOf sCb else elseOf sCb)=some (fl,L2,[])→
        exs (recN GG (n+28)) cC (LC x h (some (.int p)) (some (.str s))) [] (bodyOf (sC 2))=some (fl,L2,[]):=by
      intro fl L2 hx
      have hb:(recN GG (n+28)).ex cC (LC x h (some (.int p)) (some (.str s))) [] sCb=some (fl,L2,[]):=by exact hx
      rw [k3l]
      cases fl with
      | next=>exact (q0c hb).trans q0j
      | brk=>exact z5c hb
      | cont=>exact q6x hb
      | ret d=>exact q1r hb
    by_cases h40:s=[40]
    · rw [if_pos h40]
      have hb:(s==[40])=true:=by simpa using h40
      rw [hb] at one
      rw [q1i (d:=itD (p,s)) (q4a (n:=0)) (one j7u)]
      exact q4b r (h+1) _ _
    · rw [if_neg h40]
      have hb:(s==[40])=false:=by simpa using h40
      rw [hb] at one
      have two:∀ {fl:Fl} {L2:Loc},exs (recN GG (n+26)) cC (LC x h (some (.int p)) (some (.str s))) [] (if (s==[41])=true then thenOf sCe else elseOf sCe)=some (fl,L2,[])→
          exs (recN GG (n+27)) cC (LC x h (some (.int p)) (some (.str s))) [] [sCe]=some (fl,L2,[]):=by
        intro fl L2 hx
        have hb:(recN GG (n+27)).ex cC (LC x h (some (.int p)) (some (.str s))) [] sCe=some (fl,L2,[]):=by exact hx
        cases fl with
        | next=>exact (q0c hb).trans q0j
        | brk=>exact z5c hb
        | cont=>exact q6x hb
        | ret d=>exact q1r hb
      by_cases h41:s=[41]
      · rw [if_pos h41]
        have hb:(s==[41])=true:=by simpa using h41
        rw [hb] at two
        simp only [if_true,j7v] at two
        by_cases hneg:h - 1<0
        · rw [if_pos hneg]
          refine Or.inr ⟨rfl,LC x (h - 1) (some (.int p)) (some (.str s)),?_⟩
          refine z5d (d:=itD (p,s)) (q4a (n:=0)) (one (two ?_))
          rw [q0c j2v]
          refine q1r ?_
          rw [q0m,q1s z7g z7h,decide_eq_true hneg]
          exact j7w
        · rw [if_neg hneg]
          have hb:exs (recN GG (n+26)) cC (LC x h (some (.int p)) (some (.str s))) [] [sCm,sCn]=some (.next,LC x (h - 1) (some (.int p)) (some (.str s)),[]):=by
            rw [q0c j2v]
            refine (q0c ?_).trans q0j
            rw [q0m,q1s z7g z7h,decide_eq_false hneg]
            exact q0j
          rw [q1i (d:=itD (p,s)) (q4a (n:=0)) (one (two hb))]
          exact q4b r (h - 1) _ _
      · rw [if_neg h41]
        have hb:(s==[41])=false:=by simpa using h41
        rw [hb] at two
        rw [q1i (d:=itD (p,s)) (q4a (n:=0)) (one (two q0j))]
        exact q4b r h _ _
theorem z7i {n:Nat} {x:List Nat} (hx:x.length+2≤LIM):(recN GG (n+30)).ca (sO fC) [.str x] []=some (.bool (checkS x),[]):=by
  rw [z5p,z9d]
  have hLs:Loc.find (sO fS) (LC0 x)=none:=by kernel_rfl
  have h0:(recN GG (n+29)).ex cC (LC0 x) [] (sC 0)=some (.next,LC0 (stO x),[]):=by
    refine q0p (n:=n+28) (d:=.str (stO x)) j7r (by kernel_rfl) (by kernel_rfl) ?_
    exact q0l j7s hLs j7t (q0s (f:=fS) (by kernel_rfl) rfl (j7q (n:=n+7) hx))
  rw [q0c h0,q0c k3j]
  have hs2:=k3k (n:=n) (x:=stO x)
  unfold checkS
  rw [← j6v (stO x).length (stO x) 0 0 (Nat.le_refl _)]
  rcases q4b (n:=n) (x:=stO x) (escaped 0 false (stO x)) 0 none none with ⟨h',vp,vc,h1,h2⟩ | ⟨h1,L',h2⟩
  · rw [q0c (hs2.trans h2),h1]
    have:(h'==(0:Int))=(some h'==some (0:Int)):=rfl
    rfl
  · rw [q1r (hs2.trans h2),h1]
    rfl
set_option maxRecDepth 100000
noncomputable abbrev fR:String:="_law_rules"
noncomputable abbrev cR:Cx:=cx fR
noncomputable abbrev sR (i:Nat):Stmt:=sel (bd fR) i
noncomputable def LR (cells words numbers rules k number sides:Option D):Loc:=[(sO "cells",cells),(sO "words",words),(sO "numbers",numbers),(sO "rules",rules),(sO "k",k),(sO "number",number),(sO "sides",sides)]
noncomputable def cells11 (c0 c1 c2 c3 c4 c5 c6 c7 c8 c9 c10:Int):D:=.list [.int c0,.int c1,.int c2,.int c3,.int c4,.int c5,.int c6,.int c7,.int c8,.int c9,.int c10]
noncomputable def wordsS:List (List Nat):=match (recN GG 5).ev cR [] [] (valOf (sR 0)) with
  | some (.list l,_)=>(strsOfD l).getD []
  | _=>[]
noncomputable def nums0:List Int:=(List.range 46).map fun i:Nat=>((9+i:Nat):Int)
noncomputable def ruleD (r:q3d):D:=.tup [.int r.h,.int r.l,.int r.r,.int r.num,.str r.w]
section
variable {n:Nat} {c0 c1 c2 c3 c4 c5 c6 c7 c8 c9 c10:Int}
theorem z5q:(recN GG (n+20)).ca (sO fR) [cells11 c0 c1 c2 c3 c4 c5 c6 c7 c8 c9 c10] []=(exs (recN GG (n+19)) cR (LR (some (cells11 c0 c1 c2 c3 c4 c5 c6 c7 c8 c9 c10)) none none none none none none) [] (bd fR)).bind (caEnd []):=by kernel_rfl
theorem z9e:bd fR=[sR 0,sR 1,sR 2,sR 3]:=by kernel_rfl
theorem k3m {cs:D}:(recN GG (n+19)).ex cR (LR (some cs) none none none none none none) [] (sR 0)=some (.next,LR (some cs) (some (.list (wordsS.map .str))) none none none none none,[]):=by kernel_rfl
theorem k3n {cs w:D}:(recN GG (n+19)).ex cR (LR (some cs) (some w) none none none none none) [] (sR 1)=some (.next,LR (some cs) (some w) (some (.loc 0)) (some (.loc 1)) none none none,[nums0.map .int,[]]):=by kernel_rfl
noncomputable abbrev LRk (cs w:D) (vk vn vs:Option D):Loc:=LR (some cs) (some w) (some (.loc 0)) (some (.loc 1)) vk vn vs
theorem j7x {cs w:D} {vk vn vs:Option D}:isForSeq GG cR (LRk cs w vk vn vs) (sR 2)=true:=by kernel_rfl
theorem j7y {cs w:D} {vk vn vs:Option D} {σ:Sto}:(recN GG (n+18)).ev cR (LRk cs w vk vn vs) σ (iterOf (sR 2))=some (.rng 0 3,σ):=by kernel_rfl
noncomputable abbrev sRb (i:Nat):Stmt:=sel (bodyOf (sR 2)) i
theorem k3o:bodyOf (sR 2)=[sRb 0,sRb 1,sRb 2]:=by kernel_rfl
theorem z9f {cs w:D} {k:Int} {vk vn vs:Option D} {σ:Sto}:give cR.sc σ (targetOf (sR 2)) (.int k) (LRk cs w vk vn vs)=some (LRk cs w (some (.int k)) vn vs):=by kernel_rfl
theorem j2w:isAsg "number" (sRb 0)=true:=by kernel_rfl
theorem j2x:isMeth "pop" (valOf (sRb 0))=true:=by kernel_rfl
theorem j2y {cs w:D} {vk vn vs:Option D} {σ:Sto}:(recN GG (n+16)).ev cR (LRk cs w vk vn vs) σ (methO (valOf (sRb 0)))=some (.loc 0,σ):=by kernel_rfl
noncomputable abbrev eRp:PySem.Expr:=(methA (valOf (sRb 0))).getD 0 (.Constant .none 0 default)
theorem j2z:methA (valOf (sRb 0))=[eRp]:=by kernel_rfl
theorem k3p:isBin .Mod eRp=true:=by kernel_rfl
theorem j7z:isCall GG cR "len" (binR eRp)=true:=by kernel_rfl
theorem j3a {cs w:D} {vk vn vs:Option D} {σ:Sto}:evs (recN GG (n+14)) cR (LRk cs w vk vn vs) σ (methA (binR eRp))=some ([.loc 0],σ):=by kernel_rfl
theorem j8a {w:D} {k:Nat} (hk:k<3) {vn vs:Option D} {σ:Sto}:(recN GG (n+15)).ev cR (LRk (cells11 c0 c1 c2 c3 c4 c5 c6 c7 c8 c9 c10) w (some (.int k)) vn vs) σ (binL eRp)=some (.int (Int.fdiv ([c0,c1,c2].getD k 0) 8),σ):=by
  match k,hk with
  | 0,_=>kernel_rfl
  | 1,_=>kernel_rfl
  | 2,_=>kernel_rfl
theorem j8b {w:D} {k:Nat} (hk:k<3) {vn vs:Option D} {σ:Sto}:(recN GG (n+18)).ex cR (LRk (cells11 c0 c1 c2 c3 c4 c5 c6 c7 c8 c9 c10) w (some (.int k)) vn vs) σ (sRb 1) =
    some (.next,LRk (cells11 c0 c1 c2 c3 c4 c5 c6 c7 c8 c9 c10) w (some (.int k)) vn (some (.list [.int (256+(([c0,c1,c2].getD k 0).fdiv 2).fmod 2),.int (256+(([c0,c1,c2].getD k 0).fdiv 4).fmod 2)])),σ):=by
  match k,hk with
  | 0,_=>kernel_rfl
  | 1,_=>kernel_rfl
  | 2,_=>kernel_rfl
theorem j3b:isApp (sRb 2)=true:=by kernel_rfl
theorem j3c {cs w:D} {vk vn vs:Option D} {σ:Sto}:(recN GG (n+16)).ev cR (LRk cs w vk vn vs) σ (appO (sRb 2))=some (.loc 1,σ):=by kernel_rfl
noncomputable abbrev eRt:PySem.Expr:=appE (sRb 2)
theorem k3q:isTup eRt=true:=by kernel_rfl
theorem j8c:eltsOf eRt=[eltOf eRt 0,eltOf eRt 1,eltOf eRt 2,eltOf eRt 3,eltOf eRt 4]:=by kernel_rfl
theorem j8d {w:D} {k:Nat} (hk:k<3) {vn vs:Option D} {σ:Sto}:(recN GG (n+15)).ev cR (LRk (cells11 c0 c1 c2 c3 c4 c5 c6 c7 c8 c9 c10) w (some (.int k)) vn vs) σ (eltOf eRt 0)=some (.int ([256,257,256+([c0,c1,c2].getD k 0).fmod 2].getD k 0),σ):=by
  match k,hk with
  | 0,_=>kernel_rfl
  | 1,_=>kernel_rfl
  | 2,_=>kernel_rfl
theorem j8e {cs w:D} {vk vn:Option D} {a b:Int} {σ:Sto}:(recN GG (n+15)).ev cR (LRk cs w vk vn (some (.list [.int a,.int b]))) σ (eltOf eRt 1)=some (.int a,σ):=by kernel_rfl
theorem j8f {cs w:D} {vk vn:Option D} {a b:Int} {σ:Sto}:(recN GG (n+15)).ev cR (LRk cs w vk vn (some (.list [.int a,.int b]))) σ (eltOf eRt 2)=some (.int b,σ):=by kernel_rfl
theorem j8g {cs w:D} {vk vs:Option D} {num:Int} {σ:Sto}:(recN GG (n+15)).ev cR (LRk cs w vk (some (.int num)) vs) σ (eltOf eRt 3)=some (.int num,σ):=by kernel_rfl
theorem j3d:isItem (eltOf eRt 4)=true:=by kernel_rfl
theorem j3e {cs w:D} {vk vn vs:Option D} {σ:Sto}:(recN GG (n+14)).ev cR (LRk cs w vk vn vs) σ (itemO (eltOf eRt 4))=some (w,σ):=by kernel_rfl
theorem j3f {cs w:D} {vk vs:Option D} {num:Int} {σ:Sto}:(recN GG (n+14)).ev cR (LRk cs w vk (some (.int num)) vs) σ (itemI (eltOf eRt 4))=some (.int (num - 9),σ):=by kernel_rfl
theorem v4a {cs w:D} {vk vn vs:Option D} {σ:Sto}:(recN GG (n+19)).ex cR (LRk cs w vk vn vs) σ (sR 3)=some (.ret (.loc 1),LRk cs w vk vn vs,σ):=by kernel_rfl
end
theorem j3g:wordsS.length=46:=by decide +kernel
theorem z3v {α β:Type} (f:α→β):∀ (l:List α) (i:Nat),(l.map f).eraseIdx i=(l.eraseIdx i).map f
  | [],_=>rfl
  | _::_,0=>rfl
  | a::l,i+1=>by simp [z3v f l i]
noncomputable def pickI (c:Int) (m:Nat):Nat:=((c.fdiv 8).fmod m).toNat
theorem q4l {c:Int} {m:Nat} (h:0<m):pickI c m<m∧(c.fdiv 8).fmod m=(pickI c m:Int):=by
  have h1:0≤(c.fdiv 8).fmod m:=Int.fmod_nonneg_of_pos _ (by omega)
  have h2:(c.fdiv 8).fmod m<m:=Int.fmod_lt_of_pos _ (by omega)
  unfold pickI
  omega
noncomputable def ruleOf (c:Int) (k:Nat) (nums:List Int):q3d:=
  ⟨[256,257,256+c.fmod 2].getD k 0,256+(c.fdiv 2).fmod 2,256+(c.fdiv 4).fmod 2,nums.getD (pickI c nums.length) 0,wordsS.getD (nums.getD (pickI c nums.length) 0 - 9).toNat []⟩
section
variable {n:Nat} {c0 c1 c2 c3 c4 c5 c6 c7 c8 c9 c10:Int}
theorem q6c {w:D} (hw:w=.list (wordsS.map .str)) {k:Nat} (hk:k<3) {vk vn vs:Option D} {nums:List Int} {rs:List q3d} (hn:1≤nums.length∧nums.length≤46) (hr:∀ x∈nums,9≤x∧x≤54) (hrs:rs.length≤3) {ds:List D} :
    ∃ vn' vs',forItems (recN GG (n+18)) cR (targetOf (sR 2)) (bodyOf (sR 2)) (LRk (cells11 c0 c1 c2 c3 c4 c5 c6 c7 c8 c9 c10) w vk vn vs) [nums.map .int,rs.map ruleD] (.int k::ds) =
      forItems (recN GG (n+18)) cR (targetOf (sR 2)) (bodyOf (sR 2)) (LRk (cells11 c0 c1 c2 c3 c4 c5 c6 c7 c8 c9 c10) w (some (.int k)) vn' vs') [(nums.eraseIdx (pickI ([c0,c1,c2].getD k 0) nums.length)).map .int,(rs++[ruleOf ([c0,c1,c2].getD k 0) k nums]).map ruleD] ds:=by
  generalize hc:[c0,c1,c2].getD k 0=c
  obtain ⟨p1,p2⟩:=q4l (c:=c) (m:=nums.length) hn.1
  have hget:nums[pickI c nums.length]?=some (nums.getD (pickI c nums.length) 0):=by
    rw [List.getD_eq_getElem?_getD,List.getElem?_eq_getElem p1];rfl
  generalize hnum:nums.getD (pickI c nums.length) 0=num at hget
  obtain ⟨m1,m2⟩:=hr num (List.mem_of_getElem? hget)
  have hL:LIM=65536:=rfl
  refine ⟨some (.int num),some (.list [.int (256+(c.fdiv 2).fmod 2),.int (256+(c.fdiv 4).fmod 2)]),q1i z9f ?_⟩
  rw [k3o]
  have hb0:(recN GG (n+18)).ex cR (LRk (cells11 c0 c1 c2 c3 c4 c5 c6 c7 c8 c9 c10) w (some (.int k)) vn vs) [nums.map .int,rs.map ruleD] (sRb 0) =
      some (.next,LRk (cells11 c0 c1 c2 c3 c4 c5 c6 c7 c8 c9 c10) w (some (.int k)) (some (.int num)) vs,[(nums.eraseIdx (pickI c nums.length)).map .int,rs.map ruleD]):=by
    refine q0p (n:=n+17) (x:="number") (d:=.int num) j2w (by kernel_rfl) (by kernel_rfl) ?_
    rw [q0b]
    refine z1b (o:=.loc 0) (ds:=[.int (pickI c nums.length)]) (σ1:=[nums.map .int,rs.map ruleD]) (σ2:=[nums.map .int,rs.map ruleD]) j2x rfl j2y ?_ j1q ?_
    · rw [j2z]
      refine z6v (σ1:=[nums.map .int,rs.map ruleD]) ?_ q0o
      rw [q0b]
      refine q0r (a:=.int (c.fdiv 8)) (b:=.int (nums.length:Nat)) (σ1:=[nums.map .int,rs.map ruleD]) k3p rfl ?_ ?_ ?_
      · rw [j8a hk,hc]
      · rw [q0b]
        refine q0l (f:="len") j7z (by kernel_rfl) j3a (q2v ?_ (by omega))
        show some (((nums.map D.int).length:Nat):Int)=_
        rw [List.length_map]
      · have:((nums.length:Int) !=0)=true:=by
          simp only [bne_iff_ne,ne_eq]
          omega
        rw [z5e this,p2]
    · have:=j6o (σ:=[nums.map .int,rs.map ruleD]) (k:=0) (l:=nums.map .int) (i:=pickI c nums.length) (d:=.int num) rfl (by simp [hget]) (by simp;omega)
      rw [this]
      simp [z3v]
  have hb1:=j8b (n:=n) (c0:=c0) (c1:=c1) (c2:=c2) (c3:=c3) (c4:=c4) (c5:=c5) (c6:=c6) (c7:=c7) (c8:=c8) (c9:=c9) (c10:=c10) (w:=w) hk (vn:=some (.int num)) (vs:=vs) (σ:=[(nums.eraseIdx (pickI c nums.length)).map .int,rs.map ruleD])
  rw [hc] at hb1
  have hidx:num - 9=(((num - 9).toNat:Nat):Int):=by omega
  have hword:wordsS[(num - 9).toNat]?=some (wordsS.getD (num - 9).toNat []):=by
    have:(num - 9).toNat<wordsS.length:=by rw [j3g];omega
    rw [List.getD_eq_getElem?_getD,List.getElem?_eq_getElem this];rfl
  have hb2:(recN GG (n+18)).ex cR (LRk (cells11 c0 c1 c2 c3 c4 c5 c6 c7 c8 c9 c10) w (some (.int k)) (some (.int num)) (some (.list [.int (256+(c.fdiv 2).fmod 2),.int (256+(c.fdiv 4).fmod 2)]))) [(nums.eraseIdx (pickI c nums.length)).map .int,rs.map ruleD] (sRb 2) =
      some (.next,LRk (cells11 c0 c1 c2 c3 c4 c5 c6 c7 c8 c9 c10) w (some (.int k)) (some (.int num)) (some (.list [.int (256+(c.fdiv 2).fmod 2),.int (256+(c.fdiv 4).fmod 2)])),[(nums.eraseIdx (pickI c nums.length)).map .int,(rs++[ruleOf c k nums]).map ruleD]):=by
    have ha:=q1z (n:=n+16) (G:=GG) (c:=cR) (st:=sRb 2) (L:=LRk (cells11 c0 c1 c2 c3 c4 c5 c6 c7 c8 c9 c10) w (some (.int k)) (some (.int num)) (some (.list [.int (256+(c.fdiv 2).fmod 2),.int (256+(c.fdiv 4).fmod 2)])))
      (σ:=[(nums.eraseIdx (pickI c nums.length)).map .int,rs.map ruleD]) (σ':=[(nums.eraseIdx (pickI c nums.length)).map .int,rs.map ruleD]) (k:=1) (l:=rs.map ruleD) (d:=ruleD (ruleOf c k nums)) j3b rfl j3c ?_ rfl (by simp;exact Nat.le_trans (by assumption) (Nat.le_of_ble_eq_true rfl))
    · rw [ha];simp
    · rw [q0b]
      have hrule:ruleD (ruleOf c k nums)=.tup [.int ([256,257,256+c.fmod 2].getD k 0),.int (256+(c.fdiv 2).fmod 2),.int (256+(c.fdiv 4).fmod 2),.int num,.str (wordsS.getD (num - 9).toNat [])]:=by
        unfold ruleD ruleOf
        rw [hnum]
      rw [hrule]
      refine q3c k3q ?_
      rw [j8c]
      refine q0e ?_ (q0e j8e (q0e j8f (q0e j8g (q0e ?_ q0o))))
      · rw [j8d hk,hc]
      · rw [q0b]
        refine q0z j3d j3e j3f ?_
        have hi:D.int (num - 9)=D.int (((num - 9).toNat:Nat):Int):=congrArg D.int hidx
        rw [hw,hi]
        refine q2h ?_ (by omega)
        rw [List.getElem?_map,hword]
        rfl
  rw [q0c hb0,q0c hb1,q0c hb2]
  exact q0j
noncomputable def rulesS (c0 c1 c2:Int):List q3d:=
  [ruleOf c0 0 nums0,ruleOf c1 1 (nums0.eraseIdx (pickI c0 nums0.length)),ruleOf c2 2 ((nums0.eraseIdx (pickI c0 nums0.length)).eraseIdx (pickI c1 (nums0.eraseIdx (pickI c0 nums0.length)).length))]
theorem q5j:∀ x∈nums0,9≤x∧x≤54:=by
  intro x hx
  unfold nums0 at hx
  simp only [List.mem_map,List.mem_range] at hx
  refine q0a hx ?_;clear hx;intro i h1 zw2;rcases zw2 with rfl
  omega
theorem z3w:nums0.length=46:=rfl
theorem q5k {l:List Int} {i:Nat}:∀ x∈l.eraseIdx i,x∈l:=fun x hx=>List.mem_of_mem_eraseIdx hx
theorem q5l {l:List Int} {i:Nat} (h:i<l.length):(l.eraseIdx i).length=l.length - 1:=List.length_eraseIdx_of_lt h
theorem j8h:(recN GG (n+20)).ca (sO fR) [cells11 c0 c1 c2 c3 c4 c5 c6 c7 c8 c9 c10] []=some (.list ((rulesS c0 c1 c2).map ruleD),[]):=by
  rw [z5q,z9e,q0c k3m,q0c k3n]
  obtain ⟨p1,_⟩:=q4l (c:=c0) (m:=nums0.length) (by decide)
  have l1:=q5l p1
  generalize hn1:nums0.eraseIdx (pickI c0 nums0.length)=n1 at l1
  have m1:∀ x∈n1,9≤x∧x≤54:=fun x hx=>q5j x (q5k x (hn1▸hx))
  rw [z3w] at l1
  obtain ⟨p2,_⟩:=q4l (c:=c1) (m:=n1.length) (by omega)
  have l2:=q5l p2
  generalize hn2:n1.eraseIdx (pickI c1 n1.length)=n2 at l2
  have m2:∀ x∈n2,9≤x∧x≤54:=fun x hx=>m1 x (q5k x (hn2▸hx))
  have hfor:=q8f (n:=n+18) (G:=GG) (c:=cR) (L:=LRk (cells11 c0 c1 c2 c3 c4 c5 c6 c7 c8 c9 c10) (.list (wordsS.map .str)) none none none) (σ:=[nums0.map .int,[]]) (σ':=[nums0.map .int,[]]) (d:=.rng 0 3) (items:=[.int (0:Nat),.int (1:Nat),.int (2:Nat)]) j7x j7y rfl (by decide)
  refine q0d fun hn=>?_
  refine q3i (q6c (n:=n) (c0:=c0) (c1:=c1) (c2:=c2) (c3:=c3) (c4:=c4) (c5:=c5) (c6:=c6) (c7:=c7) (c8:=c8) (c9:=c9) (c10:=c10) (w:=.list (wordsS.map .str)) rfl (k:=0) (by decide) (vk:=none) (vn:=none) (vs:=none) (nums:=nums0) (rs:=[]) (by decide) q5j (by simp) (ds:=[.int (1:Nat),.int (2:Nat)])) ?_;intro v0 w0 t0
  refine q3i (q6c (n:=n) (c0:=c0) (c1:=c1) (c2:=c2) (c3:=c3) (c4:=c4) (c5:=c5) (c6:=c6) (c7:=c7) (c8:=c8) (c9:=c9) (c10:=c10) (w:=.list (wordsS.map .str)) rfl (k:=1) (by decide) (vk:=some (.int (0:Nat))) (vn:=v0) (vs:=w0) (nums:=n1) (rs:=[ruleOf c0 0 nums0]) (by omega) m1 (by simp) (ds:=[.int (2:Nat)])) ?_;intro v1 w1 t1
  refine q3i (q6c (n:=n) (c0:=c0) (c1:=c1) (c2:=c2) (c3:=c3) (c4:=c4) (c5:=c5) (c6:=c6) (c7:=c7) (c8:=c8) (c9:=c9) (c10:=c10) (w:=.list (wordsS.map .str)) rfl (k:=2) (by decide) (vk:=some (.int (1:Nat))) (vn:=v1) (vs:=w1) (nums:=n2) (rs:=[ruleOf c0 0 nums0,ruleOf c1 1 n1]) (by omega) m2 (by simp) (ds:=[])) ?_;intro v2 w2 t2
  refine hn ?_
  have e0:[c0,c1,c2].getD 0 0=c0:=rfl
  have e1:[c0,c1,c2].getD 1 0=c1:=rfl
  have e2:[c0,c1,c2].getD 2 0=c2:=rfl
  rw [e0,hn1] at t0
  rw [e1,hn2] at t1
  have hall:(recN GG (n+19)).ex cR (LRk (cells11 c0 c1 c2 c3 c4 c5 c6 c7 c8 c9 c10) (.list (wordsS.map .str)) none none none) [nums0.map .int,[]] (sR 2)=_:=hfor.trans (t0.trans (t1.trans (t2.trans k2u)))
  rw [q0c hall]
  unfold rulesS
  rw [hn1,hn2]
  rfl
end
set_option maxRecDepth 100000
set_option maxHeartbeats 4000000
theorem q5m {tab:List (Str × Int)} {σ:Sto} {l:List D} {i:Nat} (h:i<l.length) (hi:i<1000000):itemD tab σ (.list l) (.int (i:Int))=some (l.getD i .none):=by
  refine q2h ?_ (by exact Nat.le_of_lt (by assumption))
  rw [List.getD_eq_getElem?_getD,List.getElem?_eq_getElem h];rfl
theorem v7t {x:String}:GG.gen (Str.ofString x)=decide (x="_iter_escaped_chars"):=by
  show decide (Str.ofString x=Str.ofString "_iter_escaped_chars")=_
  exact decide_eq_decide.mpr (by rw [z3h])
theorem z1q {R:Rec} {σ:Sto} {i:Int} (h0:0≤i) (h1:i<1114112):callD GG R σ (Str.ofString "chr") [.int i]=some (.str [i.toNat],σ):=by
  have h3:builtinD σ (Str.ofString "chr") [.int i]=if decide (0≤i)&&decide (i<1114112) then some (.str [i.toNat]) else none:=by kernel_rfl
  exact q6a (by kernel_rfl) (by kernel_rfl) (h3.trans (if_pos (Bool.and_eq_true_iff.mpr ⟨decide_eq_true h0,decide_eq_true h1⟩))) rfl
noncomputable abbrev fL:String:="_law_leaf"
noncomputable def cL:Cx:=cx fL
theorem v4b:cL.deep=false:=rfl
theorem v6s:cL.eff=true:=rfl
theorem v4c {x:Str}:cL.muts.contains x=false:=rfl
theorem k9j:["held","bold","one","marked","menu"].all (fun x=>ownName cL.sc (Str.ofString x))=true:=by kernel_rfl
theorem w2r {x:String} (h:x∈["held","bold","one","marked","menu"]):ownName cL.sc (Str.ofString x)=true:=List.all_eq_true.mp k9j x h
theorem v6t:isGlobal cL.sc (Str.ofString "chr")=true:=by kernel_rfl
noncomputable abbrev sL (i:Nat):Stmt:=sel (bd fL) i
noncomputable def LL (head y:Int) (held bold one marked menu:Option D):Loc:=[(sO "head",some (.int head)),(sO "y",some (.int y)),(sO "held",held),(sO "bold",bold),(sO "one",one),(sO "marked",marked),(sO "menu",menu)]
noncomputable def shifts:List Int:=[0,52,104,208,312,364,416,468,520,572,624]
noncomputable def heldI:List Int:=match (recN GG 10).ev cL [] [] (valOf (sL 0)) with
  | some (.list l,_)=>(intsOfD l).getD []
  | _=>[]
noncomputable def boldI (a:Nat):Int:=119813+shifts.getD a 0
theorem j3h {a:Nat} (h:a<11):119813≤boldI a∧boldI a≤120437:=by
  have:∀ a,a<11→119813≤boldI a∧boldI a≤120437:=by decide
  exact this a h
theorem v3l:heldI.length=27:=by decide +kernel
theorem k3r:(heldI.all fun x=>decide (0≤x)&&decide (x<70000))=true:=by decide +kernel
section
variable {n:Nat} {head y:Int} {held bold one marked menu:Option D} {a b m f h d z t:Nat}
theorem z0e:(recN GG (n+30)).ca (sO fL) [.int head,.int y] []=(exs (recN GG (n+29)) cL (LL head y none none none none none) [] (bd fL)).bind (caEnd []):=by kernel_rfl
theorem z3x:bd fL=[sL 0,sL 1,sL 2,sL 3,sL 4,sL 5,sL 6]:=by kernel_rfl
theorem k1k:(recN GG (n+29)).ex cL (LL head y none none none none none) [] (sL 0)=some (.next,LL head y (some (.list (heldI.map .int))) none none none none,[]):=by kernel_rfl
theorem k1l (ha:(y.fdiv 5).fmod 11=a) (h11:a<11) :
   (recN GG (n+29)).ex cL (LL head y held none none none none) [] (sL 1)=some (.next,LL head y held (some (.int (boldI a))) none none none,[]):=by
  have hi:(shifts.map D.int)[a]?=some (.int (shifts.getD a 0)):=by
    have h:a<shifts.length:=h11
    rw [List.getElem?_map,List.getD_eq_getElem?_getD,List.getElem?_eq_getElem h];rfl
  refine q0p (n:=n+28) (x:="bold") (by kernel_rfl) (by rfl) (by kernel_rfl) ?_
  rw [q0b]
  refine q0r (op:=.Add) (a:=.int 119813) (b:=.int (shifts.getD a 0)) (σ1:=[]) (by kernel_rfl) rfl (by kernel_rfl) ?_ rfl
  rw [q0b]
  exact q0z (a:=.list (shifts.map .int)) (b:=.int ((y.fdiv 5).fmod 11)) (σ1:=[]) (by kernel_rfl) (by kernel_rfl) (by kernel_rfl) (by rw [ha];exact q2h hi (by exact Nat.le_trans (Nat.le_of_lt (by assumption)) (Nat.le_of_ble_eq_true rfl)))
theorem k1m (hb:(y.fdiv 5).fmod 2=b) (h2:b<2) (hd:∃ v,bold=some v) :
   (recN GG (n+29)).ex cL (LL head y held bold none none none) [] (sL 2)=some (.next,LL head y held bold (some (.str [40+b])) none none,[]):=by
  have hi:([40,41]:List Nat)[b]?=some (40+b):=by
    match b,h2 with
    | 0,_=>rfl
    | 1,_=>rfl
  refine q0p (n:=n+28) (x:="one") (by kernel_rfl) (by rfl) (by kernel_rfl) ?_
  rw [q0b]
  exact q0z (a:=.str [40,41]) (b:=.int ((y.fdiv 5).fmod 2)) (σ1:=[]) (by kernel_rfl) (by kernel_rfl) (by kernel_rfl) (by rw [hb];exact q5e hi (by exact Nat.le_trans (by assumption) (Nat.le_of_ble_eq_true rfl)))
noncomputable def markS (b m:Nat):List Nat:=[34]++(List.replicate m [40+b]).flatten++[34]
theorem k1n (hm:((y.fdiv 10)+1).fmod 4=m) (h4:m<4) :
   (recN GG (n+29)).ex cL (LL head y held bold (some (.str [40+b])) none none) [] (sL 3)=some (.next,LL head y held bold (some (.str [40+b])) (some (.str (markS b m))) none,[]):=by
  have g1:1*m≤LIM:=by show 1*m≤65536;omega
  have g2:m≤LIM:=by show m≤65536;exact Nat.le_trans (Nat.le_of_lt (by assumption)) (Nat.le_of_ble_eq_true rfl)
  have g3:1+((List.replicate m [40+b]).flatten).length≤LIM:=by simp;show 1+m≤65536;omega
  have g4:([34]++(List.replicate m [40+b]).flatten).length+1≤LIM:=by simp;show m+1+1≤65536;omega
  refine q0p (n:=n+28) (x:="marked") (by kernel_rfl) (by rfl) (by kernel_rfl) ?_
  rw [q0b]
  refine q0r (op:=.Add) (a:=.str ([34]++(List.replicate m [40+b]).flatten)) (b:=.str [34]) (σ1:=[]) (by kernel_rfl) rfl ?_ (by kernel_rfl) (q1n g4)
  rw [q0b]
  refine q0r (op:=.Add) (a:=.str [34]) (b:=.str (List.replicate m [40+b]).flatten) (σ1:=[]) (by kernel_rfl) rfl (by kernel_rfl) ?_ (q1n g3)
  rw [q0b]
  exact q0r (op:=.Mult) (a:=.str [40+b]) (b:=.int (((y.fdiv 10)+1).fmod 4)) (σ1:=[]) (by kernel_rfl) rfl (by kernel_rfl) (by kernel_rfl) (by rw [hm];exact z6x g1 g2)
noncomputable def fD (a f:Nat):D:=[D.str [102],D.str [70],D.str [8497],D.str [(boldI a).toNat]].getD f .none
noncomputable def gD (a f:Nat):D:=[D.str [105],D.str [73],D.str [8464],D.str [(boldI a+3).toNat]].getD f .none
noncomputable def menu0 (a f h:Nat):List D:=[.tup [fD a f,.list [.int 102]],.tup [.str [255],.list [.int 255]],.tup [.str [(heldI.getD h 0).toNat],.list [.int 0]]]
noncomputable def leaf0 (a b m f h d z:Nat):D:=(menu0 a f h++[D.tup [.str (markS b m),.list [.int 34,.int 34]],D.tup [.str ([92,92]++(List.replicate d (markS b m)).flatten),.list ([.int 92,.int 92]++(List.replicate d [D.int 34,D.int 34]).flatten)]]).getD z .none
theorem j3i:isIf (sL 4)=true:=by kernel_rfl
theorem j3j {L:Loc} (hh:Loc.find (sO "head") L=some (.int head)):(recN GG (n+28)).ts cL L [] (testOf (sL 4))=some (head==256,[]):=by
  rw [q0u]
  refine q1l (op:=.Eq) (a:=.int head) (b:=.int 256) (σ1:=[]) (by kernel_rfl) ?_ (by kernel_rfl) rfl
  rw [q0b]
  exact v3w (by kernel_rfl) (by exact hh)
noncomputable abbrev sLt (i:Nat):Stmt:=sel (thenOf (sL 4)) i
theorem k3s:thenOf (sL 4)=[sLt 0,sLt 1]:=by kernel_rfl
theorem v4d:elseOf (sL 4)=[]:=by kernel_rfl
theorem q6n {N:Nat} {L:Loc} {i:Int} {e:PySem.Expr} (hs:isCall GG cL "chr" e=true) (hL:Loc.find (Str.ofString "chr") L=none) (ha:evs (recN GG N) cL L [] (methA e)=some ([.int i],[])) (h0:0≤i) (h1:i<1114112):(recN GG (N+1)).ev cL L [] e=some (.str [i.toNat],[]):=by
  exact q0l hs hL ha (z1q h0 h1)
theorem k3t (hf:(y.fdiv 55).fmod 4=f) (f4:f<4) (hh:(y.fdiv 5).fmod 27=h) (h27:h<27) (a11:a<11) :
   (recN GG (n+28)).ex cL (LL head y (some (.list (heldI.map .int))) (some (.int (boldI a))) one marked none) [] (sLt 0)=some (.next,LL head y (some (.list (heldI.map .int))) (some (.int (boldI a))) one marked (some (.list (menu0 a f h))),[]):=by
  obtain ⟨b1,b2⟩:=j3h a11
  have g1:0≤boldI a:=by omega
  have g2:boldI a<1114112:=by omega
  have it1:=q5m (tab:=GG.tab) (σ:=[]) (l:=[D.str [102],D.str [70],D.str [8497],D.str [(boldI a).toNat]]) (i:=f) f4 (by exact Nat.le_trans (by assumption) (Nat.le_of_ble_eq_true rfl))
  have hlen:h<(heldI.map D.int).length:=by exact h27
  have hg:(heldI.map D.int)[h]?=some (.int (heldI.getD h 0)):=by
    rw [List.getElem?_map,List.getD_eq_getElem?_getD,List.getElem?_eq_getElem (by exact h27)];rfl
  have it2:=q2h (tab:=GG.tab) (σ:=[]) hg (by exact Nat.le_trans (Nat.le_of_lt (by assumption)) (Nat.le_of_ble_eq_true rfl))
  have hm:heldI.getD h 0∈heldI:=by
    rw [List.getD_eq_getElem?_getD,List.getElem?_eq_getElem (by exact h27)];exact List.getElem_mem _
  have hb:=List.all_eq_true.mp k3r _ hm
  simp only [Bool.and_eq_true,decide_eq_true_eq] at hb
  have g3:0≤heldI.getD h 0:=hb.1
  have g4:heldI.getD h 0<1114112:=by omega
  refine q0p (n:=n+27) (x:="menu") (by kernel_rfl) (by rfl) (by kernel_rfl) ?_
  rw [q0b]
  refine q9w (by kernel_rfl) rfl ?_
  rw [show eltsOf (valOf (sLt 0))=[tupE (valOf (sLt 0)) 0,tupE (valOf (sLt 0)) 1,tupE (valOf (sLt 0)) 2] by kernel_rfl]
  refine q0e (a:=.tup [fD a f,.list [.int 102]]) ?_ (q0e (a:=.tup [.str [255],.list [.int 255]]) ?_ (q0e (a:=.tup [.str [(heldI.getD h 0).toNat],.list [.int 0]]) ?_ q0o))
  · rw [q0b]
    refine q3c (by kernel_rfl) ?_
    rw [show eltsOf (tupE (valOf (sLt 0)) 0)=[tupE (tupE (valOf (sLt 0)) 0) 0,tupE (tupE (valOf (sLt 0)) 0) 1] by kernel_rfl]
    refine q0e ?_ (q0e (by kernel_rfl) q0o)
    rw [q0b]
    refine q0z (a:=.list [D.str [102],D.str [70],D.str [8497],D.str [(boldI a).toNat]]) (b:=.int ((y.fdiv 55).fmod 4)) (σ1:=[]) (by kernel_rfl) ?_ (by kernel_rfl) (by rw [hf];exact it1)
    rw [q0b]
    refine q9w (by kernel_rfl) rfl ?_
    rw [show eltsOf (itemO (tupE (tupE (valOf (sLt 0)) 0) 0))=[tupE (itemO (tupE (tupE (valOf (sLt 0)) 0) 0)) 0,tupE (itemO (tupE (tupE (valOf (sLt 0)) 0) 0)) 1,tupE (itemO (tupE (tupE (valOf (sLt 0)) 0) 0)) 2,tupE (itemO (tupE (tupE (valOf (sLt 0)) 0) 0)) 3] by kernel_rfl]
    exact q0e (by kernel_rfl) (q0e (by kernel_rfl) (q0e (q6n (i:=8497) (by kernel_rfl) (by kernel_rfl) (by kernel_rfl) (by decide) (by decide)) (q0e (q6n (by kernel_rfl) (by kernel_rfl) (by kernel_rfl) g1 g2) q0o)))
  · rw [q0b]
    refine q3c (by kernel_rfl) ?_
    rw [show eltsOf (tupE (valOf (sLt 0)) 1)=[tupE (tupE (valOf (sLt 0)) 1) 0,tupE (tupE (valOf (sLt 0)) 1) 1] by kernel_rfl]
    exact q0e (q6n (i:=255) (by kernel_rfl) (by kernel_rfl) (by kernel_rfl) (by decide) (by decide)) (q0e (by kernel_rfl) q0o)
  · rw [q0b]
    refine q3c (by kernel_rfl) ?_
    rw [show eltsOf (tupE (valOf (sLt 0)) 2)=[tupE (tupE (valOf (sLt 0)) 2) 0,tupE (tupE (valOf (sLt 0)) 2) 1] by kernel_rfl]
    refine q0e (q6n (by kernel_rfl) (by kernel_rfl) ?_ g3 g4) (q0e (by kernel_rfl) q0o)
    rw [show methA (tupE (tupE (valOf (sLt 0)) 2) 0)=[fst1 (methA (tupE (tupE (valOf (sLt 0)) 2) 0))] by kernel_rfl]
    refine q0e ?_ q0o
    rw [q0b]
    exact q0z (a:=.list (heldI.map .int)) (b:=.int ((y.fdiv 5).fmod 27)) (σ1:=[]) (by kernel_rfl) (by kernel_rfl) (by kernel_rfl) (by rw [hh];exact it2)
theorem j8i (b:Nat) (h4:m<4):(markS b m).length≤5:=by simp [markS];omega
noncomputable abbrev eT1:PySem.Expr:=itemO (retE (sLt 1))
theorem k3u (hd:(y.fdiv 40).fmod 2=d) (d2:d<2) (hz:y.fmod 5=z) (z5:z<5) (h4:m<4) :
   (recN GG (n+28)).ex cL (LL head y held bold one (some (.str (markS b m))) (some (.list (menu0 a f h)))) [] (sLt 1)=some (.ret (leaf0 a b m f h d z),LL head y held bold one (some (.str (markS b m))) (some (.list (menu0 a f h))),[]):=by
  have ml:=j8i b h4
  have hdd:d=0∨d=1:=by omega
  have g1:(markS b m).length*d≤LIM:=by rcases hdd with rfl | rfl<;>(show _≤65536;first | exact Nat.le_of_ble_eq_true rfl | omega)
  have g2:d≤LIM:=by show d≤65536;exact Nat.le_trans (Nat.le_of_lt (by assumption)) (Nat.le_of_ble_eq_true rfl)
  have g3:2+(List.replicate d (markS b m)).flatten.length≤LIM:=by rcases hdd with rfl | rfl<;>simp<;>(show _≤65536;first | exact Nat.le_of_ble_eq_true rfl | omega)
  have g4:2*d≤LIM:=by show 2*d≤65536;omega
  have g5:2+(List.replicate d [D.int 34,D.int 34]).flatten.length≤LIM:=by rcases hdd with rfl | rfl<;>skip<;>(show _≤65536;(first | assumption | exact Nat.le_of_ble_eq_true rfl))
  have g6:(menu0 a f h).length+2≤LIM:=by show 3+2≤65536;decide
  have it:=q5m (tab:=GG.tab) (σ:=[]) (l:=menu0 a f h++[D.tup [.str (markS b m),.list [.int 34,.int 34]],D.tup [.str ([92,92]++(List.replicate d (markS b m)).flatten),.list ([.int 92,.int 92]++(List.replicate d [D.int 34,D.int 34]).flatten)]]) (i:=z) (by show z<5;exact z5) (by exact Nat.le_trans (by assumption) (Nat.le_of_ble_eq_true rfl))
  refine z6w (by kernel_rfl) ?_
  rw [q0b]
  refine q0z (a:=.list (menu0 a f h++[D.tup [.str (markS b m),.list [.int 34,.int 34]],D.tup [.str ([92,92]++(List.replicate d (markS b m)).flatten),.list ([.int 92,.int 92]++(List.replicate d [D.int 34,D.int 34]).flatten)]])) (b:=.int (y.fmod 5)) (σ1:=[]) (by kernel_rfl) ?_ (by kernel_rfl) (by rw [hz];exact it)
  rw [q0b]
  refine q0r (op:=.Add) (a:=.list (menu0 a f h)) (σ1:=[]) (by kernel_rfl) rfl (by kernel_rfl) ?_ (q2e g6)
  rw [q0b]
  refine q9w (by kernel_rfl) rfl ?_
  rw [show eltsOf (binR eT1)=[tupE (binR eT1) 0,tupE (binR eT1) 1] by kernel_rfl]
  refine q0e (by kernel_rfl) (q0e ?_ q0o)
  rw [q0b]
  refine q3c (by kernel_rfl) ?_
  rw [show eltsOf (tupE (binR eT1) 1)=[tupE (tupE (binR eT1) 1) 0,tupE (tupE (binR eT1) 1) 1] by kernel_rfl]
  refine q0e (a:=.str ([92,92]++(List.replicate d (markS b m)).flatten)) ?_ (q0e (a:=.list ([.int 92,.int 92]++(List.replicate d [D.int 34,D.int 34]).flatten)) ?_ q0o)
  · rw [q0b]
    refine q0r (op:=.Add) (a:=.str [92,92]) (σ1:=[]) (by kernel_rfl) rfl (by kernel_rfl) ?_ (q1n g3)
    rw [q0b]
    exact q0r (op:=.Mult) (a:=.str (markS b m)) (b:=.int ((y.fdiv 40).fmod 2)) (σ1:=[]) (by kernel_rfl) rfl (by kernel_rfl) (by kernel_rfl) (by rw [hd];exact z6x g1 g2)
  · rw [q0b]
    refine q0r (op:=.Add) (a:=.list [.int 92,.int 92]) (σ1:=[]) (by kernel_rfl) rfl (by kernel_rfl) ?_ (q2e g5)
    rw [q0b]
    exact q0r (op:=.Mult) (a:=.list [.int 34,.int 34]) (b:=.int ((y.fdiv 40).fmod 2)) (σ1:=[]) (by kernel_rfl) rfl (by kernel_rfl) (by kernel_rfl) (by rw [hd];exact j6r g4 g2)
noncomputable def menu1 (a f:Nat):List D:=[.tup [gD a f,.list [.int 105]],.tup [.str [64257],.list [.int 102,.int 105]],.tup [.str [64256],.list [.int 102,.int 102]]]
noncomputable def leaf1 (a b f t z:Nat):D:=(menu1 a f++[D.tup [.str ([92]++[[40,41,34].getD t 0]),.list ([D.int 92,D.int 34].take (1+t / 2))],D.tup [.str ([34,92,34]++[40+b]++[34]),.list [.int 34,.int 92,.int 34,.int 34]]]).getD z .none
theorem k9k (hf:(y.fdiv 55).fmod 4=f) (f4:f<4) (a11:a<11) :
   (recN GG (n+29)).ex cL (LL head y held (some (.int (boldI a))) one marked none) [] (sL 5)=some (.next,LL head y held (some (.int (boldI a))) one marked (some (.list (menu1 a f))),[]):=by
  obtain ⟨b1,b2⟩:=j3h a11
  have g1:0≤boldI a+3:=by omega
  have g2:boldI a+3<1114112:=by omega
  have it1:=q5m (tab:=GG.tab) (σ:=[]) (l:=[D.str [105],D.str [73],D.str [8464],D.str [(boldI a+3).toNat]]) (i:=f) f4 (by exact Nat.le_trans (by assumption) (Nat.le_of_ble_eq_true rfl))
  refine q0p (n:=n+28) (x:="menu") (by kernel_rfl) (by rfl) (by kernel_rfl) ?_
  rw [q0b]
  refine q9w (by kernel_rfl) rfl ?_
  rw [show eltsOf (valOf (sL 5))=[tupE (valOf (sL 5)) 0,tupE (valOf (sL 5)) 1,tupE (valOf (sL 5)) 2] by kernel_rfl]
  refine q0e (a:=.tup [gD a f,.list [.int 105]]) ?_ (q0e (a:=.tup [.str [64257],.list [.int 102,.int 105]]) ?_ (q0e (a:=.tup [.str [64256],.list [.int 102,.int 102]]) ?_ q0o))
  · rw [q0b]
    refine q3c (by kernel_rfl) ?_
    rw [show eltsOf (tupE (valOf (sL 5)) 0)=[tupE (tupE (valOf (sL 5)) 0) 0,tupE (tupE (valOf (sL 5)) 0) 1] by kernel_rfl]
    refine q0e ?_ (q0e (by kernel_rfl) q0o)
    rw [q0b]
    refine q0z (a:=.list [D.str [105],D.str [73],D.str [8464],D.str [(boldI a+3).toNat]]) (b:=.int ((y.fdiv 55).fmod 4)) (σ1:=[]) (by kernel_rfl) ?_ (by kernel_rfl) (by rw [hf];exact it1)
    rw [q0b]
    refine q9w (by kernel_rfl) rfl ?_
    rw [show eltsOf (itemO (tupE (tupE (valOf (sL 5)) 0) 0))=[tupE (itemO (tupE (tupE (valOf (sL 5)) 0) 0)) 0,tupE (itemO (tupE (tupE (valOf (sL 5)) 0) 0)) 1,tupE (itemO (tupE (tupE (valOf (sL 5)) 0) 0)) 2,tupE (itemO (tupE (tupE (valOf (sL 5)) 0) 0)) 3] by kernel_rfl]
    exact q0e (by kernel_rfl) (q0e (by kernel_rfl) (q0e (q6n (i:=8464) (by kernel_rfl) (by kernel_rfl) (by kernel_rfl) (by decide) (by decide)) (q0e (q6n (by kernel_rfl) (by kernel_rfl) (by kernel_rfl) g1 g2) q0o)))
  · rw [q0b]
    refine q3c (by kernel_rfl) ?_
    exact q0e (q6n (i:=64257) (by kernel_rfl) (by kernel_rfl) (by kernel_rfl) (by decide) (by decide)) (q0e (by kernel_rfl) q0o)
  · rw [q0b]
    refine q3c (by kernel_rfl) ?_
    rw [show eltsOf (tupE (valOf (sL 5)) 2)=[tupE (tupE (valOf (sL 5)) 2) 0,tupE (tupE (valOf (sL 5)) 2) 1] by kernel_rfl]
    exact q0e (q6n (i:=64256) (by kernel_rfl) (by kernel_rfl) (by kernel_rfl) (by decide) (by decide)) (q0e (by kernel_rfl) q0o)
noncomputable abbrev eT6:PySem.Expr:=itemO (retE (sL 6))
theorem k9l (ht:(y.fdiv 5).fmod 3=t) (t3:t<3) (hz:y.fmod 5=z) (z5:z<5) :
   (recN GG (n+29)).ex cL (LL head y held bold (some (.str [40+b])) marked (some (.list (menu1 a f)))) [] (sL 6)=some (.ret (leaf1 a b f t z),LL head y held bold (some (.str [40+b])) marked (some (.list (menu1 a f))),[]):=by
  have it1:itemD GG.tab [] (.str [40,41,34]) (.int (t:Int))=some (.str [[40,41,34].getD t 0]):=q5e (by
    match t,t3 with
    | 0,_=>rfl
    | 1,_=>rfl
    | 2,_=>rfl) (by exact Nat.le_trans (by assumption) (Nat.le_of_ble_eq_true rfl))
  have sl:sliceD [] none (some (1+(t:Int).fdiv 2)) (.list [.int 92,.int 34])=some (.list ([D.int 92,D.int 34].take (1+t / 2))):=by
    match t,t3 with
    | 0,_=>rfl
    | 1,_=>rfl
    | 2,_=>rfl
  have g6:(menu1 a f).length+2≤LIM:=by show 3+2≤65536;decide
  have k1:1+1≤LIM:=by decide
  have k2:3+1≤LIM:=by decide
  have k3:([34,92,34]++[40+b]).length+1≤LIM:=by show 4+1≤LIM;decide
  have it:=q5m (tab:=GG.tab) (σ:=[]) (l:=menu1 a f++[D.tup [.str ([92]++[[40,41,34].getD t 0]),.list ([D.int 92,D.int 34].take (1+t / 2))],D.tup [.str ([34,92,34]++[40+b]++[34]),.list [.int 34,.int 92,.int 34,.int 34]]]) (i:=z) (by show z<5;exact z5) (by exact Nat.le_trans (by assumption) (Nat.le_of_ble_eq_true rfl))
  refine z6w (by kernel_rfl) ?_
  rw [q0b]
  refine q0z (a:=.list (menu1 a f++[D.tup [.str ([92]++[[40,41,34].getD t 0]),.list ([D.int 92,D.int 34].take (1+t / 2))],D.tup [.str ([34,92,34]++[40+b]++[34]),.list [.int 34,.int 92,.int 34,.int 34]]])) (b:=.int (y.fmod 5)) (σ1:=[]) (by kernel_rfl) ?_ (by kernel_rfl) (by rw [hz];exact it)
  rw [q0b]
  refine q0r (op:=.Add) (a:=.list (menu1 a f)) (σ1:=[]) (by kernel_rfl) rfl (by kernel_rfl) ?_ (q2e g6)
  rw [q0b]
  refine q9w (by kernel_rfl) rfl ?_
  rw [show eltsOf (binR eT6)=[tupE (binR eT6) 0,tupE (binR eT6) 1] by kernel_rfl]
  refine q0e (a:=D.tup [.str ([92]++[[40,41,34].getD t 0]),.list ([D.int 92,D.int 34].take (1+t / 2))]) ?_ (q0e ?_ q0o)
  · rw [q0b]
    refine q3c (by kernel_rfl) ?_
    rw [show eltsOf (tupE (binR eT6) 0)=[tupE (tupE (binR eT6) 0) 0,tupE (tupE (binR eT6) 0) 1] by kernel_rfl]
    refine q0e ?_ (q0e ?_ q0o)
    · rw [q0b]
      refine q0r (op:=.Add) (a:=.str [92]) (b:=.str [[40,41,34].getD t 0]) (σ1:=[]) (by kernel_rfl) rfl (by kernel_rfl) ?_ (q1n k1)
      rw [q0b]
      exact q0z (a:=.str [40,41,34]) (b:=.int ((y.fdiv 5).fmod 3)) (σ1:=[]) (by kernel_rfl) (by kernel_rfl) (by kernel_rfl) (by rw [ht];exact it1)
    · rw [q0b]
      refine q5c (a:=.list [.int 92,.int 34]) (lo:=none) (hi:=some (1+((y.fdiv 5).fmod 3).fdiv 2)) (σ1:=[]) (σ2:=[]) (by kernel_rfl) (by kernel_rfl) (by kernel_rfl) (by kernel_rfl) (by rw [ht];exact sl)
  · rw [q0b]
    refine q3c (by kernel_rfl) ?_
    refine q0e ?_ (q0e (by kernel_rfl) q0o)
    rw [q0b]
    refine q0r (op:=.Add) (a:=.str ([34,92,34]++[40+b])) (b:=.str [34]) (σ1:=[]) (by kernel_rfl) rfl ?_ (by kernel_rfl) (q1n k3)
    rw [q0b]
    exact q0r (op:=.Add) (a:=.str [34,92,34]) (b:=.str [40+b]) (σ1:=[]) (by kernel_rfl) rfl (by kernel_rfl) (by kernel_rfl) (q1n k2)
theorem j8j {y:Int} (ha:(y.fdiv 5).fmod 11=a) (a11:a<11) (hb:(y.fdiv 5).fmod 2=b) (b2:b<2) (hm:((y.fdiv 10)+1).fmod 4=m) (m4:m<4) (hf:(y.fdiv 55).fmod 4=f) (f4:f<4) (hh:(y.fdiv 5).fmod 27=h) (h27:h<27)
    (hd:(y.fdiv 40).fmod 2=d) (d2:d<2) (hz:y.fmod 5=z) (z5:z<5):(recN GG (n+30)).ca (sO fL) [.int 256,.int y] []=(res [] 0 resFuel (leaf0 a b m f h d z)).map fun v=>(v,[]):=by
  rw [z0e,z3x,q0c k1k,q0c (k1l ha a11),q0c (k1m hb b2 ⟨_,rfl⟩),q0c (k1n hm m4)]
  have h4:(recN GG (n+29)).ex cL (LL 256 y (some (.list (heldI.map .int))) (some (.int (boldI a))) (some (.str [40+b])) (some (.str (markS b m))) none) [] (sL 4) =
      some (.ret (leaf0 a b m f h d z),LL 256 y (some (.list (heldI.map .int))) (some (.int (boldI a))) (some (.str [40+b])) (some (.str (markS b m))) (some (.list (menu0 a f h))),[]):=by
    rw [q0m,q1s j3i (j3j (n:=n) rfl),show ((256:Int)==256)=true from rfl]
    simp only [if_true,k3s]
    rw [q0c (k3t hf f4 hh h27 a11)]
    exact q1r (k3u hd d2 hz z5 m4)
  rw [q1r h4]
  show ((res [] 0 resFuel (leaf0 a b m f h d z)).bind fun d=>_)=_
  cases res [] 0 resFuel (leaf0 a b m f h d z)<;>rfl
theorem j8k {y:Int} (ha:(y.fdiv 5).fmod 11=a) (a11:a<11) (hb:(y.fdiv 5).fmod 2=b) (b2:b<2) (hm:((y.fdiv 10)+1).fmod 4=m) (m4:m<4) (hf:(y.fdiv 55).fmod 4=f) (f4:f<4)
    (ht:(y.fdiv 5).fmod 3=t) (t3:t<3) (hz:y.fmod 5=z) (z5:z<5):(recN GG (n+30)).ca (sO fL) [.int 257,.int y] []=(res [] 0 resFuel (leaf1 a b f t z)).map fun v=>(v,[]):=by
  rw [z0e,z3x,q0c k1k,q0c (k1l ha a11),q0c (k1m hb b2 ⟨_,rfl⟩),q0c (k1n hm m4)]
  have h4:(recN GG (n+29)).ex cL (LL 257 y (some (.list (heldI.map .int))) (some (.int (boldI a))) (some (.str [40+b])) (some (.str (markS b m))) none) [] (sL 4) =
      some (.next,LL 257 y (some (.list (heldI.map .int))) (some (.int (boldI a))) (some (.str [40+b])) (some (.str (markS b m))) none,[]):=by
    rw [q0m,q1s j3i (j3j (n:=n) rfl)]
    exact q0j
  rw [q0c h4,q0c (k9k hf f4 a11),q1r (k9l ht t3 hz z5)]
  show ((res [] 0 resFuel (leaf1 a b f t z)).bind fun d=>_)=_
  cases res [] 0 resFuel (leaf1 a b f t z)<;>rfl
end
set_option maxRecDepth 100000
set_option maxHeartbeats 4000000
noncomputable abbrev fW:String:="_law_row"
noncomputable def cW:Cx:=cx fW
theorem v4e:cW.deep=false:=rfl
theorem v6u:cW.eff=true:=rfl
noncomputable def pieceD (p:q0h):D:=.tup [.int p.head,.int p.due,.int p.k,.str p.sign,.list (p.told.map .int)]
noncomputable def rulesD (rs:List q3d):D:=.list (rs.map ruleD)
noncomputable abbrev sW (i:Nat):Stmt:=sel (bd fW) i
noncomputable def LW (cells rules:D) (j:Nat) (due:Int) (opens:Nat) (faulty:Bool) (step y leaf k able fate head:Option D):Loc:=
  [(sO "cells",some cells),(sO "rules",some rules),(sO "row",some (.loc 0)),(sO "opened",some (.loc j)),(sO "due",some (.int due)),(sO "opens",some (.int opens)),(sO "faulty",some (.bool faulty)),(sO "step",step),(sO "y",y),(sO "leaf",leaf),(sO "k",k),(sO "able",able),(sO "fate",fate),(sO "head",head)]
section
variable {n:Nat} {c0 c1 c2 c3 c4 c5 c6 c7 c8 c9 c10:Int} {r0 r1 r2:q3d} {cells rules:D} {j:Nat} {due:Int} {opens:Nat} {faulty:Bool} {step y leaf k able fate head:Option D} {σ:Sto}
theorem j3k:(recN GG (n+40)).ca (sO fW) [cells11 c0 c1 c2 c3 c4 c5 c6 c7 c8 c9 c10,rulesD [r0,r1,r2]] [] =
    (exs (recN GG (n+39)) cW [(sO "cells",some (cells11 c0 c1 c2 c3 c4 c5 c6 c7 c8 c9 c10)),(sO "rules",some (rulesD [r0,r1,r2])),(sO "row",none),(sO "opened",none),(sO "due",none),(sO "opens",none),(sO "faulty",none),(sO "step",none),(sO "y",none),(sO "leaf",none),(sO "k",none),(sO "able",none),(sO "fate",none),(sO "head",none)] [] (bd fW)).bind (caEnd []):=by kernel_rfl
theorem j8l:bd fW=[sW 0,sW 1,sW 2]:=by kernel_rfl
theorem v4f:(recN GG (n+39)).ex cW [(sO "cells",some cells),(sO "rules",some rules),(sO "row",none),(sO "opened",none),(sO "due",none),(sO "opens",none),(sO "faulty",none),(sO "step",none),(sO "y",none),(sO "leaf",none),(sO "k",none),(sO "able",none),(sO "fate",none),(sO "head",none)] [] (sW 0) =
    some (.next,LW cells rules 1 256 0 false none none none none none none none,[[],[]]):=by kernel_rfl
theorem k9m:isForSeq GG cW (LW cells rules j due opens faulty step y leaf k able fate head) (sW 1)=true:=by kernel_rfl
theorem k9n:(recN GG (n+38)).ev cW (LW cells rules j due opens faulty step y leaf k able fate head) σ (iterOf (sW 1))=some (.rng 0 14,σ):=by kernel_rfl
theorem j8m {i:Int}:give cW.sc σ (targetOf (sW 1)) (.int i) (LW cells rules j due opens faulty step y leaf k able fate head)=some (LW cells rules j due opens faulty (some (.int i)) y leaf k able fate head):=by kernel_rfl
noncomputable abbrev sWb (i:Nat):Stmt:=sel (bodyOf (sW 1)) i
theorem v4g:bodyOf (sW 1)=[sWb 0,sWb 1,sWb 2,sWb 3,sWb 4,sWb 5,sWb 6,sWb 7,sWb 8,sWb 9,sWb 10,sWb 11]:=by kernel_rfl
theorem v7u:(recN GG (n+39)).ex cW (LW cells rules j due opens faulty step y leaf k able fate head) σ (sW 2)=some (.ret (.tup [.loc 0,.bool faulty]),LW cells rules j due opens faulty step y leaf k able fate head,σ):=by kernel_rfl
theorem k3v:isAsg "y" (sWb 0)=true:=by kernel_rfl
theorem k3w:isItem (valOf (sWb 0))=true:=by kernel_rfl
theorem k3x:(recN GG (n+36)).ev cW (LW (cells11 c0 c1 c2 c3 c4 c5 c6 c7 c8 c9 c10) rules j due opens faulty step y leaf k able fate head) σ (itemO (valOf (sWb 0)))=some (.list ([c3,c4,c5,c6,c7,c8,c9,c10,0,0,0,0,0,0].map .int),σ):=by kernel_rfl
theorem k3y {i:Nat}:(recN GG (n+36)).ev cW (LW cells rules j due opens faulty (some (.int i)) y leaf k able fate head) σ (itemI (valOf (sWb 0)))=some (.int i,σ):=by kernel_rfl
theorem k9o {i:Nat} (hi:i<14):(recN GG (n+38)).ex cW (LW (cells11 c0 c1 c2 c3 c4 c5 c6 c7 c8 c9 c10) rules j due opens faulty (some (.int i)) y leaf k able fate head) σ (sWb 0) =
    some (.next,LW (cells11 c0 c1 c2 c3 c4 c5 c6 c7 c8 c9 c10) rules j due opens faulty (some (.int i)) (some (.int ([c3,c4,c5,c6,c7,c8,c9,c10,0,0,0,0,0,0].getD i 0))) leaf k able fate head,σ):=by
  refine q0p (n:=n+37) (x:="y") k3v (by rfl) (by kernel_rfl) ?_
  rw [q0b]
  refine q0z k3w k3x k3y (q2h ?_ (by exact Nat.le_trans (Nat.le_of_lt (by assumption)) (Nat.le_of_ble_eq_true rfl)))
  rw [List.getElem?_map,List.getD_eq_getElem?_getD,List.getElem?_eq_getElem (hi)]
  rfl
noncomputable def leafB (i:Nat) (Y:Int):Bool:=if i=0 then Y.fmod 12==9 else Y.fmod 3==0
theorem k9p {i:Nat} {Y:Int}:(recN GG (n+38)).ex cW (LW cells rules j due opens faulty (some (.int i)) (some (.int Y)) leaf k able fate head) σ (sWb 1) =
    some (.next,LW cells rules j due opens faulty (some (.int i)) (some (.int Y)) (some (.bool (leafB i Y))) k able fate head,σ):=by
  refine q0p (n:=n+37) (x:="leaf") (by kernel_rfl) (by rfl) (by kernel_rfl) ?_
  rw [q0b]
  refine (q5g (v:=((i:Int)==0)) (σ':=σ) (by kernel_rfl) (by kernel_rfl)).trans ?_
  unfold leafB
  by_cases h:i=0
  · apply q0g h;kernel_rfl
  · have h':((i:Int)==0)=false:=beq_eq_false_iff_ne.mpr (Int.natCast_ne_zero.mpr h)
    rw [h',if_neg h]
    kernel_rfl
theorem j3l (a b:Nat):decide ((a:Int)<(OfNat.ofNat b:Int))=decide (a<OfNat.ofNat b):=decide_eq_decide.mpr Int.ofNat_lt
theorem j3m:isIf (sWb 2)=true:=by kernel_rfl
noncomputable def openB (i:Nat) (Y:Int) (opens len:Nat):Bool:=decide (i<8)&&(decide (opens<4)&&(leafB i Y !=decide (len<2)))
noncomputable abbrev sel3 (i:Nat):PySem.Expr:=(boolEs (testOf (sWb 2))).getD i noE
theorem k3z {i:Nat} {Y:Int} {ops:List D} (ho:σ[j]?=some ops) (hl:ops.length≤100):(recN GG (n+37)).ts cW (LW cells rules j due opens faulty (some (.int i)) (some (.int Y)) (some (.bool (leafB i Y))) k able fate head) σ (testOf (sWb 2))=some (openB i Y opens ops.length,σ):=by
  have hcall:∀ {R:Rec},callD GG R σ (Str.ofString "len") [.loc j]=some (.int ((ops.length:Nat):Int),σ):=fun {R}=>q2v (by show (σ[j]?).map _=_;rw [ho];rfl) (Nat.le_trans hl (Nat.le_of_ble_eq_true rfl))
  rw [q0u]
  refine (j1z (by kernel_rfl)).trans ?_
  have f0:(recN GG (n+36)).ts cW (LW cells rules j due opens faulty (some (.int i)) (some (.int Y)) (some (.bool (leafB i Y))) k able fate head) σ (sel3 0)=some (decide ((i:Int)<8),σ):=by kernel_rfl
  have f1:(recN GG (n+36)).ts cW (LW cells rules j due opens faulty (some (.int i)) (some (.int Y)) (some (.bool (leafB i Y))) k able fate head) σ (sel3 1)=some (decide ((opens:Int)<4),σ):=by kernel_rfl
  have f2:(recN GG (n+36)).ts cW (LW cells rules j due opens faulty (some (.int i)) (some (.int Y)) (some (.bool (leafB i Y))) k able fate head) σ (sel3 2)=some (leafB i Y !=decide ((ops.length:Int)<2),σ):=by
    rw [q0u]
    refine q1l (op:=.NotEq) (a:=.bool (leafB i Y)) (b:=.bool (decide ((ops.length:Int)<2))) (σ1:=σ) (by kernel_rfl) (by kernel_rfl) ?_ rfl
    rw [q0b]
    refine q4j (op:=.Lt) (a:=.int (ops.length:Nat)) (b:=.int 2) (σ1:=σ) (by kernel_rfl) ?_ (by kernel_rfl) rfl
    rw [q0b]
    exact q0l (f:="len") (ds:=[.loc j]) (by kernel_rfl) (by kernel_rfl) (by kernel_rfl) hcall
  refine (q0q f0 fun zz=>q0q f1 fun zz=>q0q f2 fun zz=>q3t).trans ?_
  unfold openB
  rw [Bool.and_true,j3l i 8,j3l opens 4,j3l ops.length 2]
noncomputable abbrev sWo (i:Nat):Stmt:=sel (thenOf (sWb 2)) i
theorem k9q:thenOf (sWb 2)=[sWo 0,sWo 1,sWo 2,sWo 3,sWo 4]:=by kernel_rfl
theorem v6v:elseOf (sWb 2)=[]:=by kernel_rfl
theorem j8n (h0:r0.h=256) (h1:r1.h=257) (h2:r2.h=256∨r2.h=257) (hd:due=256∨due=257):∃ ab:List Nat,ab≠[]∧ab.length≤3∧(∀ k∈ab,k<3∧(ruleAt [r0,r1,r2] k).h=due)∧
    (recN GG (n+37)).ex cW (LW cells (rulesD [r0,r1,r2]) j due opens faulty step y leaf k able fate head) σ (sWo 0)=some (.next,LW cells (rulesD [r0,r1,r2]) j due opens faulty step y leaf k (some (.list (ab.map fun k:Nat=>.int k))) fate head,σ):=by
  apply q0d;intro hG;rcases r0 with ⟨h0',l0,q0,n0,w0⟩;apply hG;clear hG
  apply q0d;intro hG;rcases r1 with ⟨h1',l1,q1,n1,w1⟩;apply hG;clear hG
  apply q0d;intro hG;rcases r2 with ⟨h2',l2,q2,n2,w2⟩;apply hG;clear hG
  dsimp only  at h0 h1 h2
  subst h0 h1
  rcases hd with rfl | rfl<;>rcases h2 with rfl | rfl
  · refine ⟨[0,2],by simp,by simp,fun k hk=>?_,by kernel_rfl⟩
    simp only [List.mem_cons,List.not_mem_nil,or_false] at hk
    rcases hk with rfl | rfl<;>exact ⟨by decide,rfl⟩
  · refine ⟨[0],by simp,by simp,fun k hk=>?_,by kernel_rfl⟩
    simp only [List.mem_cons,List.not_mem_nil,or_false] at hk
    subst hk;exact ⟨by decide,rfl⟩
  · refine ⟨[1],by simp,by simp,fun k hk=>?_,by kernel_rfl⟩
    simp only [List.mem_cons,List.not_mem_nil,or_false] at hk
    subst hk;exact ⟨by decide,rfl⟩
  · refine ⟨[1,2],by simp,by simp,fun k hk=>?_,by kernel_rfl⟩
    simp only [List.mem_cons,List.not_mem_nil,or_false] at hk
    rcases hk with rfl | rfl<;>exact ⟨by decide,rfl⟩
theorem j8o {Y:Int} {ab:List Nat} (hne:ab≠[]) (hl:ab.length≤3):∃ kk∈ab,(recN GG (n+37)).ex cW (LW cells rules j due opens faulty step (some (.int Y)) leaf k (some (.list (ab.map fun k:Nat=>.int k))) fate head) σ (sWo 1) =
    some (.next,LW cells rules j due opens faulty step (some (.int Y)) leaf (some (.int (kk:Nat))) (some (.list (ab.map fun k:Nat=>.int k))) fate head,σ):=by
  have hpos:0<ab.length:=List.length_pos_iff.mpr hne
  have h1:0≤(Y.fdiv 3).fmod ab.length:=Int.fmod_nonneg_of_pos _ (by omega)
  have h2:(Y.fdiv 3).fmod ab.length<ab.length:=Int.fmod_lt_of_pos _ (by omega)
  obtain ⟨i,hi⟩:∃ i:Nat,(Y.fdiv 3).fmod ab.length=i:=⟨((Y.fdiv 3).fmod ab.length).toNat,by omega⟩
  rw [hi] at h2
  have hlt:i<ab.length:=by omega
  refine ⟨ab[i],List.getElem_mem _,?_⟩
  have hcall:∀ {R:Rec},callD GG R σ (Str.ofString "len") [.list (ab.map fun k:Nat=>.int k)]=some (.int ((ab.length:Nat):Int),σ):=fun {R}=>q2v (by show some (((ab.map _).length:Nat):Int)=_;rw [List.length_map]) (Nat.le_trans hl (Nat.le_of_ble_eq_true rfl))
  have hb:((ab.length:Int) !=0)=true:=by simp only [bne_iff_ne,ne_eq];omega
  refine q0p (n:=n+36) (x:="k") (by kernel_rfl) (by rfl) (by kernel_rfl) ?_
  rw [q0b]
  refine q0z (a:=.list (ab.map fun k:Nat=>.int k)) (b:=.int (i:Nat)) (σ1:=σ) (by kernel_rfl) (by kernel_rfl) ?_ (q2h (by rw [List.getElem?_map,List.getElem?_eq_getElem hlt];rfl) (by omega))
  rw [q0b]
  refine q0r (op:=.Mod) (a:=.int (Y.fdiv 3)) (b:=.int (ab.length:Nat)) (σ1:=σ) (by kernel_rfl) rfl (by kernel_rfl) ?_ ((z5e hb).trans (by rw [hi]))
  rw [q0b]
  exact q0l (f:="len") (by kernel_rfl) (by kernel_rfl) (by kernel_rfl) hcall
theorem j8p {kk:Nat} (hk:kk<3):itemD GG.tab σ (rulesD [r0,r1,r2]) (.int (kk:Int))=some (ruleD (ruleAt [r0,r1,r2] kk)):=by
  refine q2h ?_ (by exact Nat.le_trans (Nat.le_of_lt (by assumption)) (Nat.le_of_ble_eq_true rfl))
  match kk,hk with
  | 0,_=>rfl
  | 1,_=>rfl
  | 2,_=>rfl
theorem v7v {a b c d e:D}:itemD GG.tab σ (.tup [a,b,c,d,e]) (.int 1)=some b:=rfl
theorem v7w {a b c d e:D}:itemD GG.tab σ (.tup [a,b,c,d,e]) (.int 0)=some a:=rfl
theorem v7x {a b c d e:D}:itemD GG.tab σ (.tup [a,b,c,d,e]) (.int 2)=some c:=rfl
theorem v7y {a b c d e:D}:itemD GG.tab σ (.tup [a,b,c,d,e]) (.int 3)=some d:=rfl
theorem v7z {a b c d e:D}:itemD GG.tab σ (.tup [a,b,c,d,e]) (.int 4)=some e:=rfl
theorem q5n {kk m:Nat} {v:D} {e:PySem.Expr} {L:Loc} {N:Nat} (hk:kk<3) (h1:isItem e=true) (h2:isItem (itemO e)=true) (h3:(recN GG N).ev cW L σ (itemO (itemO e))=some (rulesD [r0,r1,r2],σ)) (h4:(recN GG N).ev cW L σ (itemI (itemO e))=some (.int (kk:Nat),σ))
    (h5:(recN GG (N+1)).ev cW L σ (itemI e)=some (.int (m:Nat),σ)) (h6:itemD GG.tab σ (ruleD (ruleAt [r0,r1,r2] kk)) (.int (m:Nat))=some v):(recN GG (N+2)).ev cW L σ e=some (v,σ):=by
  refine q0z h1 ?_ h5 h6
  exact q0z h2 h3 h4 (j8p hk)
theorem k4a:isApp (sWo 2)=true:=by kernel_rfl
theorem k4b:(recN GG (n+35)).ev cW (LW cells rules j due opens faulty step y leaf k able fate head) σ (appO (sWo 2))=some (.loc 0,σ):=by kernel_rfl
theorem k4c {kk:Nat} (hk:kk<3) (hw:(ruleAt [r0,r1,r2] kk).w.length≤3):(recN GG (n+35)).ev cW (LW cells (rulesD [r0,r1,r2]) j due opens faulty step y leaf (some (.int (kk:Nat))) able fate head) σ (appE (sWo 2)) =
    some (pieceD (opening [r0,r1,r2] due kk),σ):=by
  have g1:1+(ruleAt [r0,r1,r2] kk).w.length≤LIM:=Nat.le_trans (Nat.add_le_add_left hw 1) (Nat.le_of_ble_eq_true rfl)
  rw [q0b]
  refine q3c (by kernel_rfl) ?_
  rw [show eltsOf (appE (sWo 2))=[tupE (appE (sWo 2)) 0,tupE (appE (sWo 2)) 1,tupE (appE (sWo 2)) 2,tupE (appE (sWo 2)) 3,tupE (appE (sWo 2)) 4] by kernel_rfl]
  refine q0e (by kernel_rfl) (q0e (q5n (m:=1) hk (by kernel_rfl) (by kernel_rfl) (by kernel_rfl) (by kernel_rfl) (by kernel_rfl) rfl) (q0e (by kernel_rfl) (q0e (a:=.str ([40]++(ruleAt [r0,r1,r2] kk).w)) ?_ (q0e (a:=.list []) (by kernel_rfl) q0o))))
  rw [q0b]
  exact q0r (op:=.Add) (a:=.str [40]) (b:=.str (ruleAt [r0,r1,r2] kk).w) (σ1:=σ) (by kernel_rfl) rfl (by kernel_rfl) (q5n (m:=4) hk (by kernel_rfl) (by kernel_rfl) (by kernel_rfl) (by kernel_rfl) (by kernel_rfl) rfl) (q1n g1)
theorem q6d {R:Rec} {L:Loc} {σ1 σ2 σ3:Sto} {x:Str} {xs:List Str} {e:PySem.Expr} {es:List PySem.Expr} {d d':D} {ds:List D} (h1:R.ev cW L σ e=some (d,σ1)) (h2:owned cW x e d σ1=(d',σ2)) (h3:evOwned R cW L σ2 xs es=some (ds,σ3)):evOwned R cW L σ (x::xs) (e::es)=some (d'::ds,σ3):=by
  refine bs h1 ?_
  rw [h2]
  exact ms h3
theorem j3n {R:Rec} {L:Loc}:evOwned R cW L σ [] []=some ([],σ):=rfl
theorem v4h {N:Nat} {st:Stmt} {xs:List Str} {ds:List D} {L L':Loc} {σ':Sto} (h0:isAs st=true) (h1:one (asTs st)=true) (h2:isTp (fst1 (asTs st))=true) (h3:isTp (valOf st)=true) (h4:nameTs (eltsOf (fst1 (asTs st)))=some xs)
    (h5:(lits (eltsOf (valOf st))&&decide xs.Nodup&&!((eltsOf (valOf st)).all (constantsAlone 8)))=true) (h6:evOwned (recN GG N) cW L σ xs (eltsOf (valOf st))=some (ds,σ')) (h7:puts cW.sc xs ds L=some L'):(recN GG (N+1)).ex cW L σ st=some (.next,L',σ'):=by
  have e:=z5b h0
  rw [z3e h1,z0z h2,z0z h3] at e
  exact (congrArg (exStep GG (recN GG N) cW L σ) e).trans (bs h4 (it h5 (bs h6 (ms h7))))
theorem k9r {kk:Nat} {ops:List D} (hk:kk<3) (ho:σ[j]?=some ops) (hl:ops.length≤100):(recN GG (n+37)).ex cW (LW cells (rulesD [r0,r1,r2]) j due opens faulty step y leaf (some (.int (kk:Nat))) able fate head) σ (sWo 3) =
    some (.next,LW cells (rulesD [r0,r1,r2]) σ.length (ruleAt [r0,r1,r2] kk).l (opens+1) faulty step y leaf (some (.int (kk:Nat))) able fate head,σ++[ops++[.int kk]]):=by
  have g1:ops.length+1≤LIM:=Nat.le_trans (Nat.succ_le_succ hl) (Nat.le_of_ble_eq_true rfl)
  refine v4h (N:=n+36) (xs:=[Str.ofString "opened",Str.ofString "opens",Str.ofString "due"]) (ds:=[.loc σ.length,.int (opens+1),.int (ruleAt [r0,r1,r2] kk).l]) (by kernel_rfl) (by kernel_rfl) (by kernel_rfl) (by kernel_rfl) (by kernel_rfl) (by kernel_rfl) ?_ (by kernel_rfl)
  rw [show eltsOf (valOf (sWo 3))=[tupE (valOf (sWo 3)) 0,tupE (valOf (sWo 3)) 1,tupE (valOf (sWo 3)) 2] by kernel_rfl]
  refine q6d (d:=.list (ops++[.int kk])) (σ1:=σ) ?_ (z3m (by kernel_rfl) (by kernel_rfl)) (q6d (d:=.int (opens+1)) (σ1:=σ++[ops++[.int kk]]) (σ2:=σ++[ops++[.int kk]]) (by kernel_rfl) (z1c (by kernel_rfl)) (q6d (σ1:=σ++[ops++[.int kk]]) (σ2:=σ++[ops++[.int kk]]) ?_ (z1c (by kernel_rfl)) j3n))
  · rw [q0b]
    exact q0r (op:=.Add) (a:=.loc j) (b:=.list [.int kk]) (σ1:=σ) (by kernel_rfl) rfl (by kernel_rfl) (by kernel_rfl) (z6y ho g1)
  · exact q5n (σ:=σ++[ops++[.int kk]]) (m:=1) hk (by kernel_rfl) (by kernel_rfl) (by kernel_rfl) (by kernel_rfl) (by kernel_rfl) rfl
theorem k9s:(recN GG (n+37)).ex cW (LW cells rules j due opens faulty step y leaf k able fate head) σ (sWo 4)=some (.cont,LW cells rules j due opens faulty step y leaf k able fate head,σ):=by kernel_rfl
noncomputable def fateI (Y:Int):Int:=(Y.fdiv 300).fmod 16
theorem k9t {Y:Int}:(recN GG (n+38)).ex cW (LW cells rules j due opens faulty step (some (.int Y)) leaf k able fate head) σ (sWb 3)=some (.next,LW cells rules j due opens faulty step (some (.int Y)) leaf k able (some (.int (fateI Y))) head,σ):=by kernel_rfl
theorem k9u {F:Int}:(recN GG (n+38)).ex cW (LW cells rules j due opens faulty step y leaf k able (some (.int F)) head) σ (sWb 4)=some (.next,LW cells rules j due opens faulty step y leaf k able (some (.int F)) (some (.int (if F==14 then 513 - due else due))),σ):=by
  refine q0p (n:=n+37) (x:="head") (by kernel_rfl) (by rfl) (by kernel_rfl) ?_
  rw [q0b]
  refine (q5g (v:=(F==14)) (σ':=σ) (by kernel_rfl) (by kernel_rfl)).trans ?_
  cases F==14<;>kernel_rfl
theorem k4d:isApp (sWb 5)=true:=by kernel_rfl
theorem k4e:(recN GG (n+36)).ev cW (LW cells rules j due opens faulty step y leaf k able fate head) σ (appO (sWb 5))=some (.loc 0,σ):=by kernel_rfl
theorem k4f:isBin .Add (appE (sWb 5))=true:=by kernel_rfl
theorem k4g {hd:Int}:(recN GG (n+35)).ev cW (LW cells rules j due opens faulty step y leaf k able fate (some (.int hd))) σ (binL (appE (sWb 5)))=some (.tup [.int hd,.int 0,.int 3],σ):=by kernel_rfl
theorem k4h:isCall GG cW fL (binR (appE (sWb 5)))=true:=by kernel_rfl
theorem k4i {hd Y:Int}:evs (recN GG (n+34)) cW (LW cells rules j due opens faulty step (some (.int Y)) leaf k able fate (some (.int hd))) σ (methA (binR (appE (sWb 5))))=some ([.int hd,.int (Y.fdiv 3)],σ):=by kernel_rfl
theorem k4j {hd Y:Int} {s:List Nat} {t:List Int} (hc:(recN GG (n+34)).ca (sO fL) [.int hd,.int (Y.fdiv 3)] []=some (.tup [.str s,.list (t.map .int)],[])) :
    (recN GG (n+36)).ev cW (LW cells rules j due opens faulty step (some (.int Y)) leaf k able fate (some (.int hd))) σ (appE (sWb 5))=some (pieceD (leafP hd s t),σ):=by
  rw [q0b]
  refine q0r (a:=.tup [.int hd,.int 0,.int 3]) (b:=.tup [.str s,.list (t.map .int)]) k4f rfl k4g ?_ rfl
  rw [q0b]
  exact q0l k4h (by kernel_rfl) k4i (q0s (f:=fL) (by kernel_rfl) rfl hc)
noncomputable def faultB (faulty:Bool) (F:Int) (empty:Bool):Bool:=faulty||(F==14||(((F==12||F==13)&&!empty)||(F==15&&empty)))
theorem k9v {F:Int}:cmpD GG.tab σ .In (.int F) (.tup [.int 12,.int 13])=some (F==12||F==13):=by
  show some (((12:Int)==F)||(((13:Int)==F)||false))=_
  have h1:((12:Int)==F)=(F==12):=Bool.eq_iff_iff.mpr ⟨fun h=>beq_iff_eq.mpr (beq_iff_eq.mp h).symm,fun h=>beq_iff_eq.mpr (beq_iff_eq.mp h).symm⟩
  have h2:((13:Int)==F)=(F==13):=Bool.eq_iff_iff.mpr ⟨fun h=>beq_iff_eq.mpr (beq_iff_eq.mp h).symm,fun h=>beq_iff_eq.mpr (beq_iff_eq.mp h).symm⟩
  rw [h1,h2,Bool.or_false]
theorem z3y {f:D→Option D} (hf:∀ i,f (.int i)=some (.int i)):∀ (l:List Int),resL f (l.map .int)=some (l.map .int)
  | []=>rfl
  | i::l=>by simp only [List.map_cons,q7k,q7l,hf,Option.bind_some,z3y hf l,Option.map_some]
theorem q5o {ops:List Int} (ho:σ[j]?=some (ops.map .int)):cmpD GG.tab σ .Eq (.loc j) (.list [])=some ops.isEmpty∧cmpD GG.tab σ .NotEq (.loc j) (.list [])=some (!ops.isEmpty):=by
  have h1:res σ 0 resFuel (.loc j)=some (.list (ops.map .int)):=by
    have h5:=z3y (f:=res σ 0 5) (fun i=>rfl) ops
    simp only [z2a,z2b,z2c,z2d,z2e,z2f,resFuel,Nat.zero_le,if_true,ho,Option.bind_some]
    rw [h5];rfl
  have h2:eqD resFuel (.list (ops.map .int)) (.list [])=some ops.isEmpty:=by
    induction ops using q1h with
    | nil=>rfl
    | cons i l=>rfl
  have h3:((res σ 0 resFuel (.loc j)).bind fun a=>(res σ 0 resFuel (.list [])).bind fun b=>eqD resFuel a b)=some ops.isEmpty:=by
    rw [h1];exact h2
  refine ⟨h3,?_⟩
  show (((res σ 0 resFuel (.loc j)).bind fun a=>(res σ 0 resFuel (.list [])).bind fun b=>eqD resFuel a b).map (!·))=_
  rw [h3];rfl
noncomputable abbrev sel6 (i:Nat):PySem.Expr:=(boolEs (valOf (sWb 6))).getD i noE
noncomputable abbrev sel6i (i j:Nat):PySem.Expr:=(boolEs (sel6 i)).getD j noE
theorem k9w {F:Int} {ops:List Int} (ho:σ[j]?=some (ops.map .int)):(recN GG (n+38)).ex cW (LW cells rules j due opens faulty step y leaf k able (some (.int F)) head) σ (sWb 6)=some (.next,LW cells rules j due opens (faultB faulty F ops.isEmpty) step y leaf k able (some (.int F)) head,σ):=by
  obtain ⟨c1,c2⟩:=q5o ho
  refine q0p (n:=n+37) (x:="faulty") (by kernel_rfl) (by rfl) (by kernel_rfl) ?_
  rw [q0b]
  refine (v3x (by kernel_rfl)).trans ?_
  rw [show boolEs (valOf (sWb 6))=[sel6 0,sel6 1,sel6 2,sel6 3] by kernel_rfl]
  refine z1k (by kernel_rfl) fun zz=>z1k (by kernel_rfl) fun zz=>z1k (v:=((F==12||F==13)&&!ops.isEmpty)) ?_ fun zz=>k3c.trans ?_
  · rw [q0b]
    refine (z3n (by kernel_rfl)).trans ?_
    rw [show boolEs (sel6 2)=[sel6i 2 0,sel6i 2 1] by kernel_rfl]
    refine q2q (v:=(F==12||F==13)) ?_ fun zz=>z1l.trans ?_
    · rw [q0b];exact q4j (op:=.In) (b:=.tup [.int 12,.int 13]) (σ1:=σ) (by kernel_rfl) (by kernel_rfl) (by kernel_rfl) k9v
    · rw [q0b];exact q4j (op:=.NotEq) (b:=.list []) (σ1:=σ) (by kernel_rfl) (by kernel_rfl) (by kernel_rfl) c2
  · rw [q0b]
    refine (z3n (by kernel_rfl)).trans ?_
    rw [show boolEs (sel6 3)=[sel6i 3 0,sel6i 3 1] by kernel_rfl]
    refine q2q (v:=(F==15)) (by kernel_rfl) fun zz=>z1l.trans ?_
    rw [q0b];exact q4j (op:=.Eq) (b:=.list []) (σ1:=σ) (by kernel_rfl) (by kernel_rfl) (by kernel_rfl) c1
theorem j3o:isIf (sWb 7)=true:=by kernel_rfl
noncomputable def stopB (F:Int) (empty:Bool):Bool:=F==13||(empty&&F !=15)
noncomputable abbrev sel7 (i:Nat):PySem.Expr:=(boolEs (testOf (sWb 7))).getD i noE
noncomputable abbrev sel7i (j:Nat):PySem.Expr:=(boolEs (sel7 1)).getD j noE
theorem k4k {F:Int} {ops:List Int} (ho:σ[j]?=some (ops.map .int)):(recN GG (n+37)).ts cW (LW cells rules j due opens faulty step y leaf k able (some (.int F)) head) σ (testOf (sWb 7))=some (stopB F ops.isEmpty,σ):=by
  obtain ⟨c1,c2⟩:=q5o ho
  rw [q0u]
  refine (j2b (by kernel_rfl)).trans ?_
  rw [show boolEs (testOf (sWb 7))=[sel7 0,sel7 1] by kernel_rfl]
  refine (q2a (v:=(F==13)) (w:=((ops.isEmpty&&F !=15)||false)) (by kernel_rfl) fun zz=>q2a ?_ fun zz=>q9y).trans (by rw [Bool.or_false];rfl)
  rw [q0u]
  refine (j1z (by kernel_rfl)).trans ?_
  rw [show boolEs (sel7 1)=[sel7i 0,sel7i 1] by kernel_rfl]
  refine (q0q (v:=ops.isEmpty) (w:=((F !=15)&&true)) ?_ fun zz=>q0q (by kernel_rfl) fun zz=>q3t).trans (by rw [Bool.and_true])
  rw [q0u]
  exact q1l (op:=.Eq) (b:=.list []) (σ1:=σ) (by kernel_rfl) (by kernel_rfl) (by kernel_rfl) c1
theorem k4l:exs (recN GG (n+37)) cW (LW cells rules j due opens faulty step y leaf k able fate head) σ (thenOf (sWb 7))=some (.brk,LW cells rules j due opens faulty step y leaf k able fate head,σ):=by kernel_rfl
theorem v4i:elseOf (sWb 7)=[]:=by kernel_rfl
theorem k9x {Y:Int} {ops:List Int} {kk:Int} (ho:σ[j]?=some ((ops++[kk]).map .int)) (hl:ops.length≤100):(recN GG (n+38)).ex cW (LW cells rules j due opens faulty step (some (.int Y)) leaf k able fate head) σ (sWb 8) =
    some (.next,LW cells rules j due opens faulty step (some (.int Y)) leaf (some (.int kk)) able fate head,σ.set j (ops.map .int)):=by
  obtain ⟨c1,c2⟩:=q5o ho
  have ce:(ops++[kk]).isEmpty=false:=by induction ops using q1h<;>rfl
  rw [ce] at c2
  have hp:turnD σ (.loc j) (Str.ofString "pop") []=some (.int kk,σ.set j (ops.map .int)):=by
    have:=z3g (k:=j) (l:=(ops++[kk]).map .int) (σ:=σ) (d:=.int kk) ho (by simp) (by simp;show ops.length+1≤65536;omega)
    rw [this];simp
  refine q0p (n:=n+37) (x:="k") (σ':=σ.set j (ops.map .int)) (by kernel_rfl) (by rfl) (by kernel_rfl) ?_
  rw [q0b]
  refine (q5g (v:=true) (σ':=σ) (by kernel_rfl) ?_).trans ?_
  · rw [q0u];exact q1l (op:=.NotEq) (b:=.list []) (σ1:=σ) (by kernel_rfl) (by kernel_rfl) (by kernel_rfl) c2
  · rw [if_pos rfl,q0b]
    exact z1b (m:="pop") (ds:=[]) (σ1:=σ) (by kernel_rfl) (by kernel_rfl) (by kernel_rfl) (by kernel_rfl) j1q hp
theorem k4m {Y:Int} (ho:σ[j]?=some []):(recN GG (n+38)).ex cW (LW cells rules j due opens faulty step (some (.int Y)) leaf k able fate head) σ (sWb 8) =
    some (.next,LW cells rules j due opens faulty step (some (.int Y)) leaf (some (.int (Y.fdiv 4800))) able fate head,σ):=by
  have c2:cmpD GG.tab σ .NotEq (.loc j) (.list [])=some false:=(q5o (ops:=[]) ho).2
  refine q0p (n:=n+37) (x:="k") (by kernel_rfl) (by rfl) (by kernel_rfl) ?_
  rw [q0b]
  refine (q5g (v:=false) (σ':=σ) (by kernel_rfl) ?_).trans (by kernel_rfl)
  rw [q0u];exact q1l (op:=.NotEq) (b:=.list []) (σ1:=σ) (by kernel_rfl) (by kernel_rfl) (by kernel_rfl) c2
noncomputable def kindI (F K Y:Int):Int:=if F==12 then (K+1+(Y.fdiv 4800).fmod 2).fmod 3 else K.fmod 3
theorem k9y {F K Y:Int}:(recN GG (n+38)).ex cW (LW cells rules j due opens faulty step (some (.int Y)) leaf (some (.int K)) able (some (.int F)) head) σ (sWb 9) =
    some (.next,LW cells rules j due opens faulty step (some (.int Y)) leaf (some (.int (kindI F K Y))) able (some (.int F)) head,σ):=by
  refine q0p (n:=n+37) (x:="k") (by kernel_rfl) (by rfl) (by kernel_rfl) ?_
  rw [q0b]
  refine (q5g (v:=(F==12)) (σ':=σ) (by kernel_rfl) (by kernel_rfl)).trans ?_
  unfold kindI
  cases F==12<;>kernel_rfl
theorem k4n {kk:Nat} (hk:kk<3):(recN GG (n+38)).ex cW (LW cells (rulesD [r0,r1,r2]) j due opens faulty step y leaf (some (.int (kk:Nat))) able fate head) σ (sWb 10) =
    some (.next,LW cells (rulesD [r0,r1,r2]) j (ruleAt [r0,r1,r2] kk).r opens faulty step y leaf (some (.int (kk:Nat))) able fate head,σ):=by
  refine q0p (n:=n+37) (x:="due") (by kernel_rfl) (by rfl) (by kernel_rfl) ?_
  exact q5n (m:=2) hk (by kernel_rfl) (by kernel_rfl) (by kernel_rfl) (by kernel_rfl) (by kernel_rfl) rfl
theorem j8q:isApp (sWb 11)=true:=by kernel_rfl
theorem j8r:(recN GG (n+36)).ev cW (LW cells rules j due opens faulty step y leaf k able fate head) σ (appO (sWb 11))=some (.loc 0,σ):=by kernel_rfl
theorem j8s {kk:Nat} (hk:kk<3) (hd:due=(ruleAt [r0,r1,r2] kk).r) (hw:(ruleAt [r0,r1,r2] kk).w.length≤3):(recN GG (n+36)).ev cW (LW cells (rulesD [r0,r1,r2]) j due opens faulty step y leaf (some (.int (kk:Nat))) able fate head) σ (appE (sWb 11)) =
    some (pieceD (closing [r0,r1,r2] kk),σ):=by
  have g1:1+(ruleAt [r0,r1,r2] kk).w.length≤LIM:=Nat.le_trans (Nat.add_le_add_left hw 1) (Nat.le_of_ble_eq_true rfl)
  apply q0g hd
  rw [q0b]
  refine q3c (by kernel_rfl) ?_
  rw [show eltsOf (appE (sWb 11))=[tupE (appE (sWb 11)) 0,tupE (appE (sWb 11)) 1,tupE (appE (sWb 11)) 2,tupE (appE (sWb 11)) 3,tupE (appE (sWb 11)) 4] by kernel_rfl]
  refine q0e (by kernel_rfl) (q0e (by kernel_rfl) (q0e (by kernel_rfl) (q0e (a:=.str ([41]++(ruleAt [r0,r1,r2] kk).w)) ?_ (q0e (a:=.list []) (by kernel_rfl) q0o))))
  rw [q0b]
  exact q0r (op:=.Add) (a:=.str [41]) (b:=.str (ruleAt [r0,r1,r2] kk).w) (σ1:=σ) (by kernel_rfl) rfl (by kernel_rfl) (q5n (m:=4) hk (by kernel_rfl) (by kernel_rfl) (by kernel_rfl) (by kernel_rfl) (by kernel_rfl) rfl) (q1n g1)
end
set_option maxRecDepth 100000
set_option maxHeartbeats 4000000
noncomputable def RowSt (cells rules:D) (row:List q0h) (opened:List Nat) (due:Int) (opens:Nat) (faulty:Bool) (L:Loc) (σ:Sto):Prop:=
  ∃ j step y leaf k able fate head,L=LW cells rules j due opens faulty step y leaf k able fate head∧σ[0]?=some (row.map pieceD)∧σ[j]?=some (opened.map fun k:Nat=>D.int k)∧1≤j
inductive WfP (rules:List q3d) (Leaf:Int→List Nat→List Int→Prop):q0h→Prop
  | o {due:Int} {k:Nat} (hk:k<3) (hd:(ruleAt rules k).h=due):WfP rules Leaf (opening rules due k)
  | c {k:Nat} (hk:k<3):WfP rules Leaf (closing rules k)
  | l {h:Int} {s:List Nat} {t:List Int} (hl:Leaf h s t):WfP rules Leaf (leafP h s t)
section
variable {n:Nat} {c0 c1 c2 c3 c4 c5 c6 c7 c8 c9 c10:Int} {r0 r1 r2:q3d} {Leaf:Int→List Nat→List Int→Prop}
noncomputable abbrev ysL (c3 c4 c5 c6 c7 c8 c9 c10:Int):List Int:=[c3,c4,c5,c6,c7,c8,c9,c10,0,0,0,0,0,0]
structure q6o (r0 r1 r2:q3d) (Leaf:Int→List Nat→List Int→Prop):Prop where
  h0:r0.h=256
  h1:r1.h=257
  h2:r2.h=256∨r2.h=257
  sym:∀ k,k<3→isSym (ruleAt [r0,r1,r2] k).l∧isSym (ruleAt [r0,r1,r2] k).r
  w:∀ k,k<3→(ruleAt [r0,r1,r2] k).w.length≤3
  leaf:∀ (m:Nat) hd y,isSym hd→∃ s t,Leaf hd s t∧(recN GG (m+30)).ca (sO fL) [.int hd,.int y] []=some (.tup [.str s,.list (t.map .int)],[])
theorem j3p (opened:List Nat):(opened.map fun k:Nat=>D.int k)=(opened.map fun k:Nat=>(k:Int)).map .int:=by rw [List.map_map];rfl
noncomputable def hdI (Y due:Int):Int:=if fateI Y==14 then 513 - due else due
inductive v6w (n:Nat) (cells:D) (r0 r1 r2:q3d) (Leaf:Int→List Nat→List Int→Prop) (Y:Int) (i:Nat) (row:List q0h) (opened:List Nat) (due:Int) (opens:Nat) (faulty:Bool) (L1:Loc) (σ:Sto):Prop
  | opn {k:Nat} {L2:Loc} {σ2:Sto} (hb:openB i Y opens opened.length=true) (k3:k<3) (kd:(ruleAt [r0,r1,r2] k).h=due) (he:exs (recN GG (n+38)) cW L1 σ (bodyOf (sW 1))=some (.cont,L2,σ2))
      (hs:RowSt cells (rulesD [r0,r1,r2]) (row++[opening [r0,r1,r2] due k]) (opened++[k]) (ruleAt [r0,r1,r2] k).l (opens+1) faulty L2 σ2)
  | stp {s:List Nat} {t:List Int} {L2:Loc} {σ2:Sto} (hb:openB i Y opens opened.length=false) (hl:Leaf (hdI Y due) s t) (hx:stopB (fateI Y) opened.isEmpty=true) (he:exs (recN GG (n+38)) cW L1 σ (bodyOf (sW 1))=some (.brk,L2,σ2))
      (hs:RowSt cells (rulesD [r0,r1,r2]) (row++[leafP (hdI Y due) s t]) opened due opens (faultB faulty (fateI Y) opened.isEmpty) L2 σ2)
  | go {s:List Nat} {t:List Int} {L2:Loc} {σ2:Sto} {k':Nat} {opened':List Nat} (hb:openB i Y opens opened.length=false) (hl:Leaf (hdI Y due) s t) (hx:stopB (fateI Y) opened.isEmpty=false) (k3:k'<3) (hn:opened=[]→opened'=[])
      (hc:∀ (os:List Nat) (kk:Nat),opened=os++[kk]→opened'=os∧(k':Int)=kindI (fateI Y) kk Y) (he:exs (recN GG (n+38)) cW L1 σ (bodyOf (sW 1))=some (.next,L2,σ2))
      (hs:RowSt cells (rulesD [r0,r1,r2]) (row++[leafP (hdI Y due) s t,closing [r0,r1,r2] k']) opened' (ruleAt [r0,r1,r2] k').r opens (faultB faulty (fateI Y) opened.isEmpty) L2 σ2)
theorem k4o {Y due:Int} (hd:isSym due):isSym (hdI Y due):=by
  unfold hdI
  rcases hd with rfl | rfl<;>cases fateI Y==14
  · exact Or.inl rfl
  · exact Or.inr rfl
  · exact Or.inr rfl
  · exact Or.inl rfl
theorem k4p (F K Y:Int):∃ k':Nat,kindI F K Y=k'∧k'<3:=by
  have h:0≤kindI F K Y∧kindI F K Y<3:=by
    unfold kindI
    cases F==12
    · exact ⟨Int.fmod_nonneg_of_pos _ (by decide),Int.fmod_lt_of_pos _ (by decide)⟩
    · exact ⟨Int.fmod_nonneg_of_pos _ (by decide),Int.fmod_lt_of_pos _ (by decide)⟩
  exact ⟨(kindI F K Y).toNat,by omega,by omega⟩
section
variable {cells:D} {j i opens:Nat} {due Y F hd':Int} {faulty fb:Bool} {step y leaf k able fate head:Option D} {σ:Sto} {row row':List q0h} {opened opened':List Nat}
theorem j8t (hy:q6o r0 r1 r2 Leaf) (hd:isSym due) (hrow:row.length≤100) (hop:opened.length≤50) (q0:σ[0]?=some (row.map pieceD)) (qj:σ[j]?=some (opened.map fun k:Nat=>D.int k)) (hj:1≤j)
    (t2:(recN GG (n+37)).ts cW (LW cells (rulesD [r0,r1,r2]) j due opens faulty step (some (.int Y)) leaf k able fate head) σ (testOf (sWb 2))=some (true,σ)) :
    ∃ kk L2 σ2,kk<3∧(ruleAt [r0,r1,r2] kk).h=due∧(recN GG (n+38)).ex cW (LW cells (rulesD [r0,r1,r2]) j due opens faulty step (some (.int Y)) leaf k able fate head) σ (sWb 2)=some (.cont,L2,σ2)∧
      RowSt cells (rulesD [r0,r1,r2]) (row++[opening [r0,r1,r2] due kk]) (opened++[kk]) (ruleAt [r0,r1,r2] kk).l (opens+1) faulty L2 σ2:=by
  have hjlt:j<σ.length:=(List.getElem?_eq_some_iff.mp qj).1
  have hop':(opened.map fun k:Nat=>D.int k).length≤100:=by rw [List.length_map];exact Nat.le_trans (by assumption) (Nat.le_of_ble_eq_true rfl)
  refine q0d fun hn=>?_
  rcases j8n (n:=n) (cells:=cells) (j:=j) (opens:=opens) (faulty:=faulty) (step:=step) (y:=some (.int Y)) (leaf:=leaf) (k:=k) (able:=able) (fate:=fate) (head:=head) (σ:=σ) hy.h0 hy.h1 hy.h2 hd with ⟨ab,a1,a2,a3,a4⟩
  refine q0a (j8o (n:=n) (cells:=cells) (rules:=rulesD [r0,r1,r2]) (j:=j) (due:=due) (opens:=opens) (faulty:=faulty) (step:=step) (leaf:=leaf) (k:=k) (fate:=fate) (head:=head) (σ:=σ) (Y:=Y) a1 a2) ?_;intro kk p1 p2
  refine hn ?_
  have k3:=(a3 kk p1).1
  have hset:(σ.set 0 (row.map pieceD++[pieceD (opening [r0,r1,r2] due kk)]))[j]?=some (opened.map fun k:Nat=>D.int k):=by rw [List.getElem?_set_ne (by omega)];exact qj
  refine ⟨kk,LW cells (rulesD [r0,r1,r2]) (σ.set 0 (row.map pieceD++[pieceD (opening [r0,r1,r2] due kk)])).length (ruleAt [r0,r1,r2] kk).l (opens+1) faulty step (some (.int Y)) leaf (some (.int (kk:Nat))) (some (.list (ab.map fun k:Nat=>.int k))) fate head,
    (σ.set 0 (row.map pieceD++[pieceD (opening [r0,r1,r2] due kk)]))++[(opened.map fun k:Nat=>D.int k)++[.int kk]],k3,(a3 kk p1).2,?_,_,_,_,_,_,_,_,_,rfl,?_,?_,?_⟩
  · rw [q0m]
    refine (q1s j3m t2).trans ?_
    rw [k9q]
    refine (q0c a4).trans ((q0c p2).trans ((q0c (q1z (n:=n+35) (k:=0) (σ':=σ) k4a rfl k4b (k4c k3 (hy.w kk k3)) q0 ?_)).trans ((q0c (k9r k3 hset hop')).trans (q6x k9s))))
    rw [List.length_map];exact Nat.le_trans hrow (Nat.le_of_ble_eq_true rfl)
  · rw [List.getElem?_append_left (by rw [List.length_set];omega),List.getElem?_set_self (by omega),List.map_append];rfl
  · rw [List.getElem?_append_right (by exact Nat.le_refl _)]
    simp
  · rw [List.length_set];omega
theorem z7j (hy:q6o r0 r1 r2 Leaf) {K:Int} (hrow:row'.length≤101) (z0:σ[0]?=some (row'.map pieceD)) (zj:σ[j]?=some (opened'.map fun k:Nat=>D.int k)) (hj:1≤j):∃ (k':Nat) (L2:Loc) (σ3:Sto),k'<3∧(k':Int)=kindI F K Y∧
    exs (recN GG (n+38)) cW (LW cells (rulesD [r0,r1,r2]) j due opens fb step (some (.int Y)) leaf (some (.int K)) able (some (.int F)) head) σ [sWb 9,sWb 10,sWb 11]=some (.next,L2,σ3)∧
    RowSt cells (rulesD [r0,r1,r2]) (row'++[closing [r0,r1,r2] k']) opened' (ruleAt [r0,r1,r2] k').r opens fb L2 σ3:=by
  refine q0a (k4p F K Y) ?_;intro k' hk' k3
  have hz:0<σ.length:=(List.getElem?_eq_some_iff.mp z0).1
  refine ⟨k',LW cells (rulesD [r0,r1,r2]) j (ruleAt [r0,r1,r2] k').r opens fb step (some (.int Y)) leaf (some (.int (k':Nat))) able (some (.int F)) head,σ.set 0 (row'.map pieceD++[pieceD (closing [r0,r1,r2] k')]),k3,hk'.symm,?_,j,_,_,_,_,_,_,_,rfl,?_,?_,hj⟩
  · have b9:=k9y (n:=n) (cells:=cells) (rules:=rulesD [r0,r1,r2]) (j:=j) (due:=due) (opens:=opens) (faulty:=fb) (step:=step) (leaf:=leaf) (able:=able) (head:=head) (σ:=σ) (F:=F) (K:=K) (Y:=Y)
    rw [hk'] at b9
    refine (q0c b9).trans ((q0c (k4n k3)).trans ((q0c (q1z (n:=n+36) (k:=0) (σ':=σ) j8q rfl j8r (j8s k3 rfl (hy.w k' k3)) z0 ?_)).trans q0j))
    rw [List.length_map];exact Nat.le_trans hrow (Nat.le_of_ble_eq_true rfl)
  · rw [List.getElem?_set_self hz,List.map_append];rfl
  · rw [List.getElem?_set_ne (by omega)];exact zj
theorem j3q (hy:q6o r0 r1 r2 Leaf) (hd:isSym due) (hrow:row.length≤100) (hop:opened.length≤50) (q0:σ[0]?=some (row.map pieceD)) (qj:σ[j]?=some (opened.map fun k:Nat=>D.int k)) (hj:1≤j)
    (b0:(recN GG (n+38)).ex cW (LW cells (rulesD [r0,r1,r2]) j due opens faulty (some (.int (i:Nat))) y leaf k able fate head) σ (sWb 0)=some (.next,LW cells (rulesD [r0,r1,r2]) j due opens faulty (some (.int (i:Nat))) (some (.int Y)) leaf k able fate head,σ)) :
    v6w n cells r0 r1 r2 Leaf Y i row opened due opens faulty (LW cells (rulesD [r0,r1,r2]) j due opens faulty (some (.int (i:Nat))) y leaf k able fate head) σ:=by
  have hjlt:j<σ.length:=(List.getElem?_eq_some_iff.mp qj).1
  have E1:=(congrArg (exs (recN GG (n+38)) cW _ σ) v4g).trans ((q0c b0).trans (q0c k9p))
  have t2:=k3z (n:=n) (cells:=cells) (rules:=rulesD [r0,r1,r2]) (j:=j) (due:=due) (opens:=opens) (faulty:=faulty) (k:=k) (able:=able) (fate:=fate) (head:=head) (σ:=σ) (i:=i) (Y:=Y) qj (by rw [List.length_map];exact Nat.le_trans (by assumption) (Nat.le_of_ble_eq_true rfl))
  rw [List.length_map] at t2
  induction hb:openB i Y opens opened.length using q2i with
  | true=>
    rw [hb] at t2
    refine k0v (j8t hy hd hrow hop q0 qj hj t2) ?_;intro kk L2 σ2 k3 kd h2 st
    exact .opn hb k3 kd (E1.trans (q6x h2)) st
  | false=>
    rw [hb] at t2
    have h2:(recN GG (n+38)).ex cW (LW cells (rulesD [r0,r1,r2]) j due opens faulty (some (.int (i:Nat))) (some (.int Y)) (some (.bool (leafB i Y))) k able fate head) σ (sWb 2)=some (.next,LW cells (rulesD [r0,r1,r2]) j due opens faulty (some (.int (i:Nat))) (some (.int Y)) (some (.bool (leafB i Y))) k able fate head,σ):=by
      rw [q0m]
      refine (q1s j3m t2).trans ?_
      exact q0j
    refine q3l (hy.leaf (n+4) (hdI Y due) (Y.fdiv 3) (k4o hd)) ?_;intro s t hl hca
    have E2:=E1.trans ((q0c h2).trans ((q0c k9t).trans (q0c k9u)))
    have b5:=q1z (n:=n+36) (G:=GG) (c:=cW) (st:=sWb 5) (L:=LW cells (rulesD [r0,r1,r2]) j due opens faulty (some (.int (i:Nat))) (some (.int Y)) (some (.bool (leafB i Y))) k able (some (.int (fateI Y))) (some (.int (hdI Y due))))
      (σ:=σ) (σ':=σ) (k:=0) (l:=row.map pieceD) k4d rfl k4e (k4j hca) q0 (by rw [List.length_map];exact Nat.le_trans hrow (Nat.le_of_ble_eq_true rfl))
    obtain ⟨σ1,hσ1⟩:∃ σ1,σ1=σ.set 0 (row.map pieceD++[pieceD (leafP (hdI Y due) s t)]):=⟨_,rfl⟩
    rw [← hσ1] at b5
    have q0':σ1[0]?=some ((row++[leafP (hdI Y due) s t]).map pieceD):=by rw [hσ1,List.getElem?_set_self (by omega),List.map_append];rfl
    have qk:σ1[j]?=some (opened.map fun k:Nat=>D.int k):=by rw [hσ1,List.getElem?_set_ne (by omega)];exact qj
    have qj':σ1[j]?=some ((opened.map fun k:Nat=>(k:Int)).map .int):=by rw [← j3p];exact qk
    have hz1:j<σ1.length:=(List.getElem?_eq_some_iff.mp qk).1
    have hem:(opened.map fun k:Nat=>(k:Int)).isEmpty=opened.isEmpty:=by induction opened using q1h<;>rfl
    have b6:=k9w (n:=n) (cells:=cells) (rules:=rulesD [r0,r1,r2]) (due:=due) (opens:=opens) (faulty:=faulty) (step:=some (.int (i:Nat))) (y:=some (.int Y)) (leaf:=some (.bool (leafB i Y))) (k:=k) (able:=able) (head:=some (.int (hdI Y due))) (F:=fateI Y) qj'
    have t7:=k4k (n:=n) (cells:=cells) (rules:=rulesD [r0,r1,r2]) (due:=due) (opens:=opens) (faulty:=faultB faulty (fateI Y) opened.isEmpty) (step:=some (.int (i:Nat))) (y:=some (.int Y)) (leaf:=some (.bool (leafB i Y))) (k:=k) (able:=able) (head:=some (.int (hdI Y due))) (F:=fateI Y) qj'
    rw [hem] at b6 t7
    have E3:=E2.trans ((q0c b5).trans (q0c b6))
    have hrow':(row++[leafP (hdI Y due) s t]).length≤101:=by rw [List.length_append];exact Nat.succ_le_succ hrow
    induction hst:stopB (fateI Y) opened.isEmpty using q2i with
    | true=>
      rw [hst] at t7
      refine .stp (L2:=LW cells (rulesD [r0,r1,r2]) j due opens (faultB faulty (fateI Y) opened.isEmpty) (some (.int (i:Nat))) (some (.int Y)) (some (.bool (leafB i Y))) k able (some (.int (fateI Y))) (some (.int (hdI Y due)))) hb hl hst (E3.trans (z5c ?_)) ⟨j,_,_,_,_,_,_,_,rfl,q0',qk,hj⟩
      rw [q0m]
      exact (q1s j3o t7).trans k4l
    | false=>
      rw [hst] at t7
      have h7:(recN GG (n+38)).ex cW (LW cells (rulesD [r0,r1,r2]) j due opens (faultB faulty (fateI Y) opened.isEmpty) (some (.int (i:Nat))) (some (.int Y)) (some (.bool (leafB i Y))) k able (some (.int (fateI Y))) (some (.int (hdI Y due)))) σ1 (sWb 7)=some (.next,LW cells (rulesD [r0,r1,r2]) j due opens (faultB faulty (fateI Y) opened.isEmpty) (some (.int (i:Nat))) (some (.int Y)) (some (.bool (leafB i Y))) k able (some (.int (fateI Y))) (some (.int (hdI Y due))),σ1):=by
        rw [q0m]
        refine (q1s j3o t7).trans ?_
        exact q0j
      have E4:=E3.trans (q0c h7)
      rcases List.eq_nil_or_concat opened with hnil | ⟨os,kk,hcat⟩
      · have qn:σ1[j]?=some []:=by rw [qk,hnil];rfl
        refine q0d fun hZ=>?_;rcases z7j (K:=Y.fdiv 4800) (F:=fateI Y) (Y:=Y) (opened':=[]) hy hrow' q0' qn hj with ⟨k',L2,σ3,k3,hk,he,st⟩;refine hZ ?_
        rw [List.append_assoc] at st
        exact .go hb hl hst k3 (fun zz=>rfl) (fun os kk h=>by rw [hnil] at h;induction os using q1h<;>(first | exact Mine.nl h | cases h)) (E4.trans ((q0c (k4m qn)).trans he)) st
      · rw [List.concat_eq_append] at hcat
        have qc:σ1[j]?=some (((os.map fun k:Nat=>(k:Int))++[(kk:Int)]).map .int):=by rw [qj',hcat,List.map_append];rfl
        have b8:=k9x (n:=n) (cells:=cells) (rules:=rulesD [r0,r1,r2]) (j:=j) (due:=due) (opens:=opens) (faulty:=faultB faulty (fateI Y) opened.isEmpty) (step:=some (.int (i:Nat))) (leaf:=some (.bool (leafB i Y))) (k:=k) (able:=able) (fate:=some (.int (fateI Y))) (head:=some (.int (hdI Y due))) (σ:=σ1) (Y:=Y) qc (by rw [List.length_map];rw [hcat,List.length_append] at hop;exact Nat.le_trans (Nat.le_of_lt (by assumption)) (Nat.le_of_ble_eq_true rfl))
        refine q0d fun hZ=>?_;rcases z7j (K:=kk) (F:=fateI Y) (Y:=Y) (opened':=os) (σ:=σ1.set j ((os.map fun k:Nat=>(k:Int)).map .int)) hy hrow' (by rw [List.getElem?_set_ne (by omega)];exact q0') (by rw [List.getElem?_set_self hz1,← j3p]) hj with ⟨k',L2,σ3,k3,hk,he,st⟩;refine hZ ?_
        rw [List.append_assoc] at st
        refine .go hb hl hst k3 (fun h=>by rw [h] at hcat;induction os using q1h<;>(first | exact Mine.nl hcat | cases hcat)) (fun os2 kk2 h=>?_) (E4.trans ((q0c b8).trans he)) st
        obtain ⟨e1,e2⟩:=List.append_inj' (hcat.symm.trans h) rfl
        have e3:kk=kk2:=(List.cons.inj e2).1
        exact ⟨e1,e3▸hk⟩
end
theorem z7k (hy:q6o r0 r1 r2 Leaf) {i:Nat} (hi:i<14) {row:List q0h} {opened:List Nat} {due:Int} {opens:Nat} {faulty:Bool} {L:Loc} {σ:Sto}
    (hs:RowSt (cells11 c0 c1 c2 c3 c4 c5 c6 c7 c8 c9 c10) (rulesD [r0,r1,r2]) row opened due opens faulty L σ) (hd:isSym due) (hrow:row.length≤100) (hop:opened.length≤50) :
    ∃ L1,give cW.sc σ (targetOf (sW 1)) (.int i) L=some L1∧v6w n (cells11 c0 c1 c2 c3 c4 c5 c6 c7 c8 c9 c10) r0 r1 r2 Leaf ((ysL c3 c4 c5 c6 c7 c8 c9 c10).getD i 0) i row opened due opens faulty L1 σ:=by
  apply q0d;intro hG;rcases hs with ⟨j,step,y,leaf,k,able,fate,head,hL,q0,qj,hj⟩;apply hG;clear hG
  exact ⟨_,hL▸j8m,j3q hy hd hrow hop q0 qj hj (k9o hi)⟩
end
set_option maxRecDepth 100000
set_option maxHeartbeats 4000000
noncomputable def stepsFrom (i:Nat):List D:=((List.range 14).drop i).map fun k:Nat=>D.int k
theorem z0f {i:Nat} (h:i<14):stepsFrom i=.int (i:Nat)::stepsFrom (i+1):=by
  unfold stepsFrom
  rw [List.drop_eq_getElem_cons (by simpa using h)]
  simp
theorem k9z:stepsFrom 14=[]:=rfl
section
variable {n:Nat} {c0 c1 c2 c3 c4 c5 c6 c7 c8 c9 c10:Int} {r0 r1 r2:q3d} {Leaf:Int→List Nat→List Int→Prop}
theorem z5r (hy:q6o r0 r1 r2 Leaf):∀ (m i:Nat) {row:List q0h} {opened:List Nat} {due:Int} {opens:Nat} {L:Loc} {σ:Sto},i+m=14→
    RowSt (cells11 c0 c1 c2 c3 c4 c5 c6 c7 c8 c9 c10) (rulesD [r0,r1,r2]) row opened due opens true L σ→isSym due→row.length≤2*i→opened.length≤i→
    ∃ tail opened' due' opens' L' σ',(∀ p∈tail,WfP [r0,r1,r2] Leaf p)∧tail.length≤2*m∧forItems (recN GG (n+38)) cW (targetOf (sW 1)) (bodyOf (sW 1)) L σ (stepsFrom i)=some (.next,L',σ')∧
      RowSt (cells11 c0 c1 c2 c3 c4 c5 c6 c7 c8 c9 c10) (rulesD [r0,r1,r2]) (row++tail) opened' due' opens' true L' σ':=by
  intro m
  induction m with
  | zero=>
    intro i row opened due opens L σ hi hs hd hr ho
    have:i=14:=by assumption
    subst this
    exact ⟨[],opened,due,opens,L,σ,fun zz h=>(by cases h),by simp,by rfl,by rw [List.append_nil];exact hs⟩
  | succ m ih=>
    intro i row opened due opens L σ hi hs hd hr ho
    have hlt:i<14:=by omega
    rw [z0f hlt]
    refine q0a (z7k (n:=n) hy hlt hs hd (by omega) (by omega)) ?_;intro L1 hg h
    cases h with
    | @opn k L2 σ2 _ k3 kd he hs2=>
      refine z9o (ih (i+1) (by omega) hs2 (hy.sym k k3).1 (by simp;omega) (by simp;assumption)) ?_;intro tail o' d' p' L' σ' w len e st
      refine ⟨opening [r0,r1,r2] due k::tail,o',d',p',L',σ',fun p hp=>?_,by simp;omega,?_,by simpa using st⟩
      · rcases List.mem_cons.mp hp with rfl | hp
        · exact .o k3 kd
        · exact w p hp
      · rw [z6t hg he];exact e
    | @stp s t L2 σ2 _ hl _ he hs2=>
      exact ⟨[leafP (hdI _ due) s t],_,_,_,L2,σ2,fun p hp=>by rw [List.mem_singleton.mp hp];exact .l hl,by exact Nat.le_of_ble_eq_true rfl,j1n hg he,hs2⟩
    | @go s t L2 σ2 k' opened' _ hl _ k3 hn hc he hs2=>
      have hol:opened'.length≤i:=by
        rcases List.eq_nil_or_concat opened with h0 | ⟨os,kk,h0⟩
        · rw [hn h0];simp
        · rw [List.concat_eq_append] at h0
          rw [(hc os kk h0).1];rw [h0] at ho;simp at ho;exact Nat.le_of_lt (by assumption)
      refine z9o (ih (i+1) (by omega) hs2 (hy.sym k' k3).2 (by simp;omega) (by omega)) ?_;intro tail o' d' p' L' σ' w len e st
      refine ⟨leafP (hdI _ due) s t::closing [r0,r1,r2] k'::tail,o',d',p',L',σ',fun p hp=>?_,by simp;omega,?_,by simpa using st⟩
      · rcases List.mem_cons.mp hp with rfl | hp
        · exact .l hl
        · rcases List.mem_cons.mp hp with rfl | hp
          · exact .c k3
          · exact w p hp
      · rw [q1i hg he];exact e
theorem j8u (hy:q6o r0 r1 r2 Leaf):∀ (m i:Nat) {row:List q0h} {opened:List Nat} {due:Int} {opens:Nat} {L:Loc} {σ:Sto},i+m=14→
    RowSt (cells11 c0 c1 c2 c3 c4 c5 c6 c7 c8 c9 c10) (rulesD [r0,r1,r2]) row opened due opens false L σ→isSym due→(∀ k∈opened,k<3)→opened.length≤opens→opens≤4→row.length≤2*i→opened.length≤i→(8≤i→opened.length+i≤12)→
    ∃ tail f opened' due' opens' L' σ',q2r [r0,r1,r2] Leaf opened.reverse due tail f∧(∀ p∈tail,WfP [r0,r1,r2] Leaf p)∧tail.length≤2*m∧forItems (recN GG (n+38)) cW (targetOf (sW 1)) (bodyOf (sW 1)) L σ (stepsFrom i)=some (.next,L',σ')∧
      RowSt (cells11 c0 c1 c2 c3 c4 c5 c6 c7 c8 c9 c10) (rulesD [r0,r1,r2]) (row++tail) opened' due' opens' f L' σ':=by
  intro m
  induction m with
  | zero=>
    intro i row opened due opens L σ hi hs hd hk ho h4 hr hoi h8
    have:=h8 (by omega)
    omega
  | succ m ih=>
    intro i row opened due opens L σ hi hs hd hk ho h4 hr hoi h8
    have hlt:i<14:=by omega
    rw [z0f hlt]
    refine q0a (z7k (n:=n) hy hlt hs hd (by omega) (by omega)) ?_;intro L1 hg h
    generalize (ysL c3 c4 c5 c6 c7 c8 c9 c10).getD i 0=Y at h
    cases h with
    | @opn k L2 σ2 hopen k3 kd he hs2=>
      simp only [openB,Bool.and_eq_true,decide_eq_true_eq] at hopen
      refine q3k hopen ?_;clear hopen;intro i8 o4 zw2
      apply q0d;intro hG;rcases ih (i+1) (by omega) hs2 (hy.sym k k3).1 (fun j hj=>by
          rcases List.mem_append.mp hj with hj | hj
          · exact hk j hj
          · rw [List.mem_singleton.mp hj];exact k3) (by simp;assumption) (by assumption) (by simp;omega) (by simp;assumption) (by simp;omega) with ⟨tail,f,o',d',p',L',σ',g,w,len,e,st⟩;apply hG;clear hG
      rw [List.reverse_append] at g
      refine ⟨opening [r0,r1,r2] due k::tail,f,o',d',p',L',σ',.openIt k3 kd g,fun p hp=>?_,by simp;omega,?_,by simpa using st⟩
      · rcases List.mem_cons.mp hp with rfl | hp
        · exact .o k3 kd
        · exact w p hp
      · rw [z6t hg he];exact e
    | @stp s t L2 σ2 hopen hl hstop he hs2=>
      generalize hq:hdI Y due=hd' at hl hs2
      have hdd:hd'=(if fateI Y==14 then 513 - due else due):=hq.symm
      generalize fateI Y=F at hdd hstop hs2
      refine ⟨[leafP hd' s t],faultB false F opened.isEmpty,opened,due,opens,L2,σ2,?_,fun p hp=>by rw [List.mem_singleton.mp hp];exact .l hl,by exact Nat.le_of_ble_eq_true rfl,j1n hg he,hs2⟩
      by_cases h14:F=14
      · subst h14
        have:faultB false 14 opened.isEmpty=true:=rfl
        refine .badLeaf hl ?_
        have e:hd'=513 - due:=hdd
        rcases hd with rfl | rfl<;>(rw [e];decide)
      · have e:hd'=due:=by
          have:(F==14)=false:=by simpa using h14
          rw [this] at hdd;exact hdd
        apply q1w e
        induction hemp:opened using q1h with
        | nil=>
          have h15:F≠15∨F=13:=by
            rw [hemp] at hstop
            simp only [stopB,List.isEmpty_nil,Bool.true_and,Bool.or_eq_true,beq_iff_eq,bne_iff_ne,ne_eq] at hstop
            rcases hstop with h | h
            · exact Or.inr h
            · exact Or.inl h
          have:faultB false F true=false:=by
            have e14:(F==14)=false:=by simpa using h14
            have e15:(F==15)=false:=by
              rcases h15 with h | h
              · simpa using h
              · apply q0g h;rfl
            simp [faultB,e14,e15]
          rw [show ([]:List Nat).isEmpty=true from rfl,this]
          exact .endIt hl
        | cons a os=>
          rw [hemp] at hstop
          have h13:F=13:=by
            simpa [stopB] using hstop
          apply q0g h13
          have:faultB false 13 (a::os).isEmpty=true:=rfl
          induction hrev:(a::os).reverse using q1h with
          | nil=>simp at hrev
          | cons b rs=>exact .early hl
    | @go s t L2 σ2 k' opened' hopen hl hstop k3 hn hc he hs2=>
      generalize hq:hdI Y due=hd' at hl hs2
      have hdd:hd'=(if fateI Y==14 then 513 - due else due):=hq.symm
      generalize fateI Y=F at hdd hstop hc hs2
      have hol:opened'.length≤i:=by
        rcases List.eq_nil_or_concat opened with h0 | ⟨os,kk,h0⟩
        · rw [hn h0];simp
        · rw [List.concat_eq_append] at h0
          rw [(hc os kk h0).1];rw [h0] at hoi;simp at hoi;exact Nat.le_of_lt (by assumption)
      have bad:faultB false F opened.isEmpty=true→(∀ tail,q2r [r0,r1,r2] Leaf opened.reverse due (leafP hd' s t::closing [r0,r1,r2] k'::tail) true)→
          ∃ tail f opened' due' opens' L' σ',q2r [r0,r1,r2] Leaf opened.reverse due tail f∧(∀ p∈tail,WfP [r0,r1,r2] Leaf p)∧tail.length≤2*(m+1)∧forItems (recN GG (n+38)) cW (targetOf (sW 1)) (bodyOf (sW 1)) L σ (D.int (i:Nat)::stepsFrom (i+1))=some (.next,L',σ')∧
            RowSt (cells11 c0 c1 c2 c3 c4 c5 c6 c7 c8 c9 c10) (rulesD [r0,r1,r2]) (row++tail) opened' due' opens' f L' σ':=by
        intro hf hgen
        rw [hf] at hs2
        refine z9o (z5r (n:=n) hy m (i+1) (by omega) hs2 (hy.sym k' k3).2 (by simp;omega) (by omega)) ?_;intro tail o' d' p' L' σ' w len e st
        refine ⟨leafP hd' s t::closing [r0,r1,r2] k'::tail,true,o',d',p',L',σ',hgen tail,fun p hp=>?_,by simp;omega,?_,by simpa using st⟩
        · rcases List.mem_cons.mp hp with rfl | hp
          · exact .l hl
          · rcases List.mem_cons.mp hp with rfl | hp
            · exact .c k3
            · exact w p hp
        · rw [q1i hg he];exact e
      by_cases h14:F=14
      · subst h14
        refine bad (rfl) fun tail=>.badLeaf hl ?_
        have e:hd'=513 - due:=hdd
        rcases hd with rfl | rfl<;>(rw [e];decide)
      · have e14:(F==14)=false:=by simpa using h14
        have e:hd'=due:=by rw [e14] at hdd;exact hdd
        subst e
        rcases List.eq_nil_or_concat opened with hemp | ⟨os,kk,hcat⟩
        · subst hemp
          have h15:F=15:=by
            simp only [stopB,List.isEmpty_nil,Bool.true_and,Bool.or_eq_false_iff,beq_eq_false_iff_ne,bne_eq_false_iff_eq,ne_eq] at hstop
            exact hstop.2
          subst h15
          exact bad rfl fun tail=>.extra hl k3
        · rw [List.concat_eq_append] at hcat
          obtain ⟨ho',hkk⟩:=hc os kk hcat
          have hemp:opened.isEmpty=false:=by rw [hcat];induction os using q1h<;>rfl
          have k3':kk<3:=hk kk (by rw [hcat];simp)
          have hrev:opened.reverse=kk::os.reverse:=by rw [hcat];simp
          by_cases h12:F=12
          · subst h12
            refine bad (by rw [hemp];rfl) fun tail=>?_
            rw [hrev]
            refine .badClose hl k3' k3 ?_
            have hkind:(k':Int)=((kk:Int)+1+(Y.fdiv 4800).fmod 2).fmod 3:=hkk
            have b1:0≤(Y.fdiv 4800).fmod 2:=Int.fmod_nonneg_of_pos _ (by decide)
            have b2:(Y.fdiv 4800).fmod 2<2:=Int.fmod_lt_of_pos _ (by decide)
            rw [Int.fmod_eq_emod_of_nonneg _ (by decide:(0:Int)≤3)] at hkind
            omega
          · have e12:(F==12)=false:=by simpa using h12
            have h13:F≠13:=by
              simp only [stopB,Bool.or_eq_false_iff,beq_eq_false_iff_ne,ne_eq] at hstop
              exact hstop.1
            have e13:(F==13)=false:=by simpa using h13
            have hf:faultB false F opened.isEmpty=false:=by rw [hemp];simp [faultB,e14,e12,e13]
            have hkind:(k':Int)=(kk:Int).fmod 3:=by
              have:kindI F (kk:Int) Y=(kk:Int).fmod 3:=by unfold kindI;rw [e12];rfl
              rw [hkk,this]
            rw [Int.fmod_eq_emod_of_nonneg _ (by decide:(0:Int)≤3)] at hkind
            have hke:k'=kk:=by omega
            refine q0d fun hn=>?_
            subst hke
            rw [hf] at hs2
            have hlen:opened.length=os.length+1:=by rw [hcat];simp
            subst ho'
            refine hn ?_
            apply q0d;intro hG;rcases ih (i+1) (by omega) hs2 (hy.sym k' k3).2 (fun j hj=>hk j (by rw [hcat];exact List.mem_append_left _ hj)) (by omega) h4 (by simp;omega) (by omega) (fun h=>by
              rcases Nat.lt_or_ge i 8 with h1 | h1
              · omega
              · have:=h8 h1;omega) with ⟨tail,f,o',d',p',L',σ',g,w,len,e,st⟩;apply hG;clear hG
            refine ⟨leafP hd' s t::closing [r0,r1,r2] k'::tail,f,o',d',p',L',σ',by rw [hrev];exact .closeIt hl k3 g,fun p hp=>?_,by simp;omega,?_,by simpa using st⟩
            · rcases List.mem_cons.mp hp with rfl | hp
              · exact .l hl
              · rcases List.mem_cons.mp hp with rfl | hp
                · exact .c k3
                · exact w p hp
            · rw [q1i hg he];exact e
theorem q2l {f:D→Option D} {α:Type} {g:α→D} (hf:∀ a,f (g a)=some (g a)):∀ (l:List α),resL f (l.map g)=some (l.map g)
  | []=>rfl
  | a::l=>by simp only [List.map_cons,q7k,q7l,hf,Option.bind_some,q2l hf l,Option.map_some]
theorem j3r {σ:Sto} {n0 m:Nat} (p:q0h):res σ n0 (m+3) (pieceD p)=some (pieceD p):=by
  unfold pieceD
  have h1:=q2l (f:=res σ n0 (m+1)) (g:=D.int) (fun i=>rfl) p.told
  simp only [z2a,z2b,z2c,z2d,z2e,z2f,q7k,q7l,Option.bind_some,Option.map_some,h1]
theorem v0a (hy:q6o r0 r1 r2 Leaf):∃ row f,q2r [r0,r1,r2] Leaf [] 256 row f∧(∀ p∈row,WfP [r0,r1,r2] Leaf p)∧row.length≤28∧
    (recN GG (n+40)).ca (sO fW) [cells11 c0 c1 c2 c3 c4 c5 c6 c7 c8 c9 c10,rulesD [r0,r1,r2]] []=some (.tup [.list (row.map pieceD),.bool f],[]):=by
  have st0:RowSt (cells11 c0 c1 c2 c3 c4 c5 c6 c7 c8 c9 c10) (rulesD [r0,r1,r2]) [] [] 256 0 false (LW (cells11 c0 c1 c2 c3 c4 c5 c6 c7 c8 c9 c10) (rulesD [r0,r1,r2]) 1 256 0 false none none none none none none none) [[],[]]:=
    ⟨1,_,_,_,_,_,_,_,rfl,rfl,rfl,Nat.le_refl _⟩
  apply q0d;intro hG;rcases j8u (n:=n) hy 14 0 rfl st0 (Or.inl rfl) (fun zz h=>by cases h) (Nat.le_refl _) (by decide) (Nat.le_refl _) (Nat.le_refl _) (fun h=>by exact Nat.le_of_ble_eq_true rfl) with ⟨tail,f,o',d',p',L',σ',g,w,len,e,st⟩;apply hG;clear hG
  refine ⟨tail,f,g,w,by assumption,?_⟩
  rw [j3k,j8l,q0c v4f]
  have hfor:=q8f (n:=n+38) (G:=GG) (c:=cW) (L:=LW (cells11 c0 c1 c2 c3 c4 c5 c6 c7 c8 c9 c10) (rulesD [r0,r1,r2]) 1 256 0 false none none none none none none none) (σ:=[[],[]]) (σ':=[[],[]]) (d:=.rng 0 14) (items:=stepsFrom 0) k9m k9n (by rfl) (by decide)
  rw [q0c (hfor.trans e)]
  apply q0d;intro hG;rcases st with ⟨j,step,y,leaf,k,able,fate,head,rfl,q0,_,_⟩;apply hG;clear hG
  have h1:=q2l (f:=res σ' 0 4) (g:=pieceD) (fun p=>j3r p) tail
  rw [List.nil_append] at q0
  show ((res σ' 0 resFuel (.tup [.loc 0,.bool f])).bind fun d=>_)=_
  have h2:res σ' 0 resFuel (.tup [.loc 0,.bool f])=some (.tup [.list (tail.map pieceD),.bool f]):=by
    simp only [z2a,z2b,z2c,z2d,z2e,z2f,resFuel,q7k,q7l,Nat.zero_le,if_true,q0,Option.bind_some,Option.map_some]
    rw [h1];rfl
  rw [h2]
  rfl
end
set_option maxRecDepth 100000
set_option maxHeartbeats 4000000
noncomputable def b1G (c:Nat):Bool:=(shapeOf p1).b1.contains (c:Int)
noncomputable def b3G (c:Nat):List Nat:=b3D (shapeOf p1).D3 c
theorem v0b:z1o GG.tab:=⟨by decide +kernel,by decide +kernel,by decide +kernel⟩
noncomputable def chkL (s:List Nat) (t:List Int):Bool:=
  ntO s&&quiet (stO s)&&s.all (signOk GG.tab)&&restOk s&&!s.isEmpty&&(plainOf b1G b3G s==(t.filter (0<·)).map Int.toNat)&&t.all (fun i=>decide (0≤i)&&decide (i<256))&&decide (s.length≤20)&&decide (t.length≤20)
noncomputable def LeafG (h:Int) (s:List Nat) (t:List Int):Prop:=isSym h∧chkL s t=true
noncomputable def two:D→Option (D × D)
  | .tup (a::l)=>(lone l).map fun b=>(a,b)
  | _=>none
noncomputable def aList:D→Option (List D)
  | .list l=>some l
  | _=>none
noncomputable def outL (d:D):Option (List Nat × List Int):=(two d).bind fun x=>(asStr x.1).bind fun s=>(aList x.2).bind fun l=>(intsOfD l).map fun t=>(s,t)
noncomputable def leafC (d:D):Bool:=(outL d).elim false fun x=>chkL x.1 x.2
set_option tactic.hygienic true in
theorem z0g:∀ (l:List D) (t:List Int),intsOfD l=some t→l=t.map .int
  | [],t,h=>by apply q0w h;rfl
  | d::l,t,h=>by
    induction d using D.casesOn<;>first | (exact Mine.ns h;done) | skip
    rename_i i
    refine q0a (Option.map_eq_some_iff.mp h) ?_;intro t' h1 e;apply q1w e
    rw [z0g l t' h1];rfl
theorem j3s {d:D} {l:List D} (e:aList d=some l):d=.list l:=by
  induction d using D.casesOn<;>first | exact ns e | exact congrArg D.list (Option.some.inj e)
set_option tactic.hygienic true in
theorem k4q {d:D} {x:D × D} (e:two d=some x):d=.tup [x.1,x.2]:=by
  induction d using D.casesOn<;>first | exact ns e | skip
  rename_i l
  induction l using q1h with
  | nil=>exact ns e
  | cons a l=>
    refine q0a (Option.map_eq_some_iff.mp e) ?_;intro b hb e
    rw [q0x hb];apply q1w e;rfl
theorem v0c {d:D} {s:List Nat} {t:List Int} (h:outL d=some (s,t)):d=.tup [.str s,.list (t.map .int)]:=by
  refine q0a (Option.bind_eq_some_iff.mp h) ?_;intro x hx h
  refine q0a (Option.bind_eq_some_iff.mp h) ?_;intro s' hs h
  refine q0a (Option.bind_eq_some_iff.mp h) ?_;intro l hl h
  refine q0a (Option.map_eq_some_iff.mp h) ?_;intro t' ht h2
  apply Mine.tq2 h2
  rw [k4q hx,q1e hs,j3s hl,z0g _ _ ht]
theorem j8v {m:Nat} (t:List Int):resL (res [] 0 (m+1)) (t.map .int)=some (t.map .int):=q2l (f:=res [] 0 (m+1)) (g:=D.int) (fun a=>rfl) t
theorem z3z {d:D} (h:leafC d=true):∃ s t,chkL s t=true∧res [] 0 resFuel d=some (.tup [.str s,.list (t.map .int)]):=by
  unfold leafC at h
  induction e:outL d using Mine.oC with
  | none=>rw [e] at h;exact Mine.ff h
  | some x=>
    obtain ⟨s,t⟩:=x
    rw [e] at h
    refine ⟨s,t,h,?_⟩
    rw [v0c e]
    simp only [z2a,z2b,z2c,z2d,z2e,z2f,resFuel,q7k,q7l,Option.bind_some,Option.map_some,j8v]
theorem q1f {P:Nat→Bool} {m:Nat} (h:((List.range m).all P)=true) {i:Nat} (hi:i<m):P i=true:=List.all_eq_true.mp h i (List.mem_range.mpr hi)
theorem v8a:((List.range 11).all fun a=>(List.range 4).all fun f=>leafC (.tup [fD a f,.list [.int 102]]))=true:=by decide +kernel
theorem v8b:leafC (.tup [.str [255],.list [.int 255]])=true:=by decide +kernel
theorem v8c:((List.range 27).all fun h=>leafC (.tup [.str [(heldI.getD h 0).toNat],.list [.int 0]]))=true:=by decide +kernel
theorem v8d:((List.range 2).all fun b=>(List.range 4).all fun m=>leafC (D.tup [.str (markS b m),.list [.int 34,.int 34]]))=true:=by decide +kernel
theorem v8e:((List.range 2).all fun b=>(List.range 4).all fun m=>(List.range 2).all fun d=>leafC (D.tup [.str ([92,92]++(List.replicate d (markS b m)).flatten),.list ([.int 92,.int 92]++(List.replicate d [D.int 34,D.int 34]).flatten)]))=true:=by decide +kernel
theorem v8f:((List.range 11).all fun a=>(List.range 4).all fun f=>leafC (.tup [gD a f,.list [.int 105]]))=true:=by decide +kernel
theorem v8g:leafC (.tup [.str [64257],.list [.int 102,.int 105]])=true:=by decide +kernel
theorem v8h:leafC (.tup [.str [64256],.list [.int 102,.int 102]])=true:=by decide +kernel
theorem v8i:((List.range 3).all fun t=>leafC (D.tup [.str ([92]++[[40,41,34].getD t 0]),.list ([D.int 92,D.int 34].take (1+t / 2))]))=true:=by decide +kernel
theorem v8j:((List.range 2).all fun b=>leafC (D.tup [.str ([34,92,34]++[40+b]++[34]),.list [.int 34,.int 92,.int 34,.int 34]]))=true:=by decide +kernel
theorem k4r {a b m f h d z:Nat} (a11:a<11) (b2:b<2) (m4:m<4) (f4:f<4) (h27:h<27) (d2:d<2) (z5:z<5):leafC (leaf0 a b m f h d z)=true:=by
  match z,z5 with
  | 0,_=>exact q1f (q1f v8a a11) f4
  | 1,_=>exact v8b
  | 2,_=>exact q1f v8c h27
  | 3,_=>exact q1f (q1f v8d b2) m4
  | 4,_=>exact q1f (q1f (q1f v8e b2) m4) d2
theorem k4s {a b f t z:Nat} (a11:a<11) (b2:b<2) (f4:f<4) (t3:t<3) (z5:z<5):leafC (leaf1 a b f t z)=true:=by
  match z,z5 with
  | 0,_=>exact q1f (q1f v8f a11) f4
  | 1,_=>exact v8g
  | 2,_=>exact v8h
  | 3,_=>exact q1f v8i t3
  | 4,_=>exact q1f v8j b2
theorem q3h (x:Int) {m:Nat} (h:0<m):∃ a:Nat,x.fmod m=(a:Int)∧a<m:=by
  have h1:0≤x.fmod m:=Int.fmod_nonneg_of_pos _ (by omega)
  have h2:x.fmod m<m:=Int.fmod_lt_of_pos _ (by omega)
  exact ⟨(x.fmod m).toNat,by omega,by omega⟩
theorem j8w (n:Nat) (hd y:Int) (hs:isSym hd):∃ s t,LeafG hd s t∧(recN GG (n+30)).ca (sO fL) [.int hd,.int y] []=some (.tup [.str s,.list (t.map .int)],[]):=by
  refine q0d fun hn=>?_
  refine q0a (q3h (y.fdiv 5) (m:=11) (by decide)) ?_;intro a ha a11
  refine q0a (q3h (y.fdiv 5) (m:=2) (by decide)) ?_;intro b hb b2
  refine q0a (q3h ((y.fdiv 10)+1) (m:=4) (by decide)) ?_;intro m hm m4
  refine q0a (q3h (y.fdiv 55) (m:=4) (by decide)) ?_;intro f hf f4
  refine q0a (q3h (y.fdiv 5) (m:=27) (by decide)) ?_;intro h hh h27
  refine q0a (q3h (y.fdiv 40) (m:=2) (by decide)) ?_;intro d hdd d2
  refine q0a (q3h (y.fdiv 5) (m:=3) (by decide)) ?_;intro t ht t3
  refine q0a (q3h y (m:=5) (by decide)) ?_;intro z hz z5
  refine hn ?_
  rcases hs with rfl | rfl
  · refine q3l (z3z (k4r a11 b2 m4 f4 h27 d2 z5)) ?_;intro s t h1 h2
    refine ⟨s,t,⟨Or.inl rfl,h1⟩,?_⟩
    rw [j8j ha a11 hb b2 hm m4 hf f4 hh h27 hdd d2 hz z5,h2];rfl
  · refine q3l (z3z (k4s a11 b2 f4 t3 z5)) ?_;intro s t h1 h2
    refine ⟨s,t,⟨Or.inr rfl,h1⟩,?_⟩
    rw [j8k ha a11 hb b2 hm m4 hf f4 ht t3 hz z5,h2];rfl
noncomputable def wordC (i:Nat):Bool:=(hasTab GG.tab (wordsS.getD i [])==some (9+(i:Int)))&&decide (1≤(wordsS.getD i []).length)&&decide ((wordsS.getD i []).length≤3)&&(numsOf (wordsS.getD i [])).isEmpty&&(wordsS.getD i []).all tame
theorem k4t:((List.range 46).all wordC)=true:=by decide +kernel
theorem k4u {x:Int} (h1:9≤x) (h2:x≤54):hasTab GG.tab (wordsS.getD (x - 9).toNat [])=some x∧1≤(wordsS.getD (x - 9).toNat []).length∧(wordsS.getD (x - 9).toNat []).length≤3∧numsOf (wordsS.getD (x - 9).toNat [])=[]∧(wordsS.getD (x - 9).toNat []).all tame=true:=by
  have:=q1f k4t (i:=(x - 9).toNat) (by omega)
  simp only [wordC,Bool.and_eq_true,decide_eq_true_eq,beq_iff_eq,List.isEmpty_iff] at this
  obtain ⟨⟨⟨⟨e1,e2⟩,e3⟩,e4⟩,e5⟩:=this
  refine ⟨?_,e2,e3,e4,e5⟩
  rw [e1]
  congr 1
  omega
theorem z5s (x:Int):isSym (256+x.fmod 2):=by
  refine q0a (q3h x (m:=2) (by decide)) ?_;intro a h h2
  have h':x.fmod 2=(a:Int):=h
  unfold isSym
  omega
structure q5p (r:q3d):Prop where
  sl:isSym r.l
  sr:isSym r.r
  lo:9≤r.num
  hi:r.num≤54
  tab:hasTab GG.tab r.w=some r.num
  w1:1≤r.w.length
  w3:r.w.length≤3
  wn:numsOf r.w=[]
  wt:r.w.all tame=true
theorem getD_mem {l:List Int} {i:Nat} (h:i<l.length):l.getD i 0∈l:=by
  rw [List.getD_eq_getElem?_getD,List.getElem?_eq_getElem h];exact List.getElem_mem _
theorem q8n {c:Int} {k:Nat} {nums:List Int} (h:0<nums.length) (hn:∀ x∈nums,9≤x∧x≤54):q5p (ruleOf c k nums):=by
  obtain ⟨m1,m2⟩:=hn _ (getD_mem (q4l (c:=c) h).1)
  refine q4n (k4u m1 m2) ?_;intro e1 e2 e3 e4 e5
  exact ⟨z5s _,z5s _,m1,m2,e1,e2,e3,e4,e5⟩
theorem q8o:nums0.Nodup:=by decide +kernel
theorem q5q {l:List Int} (hl:l.Nodup) {i:Nat} (h:i<l.length):l.getD i 0∉l.eraseIdx i:=by
  intro hm
  obtain ⟨j,hj,hj2⟩:=List.mem_eraseIdx_iff_getElem.mp hm
  obtain ⟨hne,e⟩:=hj2
  have h1:l.getD i 0=l[i]:=by rw [List.getD_eq_getElem?_getD,List.getElem?_eq_getElem h];rfl
  rw [h1] at e
  have hp:=List.pairwise_iff_getElem.mp hl
  rcases Nat.lt_or_gt_of_ne hne with h2 | h2
  · exact hp _ _ _ _ h2 e
  · exact hp _ _ _ _ h2 e.symm
structure q8p (r0 r1 r2:q3d):Prop where
  h0:r0.h=256
  h1:r1.h=257
  h2:r2.h=256∨r2.h=257
  g0:q5p r0
  g1:q5p r1
  g2:q5p r2
  n01:r0.num≠r1.num
  n02:r0.num≠r2.num
  n12:r1.num≠r2.num
theorem k4v (c0 c1 c2:Int):∃ r0 r1 r2,rulesS c0 c1 c2=[r0,r1,r2]∧q8p r0 r1 r2:=by
  have p1:=(q4l (c:=c0) (m:=nums0.length) (by decide)).1
  have l1:=q5l p1
  have nd1:(nums0.eraseIdx (pickI c0 nums0.length)).Nodup:=q8o.sublist (List.eraseIdx_sublist ..)
  have x1:=q5q q8o p1
  refine ⟨_,_,_,rfl,?_⟩
  generalize hn1:nums0.eraseIdx (pickI c0 nums0.length)=n1 at l1 nd1 x1
  have m1:∀ x∈n1,9≤x∧x≤54:=fun x hx=>q5j x (q5k x (hn1▸hx))
  rw [z3w] at l1
  have p2:=(q4l (c:=c1) (m:=n1.length) (by omega)).1
  have l2:=q5l p2
  have nd2:(n1.eraseIdx (pickI c1 n1.length)).Nodup:=nd1.sublist (List.eraseIdx_sublist ..)
  have x2:=q5q nd1 p2
  have y2:=getD_mem p2
  generalize hn2:n1.eraseIdx (pickI c1 n1.length)=n2 at l2 nd2 x2
  have s2:∀ x∈n2,x∈n1:=fun x hx=>q5k x (hn2▸hx)
  have m2:∀ x∈n2,9≤x∧x≤54:=fun x hx=>m1 x (s2 x hx)
  have y3:=getD_mem (q4l (c:=c2) (m:=n2.length) (by omega)).1
  refine ⟨rfl,rfl,?_,q8n (by decide) q5j,q8n (by omega) m1,q8n (by omega) m2,?_,?_,?_⟩
  · have:=z5s c2
    exact this
  · intro e
    have e':nums0.getD (pickI c0 nums0.length) 0=n1.getD (pickI c1 n1.length) 0:=e
    rw [e'] at x1
    exact x1 y2
  · intro e
    have e':nums0.getD (pickI c0 nums0.length) 0=n2.getD (pickI c2 n2.length) 0:=e
    rw [e'] at x1
    exact x1 (s2 _ y3)
  · intro e
    have e':n1.getD (pickI c1 n1.length) 0=n2.getD (pickI c2 n2.length) 0:=e
    rw [e'] at x2
    exact x2 y3
section
variable {r0 r1 r2:q3d} (g:q8p r0 r1 r2)
include g
theorem q8p.all {P:q3d→Prop} (k:Nat) (hk:k<3) (h0:P r0) (h1:P r1) (h2:P r2):P (ruleAt [r0,r1,r2] k):=by
  match k,hk with
  | 0,_=>exact h0
  | 1,_=>exact h1
  | 2,_=>exact h2
theorem q8p.good {k:Nat} (hk:k<3):q5p (ruleAt [r0,r1,r2] k):=g.all k hk g.g0 g.g1 g.g2
theorem q8p.symh {k:Nat} (hk:k<3):isSym (ruleAt [r0,r1,r2] k).h:=g.all (P:=fun r=>isSym r.h) k hk (Or.inl g.h0) (Or.inr g.h1) g.h2
theorem q8p.ok:z5k [r0,r1,r2] where
  sym k hk:=⟨g.symh hk,(g.good hk).sl,(g.good hk).sr⟩
  num k hk:=⟨(g.good hk).lo,(g.good hk).hi⟩
  apart j k hj hk e:=by
    match j,k,hj,hk with
    | 0,0,_,_=>rfl
    | 0,1,_,_=>exact (g.n01 e).elim
    | 0,2,_,_=>exact (g.n02 e).elim
    | 1,0,_,_=>exact (g.n01 e.symm).elim
    | 1,1,_,_=>rfl
    | 1,2,_,_=>exact (g.n12 e).elim
    | 2,0,_,_=>exact (g.n02 e.symm).elim
    | 2,1,_,_=>exact (g.n12 e.symm).elim
    | 2,2,_,_=>rfl
theorem q8p.hyp:q6o r0 r1 r2 LeafG where
  h0:=g.h0
  h1:=g.h1
  h2:=g.h2
  sym k hk:=⟨(g.good hk).sl,(g.good hk).sr⟩
  w k hk:=(g.good hk).w3
  leaf m hd y hs:=j8w m hd y hs
theorem v4j {p:q0h} (h:WfP [r0,r1,r2] LeafG p):pieceOk p:=by
  cases h with
  | @o due k hk hd=>
    refine Or.inl ⟨hk,_,(g.good hk).wt,?_⟩
    have:due>0:=by
      have:=g.symh hk
      rw [hd] at this
      rcases this with rfl | rfl<;>decide
    show 40::_=(if due>0 then 40 else 41)::_
    rw [if_pos this]
  | c hk=>exact Or.inl ⟨hk,_,(g.good hk).wt,rfl⟩
  | l hl=>
    have:=hl.2
    simp only [chkL,Bool.and_eq_true] at this
    obtain ⟨⟨⟨⟨⟨⟨⟨⟨a1,a2⟩,a3⟩,a4⟩,a5⟩,a6⟩,a7⟩,a8⟩,a9⟩:=this
    exact Or.inr ⟨Nat.lt_irrefl 3,a1,a2⟩
theorem k4w {p:q0h} (h:WfP [r0,r1,r2] LeafG p):pieceScan GG.tab b1G b3G [r0,r1,r2] p:=by
  cases h with
  | @o due k hk hd=>
    refine Or.inl ⟨hk,⟨(ruleAt [r0,r1,r2] k).w,?_,(g.good hk).tab,(g.good hk).w1,(g.good hk).w3,(g.good hk).wn⟩,rfl⟩
    have:due>0:=by
      have:=g.symh hk
      rw [hd] at this
      rcases this with rfl | rfl<;>decide
    show 40::_=(if due>0 then 40 else 41)::_
    rw [if_pos this]
  | c hk=>exact Or.inl ⟨hk,⟨_,rfl,(g.good hk).tab,(g.good hk).w1,(g.good hk).w3,(g.good hk).wn⟩,rfl⟩
  | @l h s t hl=>
    have:=hl.2
    simp only [chkL,Bool.and_eq_true,Bool.not_eq_true',List.isEmpty_eq_false_iff,beq_iff_eq] at this
    obtain ⟨⟨⟨⟨⟨⟨⟨⟨a1,a2⟩,a3⟩,a4⟩,a5⟩,a6⟩,a7⟩,a8⟩,a9⟩:=this
    exact Or.inr ⟨Nat.lt_irrefl 3,a3,a4,a5,a6⟩
structure q8q (p:q0h):Prop where
  head:p.head=0∨isSym p.head
  k:p.k≤3
  sign:p.sign.length≤20
  told:p.told.length≤20
  toldI:∀ i∈p.told,0≤i∧i<256
theorem j8x {p:q0h} (h:WfP [r0,r1,r2] LeafG p):q8q p:=by
  cases h with
  | @o due k hk hd=>
    have hs:=g.symh hk
    rw [hd] at hs
    have:=(g.good hk).w3
    exact ⟨Or.inr hs,by show k≤3;exact Nat.le_of_lt (by assumption),by show (40::_:List Nat).length≤20;simp;exact Nat.le_trans (by assumption) (Nat.le_of_ble_eq_true rfl),Nat.zero_le _,fun i hi=>by cases hi⟩
  | @c k hk=>
    have:=(g.good hk).w3
    exact ⟨Or.inl rfl,by show k≤3;exact Nat.le_of_lt (by assumption),by show (41::_:List Nat).length≤20;simp;exact Nat.le_trans (by assumption) (Nat.le_of_ble_eq_true rfl),Nat.zero_le _,fun i hi=>by cases hi⟩
  | @l h s t hl=>
    have:=hl.2
    simp only [chkL,Bool.and_eq_true,decide_eq_true_eq] at this
    obtain ⟨⟨⟨⟨⟨⟨⟨⟨a1,a2⟩,a3⟩,a4⟩,a5⟩,a6⟩,a7⟩,a8⟩,a9⟩:=this
    refine ⟨Or.inr hl.1,Nat.le_refl _,a8,a9,fun i hi=>?_⟩
    have:=List.all_eq_true.mp a7 i hi
    simpa using this
end
set_option maxRecDepth 100000
set_option maxHeartbeats 4000000
theorem j3t {R:Rec} {σ:Sto} {a b:Nat} (h:a≤1000∧b≤1000):callD GG R σ (sO "max") [.int a,.int b]=some (.int (max a b:Nat),σ):=by
  have hv:(if (a:Int)<(b:Int) then (b:Int) else (a:Int))=((max a b:Nat):Int):=by
    split<;>omega
  have h3:builtinD σ (sO "max") [.int a,.int b]=some (.int (if (a:Int)<(b:Int) then (b:Int) else (a:Int))):=by kernel_rfl
  rw [hv] at h3
  exact q6a (by kernel_rfl) (by kernel_rfl) h3 (Nat.ble_eq_true_of_le (by omega))
theorem j3u {R:Rec} {σ:Sto} {l:List D} {a:Int} {r:List Int} {m:Nat} (h:intsOfD l=some (a::r)) (hm:maxI a r=(m:Int)) (h2:m≤1000):callD GG R σ (sO "max") [.list l]=some (.int m,σ):=by
  have h3:builtinD σ (sO "max") [.list l]=(intsOfD l).bind (overD maxI):=by kernel_rfl
  exact q6a (by kernel_rfl) (by kernel_rfl) (h3.trans (bs h (congrArg (fun x=>some (D.int x)) hm))) (Nat.ble_eq_true_of_le (Nat.le_trans h2 (by decide)))
theorem k4x:GG.fn (sO "in_table_b1")=none:=by kernel_rfl
theorem k4y:GG.fn (sO "map_table_b3")=none:=by kernel_rfl
theorem j3v {R:Rec} {σ:Sto} {k:Nat}:callD GG R σ (sO "in_table_b1") [.str [k]]=some (.bool (b1G k),σ):=by
  refine z3l (g:=chr1 fun c=>.bool ((shapeOf p1).b1.contains (c:Int))) k4x (by kernel_rfl) rfl
theorem k4z {R:Rec} {σ:Sto} {k:Nat}:callD GG R σ (sO "map_table_b3") [.str [k]]=some (.str (b3G k),σ):=by
  have n1:¬ sO "map_table_b3"=Str.ofString "in_table_b1":=by decide +kernel
  refine z3l (g:=chr1 fun c=>.str (b3D (shapeOf p1).D3 c)) k4y (by kernel_rfl) rfl
noncomputable abbrev fN:String:="_law_scan"
noncomputable abbrev cN:Cx:=cx fN
noncomputable abbrev sN (i:Nat):Stmt:=sel (bd fN) i
noncomputable def LN (t acc:List Nat) (size:Option D):Loc:=[(sO "text",some (.str t)),(sO "numbers",some (.loc 0)),(sO "plain",some (.str acc)),(sO "size",size)]
section
variable {n:Nat} {t acc:List Nat} {size:Option D} {σ:Sto}
theorem z9g:(recN GG (n+30)).ca (sO fN) [.str t] []=(exs (recN GG (n+29)) cN [(sO "text",some (.str t)),(sO "numbers",none),(sO "plain",none),(sO "size",none)] [] (bd fN)).bind (caEnd []):=by kernel_rfl
theorem j3w:bd fN=[sN 0,sN 1,sN 2]:=by kernel_rfl
theorem v0d:(recN GG (n+29)).ex cN [(sO "text",some (.str t)),(sO "numbers",none),(sO "plain",none),(sO "size",none)] [] (sN 0)=some (.next,LN t [] none,[[]]):=by kernel_rfl
theorem k5a:isWhile (sN 1)=true:=by kernel_rfl
theorem z1r:(recN GG (n+28)).ts cN (LN t acc size) σ (testOf (sN 1))=some (!(t==[]),σ):=by kernel_rfl
theorem v0e:(recN GG (n+29)).ex cN (LN t acc size) σ (sN 2)=some (.ret (.tup [.loc 0,.str acc]),LN t acc size,σ):=by kernel_rfl
noncomputable abbrev sNb (i:Nat):Stmt:=sel (bodyOf (sN 1)) i
theorem j3x:bodyOf (sN 1)=[sNb 0,sNb 1,sNb 2]:=by kernel_rfl
noncomputable abbrev eNm:PySem.Expr:=valOf (sNb 0)
noncomputable abbrev eNa:PySem.Expr:=(methA eNm).getD 0 noE
noncomputable abbrev eNc:PySem.Expr:=binL eNa
theorem k5b:isAsg "size" (sNb 0)=true:=by kernel_rfl
theorem k5c:isCall GG cN "max" eNm=true:=by kernel_rfl
theorem k5d:methA eNm=[eNa]:=by kernel_rfl
theorem k5e:isBin .Add eNa=true:=by kernel_rfl
theorem k5f:(recN GG (n+25)).ev cN (LN t acc size) σ (binR eNa)=some (.list [.int 0],σ):=by kernel_rfl
theorem k5g:isComp cN (LN t acc size) eNc=true:=by kernel_rfl
theorem k5h:(recN GG (n+24)).ev (cxI cN) (LN t acc size) σ (compG eNc).iter=some (.tup [.int 1,.int 2,.int 3],σ):=by kernel_rfl
noncomputable def LNc (t:List Nat) (x:Nat):Loc:=[(sO "text",some (.str t)),(sO "n",some (.int x))]
theorem k5i {x:Nat}:give (cxC cN eNc).sc σ (compG eNc).target (.int x) (Loc.keep (compSc eNc) (LN t acc size))=some (LNc t x):=by kernel_rfl
theorem k5j:(compG eNc).ifs=[((compG eNc).ifs).getD 0 noE]:=by kernel_rfl
noncomputable abbrev eNt:PySem.Expr:=((compG eNc).ifs).getD 0 noE
theorem k5k:isCmp .In eNt=true:=by kernel_rfl
theorem j8y:isCut (cmpL eNt)=true:=by kernel_rfl
theorem j8z {x:Nat}:(recN GG (n+22)).ev (cxC cN eNc) (LNc t x) σ (itemO (cmpL eNt))=some (.str t,σ):=by kernel_rfl
theorem j9a {R:Rec} {c:Cx} {L:Loc}:evOpt R c L σ (cutLo (cmpL eNt))=some (none,σ):=by kernel_rfl
theorem j9b {x:Nat}:evOpt (recN GG (n+22)) (cxC cN eNc) (LNc t x) σ (cutHi (cmpL eNt))=some (some (x:Int),σ):=by kernel_rfl
theorem j9c {x:Nat}:(recN GG (n+23)).ev (cxC cN eNc) (LNc t x) σ (cmpR eNt)=some (.etab,σ):=by kernel_rfl
theorem j9d {x:Nat}:(recN GG (n+23)).ev (cxC cN eNc) (LNc t x) σ (compE eNc)=some (D.int x,σ):=by kernel_rfl
theorem q8r (ht:t.length≤LIM):(recN GG (n+28)).ex cN (LN t acc size) σ (sNb 0)=some (.next,LN t acc (some (.int (sizeS GG.tab t))),σ):=by
  have hc:(recN GG (n+25)).ev cN (LN t acc size) σ eNc=some (.list (([1,2,3].filter fun x:Nat=>inTab GG.tab t x).map fun x:Nat=>D.int x),σ):=by
    rw [q0b]
    refine q4k (items:=([1,2,3]:List Nat).map fun x:Nat=>D.int (x:Int)) k5g k5h rfl (by simp;decide) ?_ ?_
    · refine q6m (P:=fun x=>inTab GG.tab t x) _ fun x zz=>⟨LNc t x,k5i,?_,fun zz=>?_⟩
      · rw [k5j]
        refine z1h (σ':=σ) ?_
        rw [q0u]
        refine q1l (a:=.str (t.take x)) (b:=.etab) (σ1:=σ) k5k ?_ j9c rfl
        rw [q0b]
        exact q5c j8y j8z j9a j9b (k1j ht)
      · exact q8g (σ':=σ) (j9d)
    · simp only [List.length_map]
      have:=List.length_filter_le (fun x:Nat=>inTab GG.tab t x) [1,2,3]
      simp only [List.length_cons,List.length_nil] at this
      show _≤65536
      exact Nat.le_trans (by assumption) (Nat.le_of_ble_eq_true rfl)
  have hmax:∃ (a:Int) (r:List Int),intsOfD ((([1,2,3].filter fun x:Nat=>inTab GG.tab t x).map fun x:Nat=>D.int x)++[D.int 0])=some (a::r)∧maxI a r=((sizeS GG.tab t:Nat):Int)∧sizeS GG.tab t≤1000∧
      ((([1,2,3].filter fun x:Nat=>inTab GG.tab t x).map fun x:Nat=>D.int x)++[D.int 0]).length≤LIM:=by
    unfold sizeS
    cases h1:inTab GG.tab t 1<;>cases h2:inTab GG.tab t 2<;>cases h3:inTab GG.tab t 3<;>simp only [List.filter,h1,h2,h3]<;>exact ⟨_,_,rfl,by decide,by decide,by decide⟩
  refine q2x hmax ?_;clear hmax;intro a r m1 m2 m3 m4
  refine q0p (n:=n+27) (x:="size") (d:=.int (sizeS GG.tab t)) k5b (by kernel_rfl) (by kernel_rfl) ?_
  rw [q0b]
  refine q0l (f:="max") k5c (by kernel_rfl) ?_ (j3u m1 m2 m3)
  rw [k5d]
  refine q0e ?_ q0o
  rw [q0b]
  refine q0r (σ1:=σ) k5e rfl hc k5f ?_
  refine q2e ?_
  rw [List.length_append] at m4
  exact m4
theorem j3y:isIf (sNb 1)=true:=by kernel_rfl
theorem z5t {s:Nat}:(recN GG (n+27)).ts cN (LN t acc (some (.int s))) σ (testOf (sNb 1))=some (decide ((0:Int)<(s:Int)),σ):=by kernel_rfl
noncomputable abbrev sNt:Stmt:=sel (thenOf (sNb 1)) 0
noncomputable abbrev sNe:Stmt:=sel (elseOf (sNb 1)) 0
theorem k5l:thenOf (sNb 1)=[sNt]:=by kernel_rfl
theorem j3z:elseOf (sNb 1)=[sNe]:=by kernel_rfl
theorem k5m:isApp sNt=true:=by kernel_rfl
theorem k5n:(recN GG (n+25)).ev cN (LN t acc size) σ (appO sNt)=some (.loc 0,σ):=by kernel_rfl
theorem k5o:isItem (appE sNt)=true:=by kernel_rfl
theorem k5p:(recN GG (n+24)).ev cN (LN t acc size) σ (itemO (appE sNt))=some (.etab,σ):=by kernel_rfl
theorem k5q:isCut (itemI (appE sNt))=true:=by kernel_rfl
theorem k5r:(recN GG (n+23)).ev cN (LN t acc size) σ (itemO (itemI (appE sNt)))=some (.str t,σ):=by kernel_rfl
theorem k5s {R:Rec} {c:Cx} {L:Loc}:evOpt R c L σ (cutLo (itemI (appE sNt)))=some (none,σ):=by kernel_rfl
theorem k5t {s:Nat}:evOpt (recN GG (n+23)) cN (LN t acc (some (.int s))) σ (cutHi (itemI (appE sNt)))=some (some (s:Int),σ):=by kernel_rfl
theorem j9e {s:Nat} {i:Int} {l:List D} (ht:t.length≤LIM) (hi:hasTab GG.tab (t.take s)=some i) (hl:σ[0]?=some l) (hn:l.length≤LIM) :
    exs (recN GG (n+27)) cN (LN t acc (some (.int s))) σ (thenOf (sNb 1))=some (.next,LN t acc (some (.int s)),σ.set 0 (l++[.int i])):=by
  rw [k5l]
  refine (q0c ?_).trans q0j
  refine q1z (n:=n+25) k5m rfl k5n (d:=.int i) ?_ hl hn
  rw [q0b]
  refine q0z k5o k5p (b:=.str (t.take s)) (σ2:=σ) ?_ ?_
  · rw [q0b]
    exact q5c k5q k5r k5s k5t (k1j ht)
  · show (hasTab GG.tab (t.take s)).map D.int=_
    rw [hi];rfl
theorem j4a:isIf sNe=true:=by kernel_rfl
theorem k5u:isCmp .Is (testOf sNe)=true:=by kernel_rfl
theorem k5v:isCall GG cN "in_table_b1" (cmpL (testOf sNe))=true:=by kernel_rfl
theorem k5w {c:Nat}:evs (recN GG (n+24)) cN (LN (c::t) acc size) σ (methA (cmpL (testOf sNe)))=some ([.str [c]],σ):=by
  have h0:methA (cmpL (testOf sNe))=[((methA (cmpL (testOf sNe))).getD 0 noE)]:=by kernel_rfl
  have h1:isItem ((methA (cmpL (testOf sNe))).getD 0 noE)=true:=by kernel_rfl
  have h2:(recN GG (n+23)).ev cN (LN (c::t) acc size) σ (itemO ((methA (cmpL (testOf sNe))).getD 0 noE))=some (.str (c::t),σ):=by kernel_rfl
  have h3:(recN GG (n+23)).ev cN (LN (c::t) acc size) σ (itemI ((methA (cmpL (testOf sNe))).getD 0 noE))=some (.int (0:Nat),σ):=by kernel_rfl
  rw [h0]
  refine q0e ?_ q0o
  rw [q0b]
  exact q0z h1 h2 h3 (q5e rfl (by decide))
theorem k5x:(recN GG (n+25)).ev cN (LN t acc size) σ (cmpR (testOf sNe))=some (.bool false,σ):=by kernel_rfl
theorem j4b {c s:Nat}:(recN GG (n+26)).ts cN (LN (c::t) acc (some (.int s))) σ (testOf sNe)=some (b1G c==false,σ):=by
  rw [q0u]
  refine q1l (a:=.bool (b1G c)) (b:=.bool false) (σ1:=σ) k5u ?_ k5x rfl
  rw [q0b]
  exact q0l (f:="in_table_b1") k5v (by kernel_rfl) k5w j3v
noncomputable abbrev sNet:Stmt:=sel (thenOf sNe) 0
noncomputable abbrev sNee:Stmt:=sel (elseOf sNe) 0
theorem j9f:thenOf sNe=[sNet]:=by kernel_rfl
theorem j9g:elseOf sNe=[sNee]:=by kernel_rfl
theorem k5y:isAsg "plain" sNet=true:=by kernel_rfl
theorem k5z:isBin .Add (valOf sNet)=true:=by kernel_rfl
theorem k6a:(recN GG (n+24)).ev cN (LN t acc size) σ (binL (valOf sNet))=some (.str acc,σ):=by kernel_rfl
theorem k6b:isCall GG cN "map_table_b3" (binR (valOf sNet))=true:=by kernel_rfl
theorem k6c {c:Nat}:evs (recN GG (n+23)) cN (LN (c::t) acc size) σ (methA (binR (valOf sNet)))=some ([.str [c]],σ):=by
  have h0:methA (binR (valOf sNet))=[((methA (binR (valOf sNet))).getD 0 noE)]:=by kernel_rfl
  have h1:isItem ((methA (binR (valOf sNet))).getD 0 noE)=true:=by kernel_rfl
  have h2:(recN GG (n+22)).ev cN (LN (c::t) acc size) σ (itemO ((methA (binR (valOf sNet))).getD 0 noE))=some (.str (c::t),σ):=by kernel_rfl
  have h3:(recN GG (n+22)).ev cN (LN (c::t) acc size) σ (itemI ((methA (binR (valOf sNet))).getD 0 noE))=some (.int (0:Nat),σ):=by kernel_rfl
  rw [h0]
  refine q0e ?_ q0o
  rw [q0b]
  exact q0z h1 h2 h3 (q5e rfl (by decide))
theorem j9h {c s:Nat} (hb:acc.length+(b3G c).length≤LIM):exs (recN GG (n+26)) cN (LN (c::t) acc (some (.int s))) σ (thenOf sNe)=some (.next,LN (c::t) (acc++b3G c) (some (.int s)),σ):=by
  rw [j9f]
  refine (q0c (L':=LN (c::t) (acc++b3G c) (some (.int s))) (σ':=σ) ?_).trans q0j
  refine q0p (n:=n+25) (x:="plain") (d:=.str (acc++b3G c)) k5y (by kernel_rfl) (by kernel_rfl) ?_
  rw [q0b]
  refine q0r (a:=.str acc) (b:=.str (b3G c)) (σ1:=σ) k5z rfl k6a ?_ (q1n hb)
  rw [q0b]
  exact q0l (f:="map_table_b3") k6b (by kernel_rfl) k6c k4z
theorem k6d:isIf sNee=true:=by kernel_rfl
theorem k6e:isCmp .IsNot (testOf sNee)=true:=by kernel_rfl
theorem k6f:isCall GG cN "in_table_b1" (cmpL (testOf sNee))=true:=by kernel_rfl
theorem k6g {c:Nat}:evs (recN GG (n+22)) cN (LN (c::t) acc size) σ (methA (cmpL (testOf sNee)))=some ([.str [c]],σ):=by
  have h0:methA (cmpL (testOf sNee))=[((methA (cmpL (testOf sNee))).getD 0 noE)]:=by kernel_rfl
  have h1:isItem ((methA (cmpL (testOf sNee))).getD 0 noE)=true:=by kernel_rfl
  have h2:(recN GG (n+21)).ev cN (LN (c::t) acc size) σ (itemO ((methA (cmpL (testOf sNee))).getD 0 noE))=some (.str (c::t),σ):=by kernel_rfl
  have h3:(recN GG (n+21)).ev cN (LN (c::t) acc size) σ (itemI ((methA (cmpL (testOf sNee))).getD 0 noE))=some (.int (0:Nat),σ):=by kernel_rfl
  rw [h0]
  refine q0e ?_ q0o
  rw [q0b]
  exact q0z h1 h2 h3 (q5e rfl (by decide))
theorem k6h:(recN GG (n+23)).ev cN (LN t acc size) σ (cmpR (testOf sNee))=some (.bool true,σ):=by kernel_rfl
theorem v4k:elseOf sNee=[]:=by kernel_rfl
theorem j4c {c s:Nat} (hb:b1G c=true):exs (recN GG (n+26)) cN (LN (c::t) acc (some (.int s))) σ (elseOf sNe)=some (.next,LN (c::t) acc (some (.int s)),σ):=by
  rw [j9g]
  refine (q0c (L':=LN (c::t) acc (some (.int s))) (σ':=σ) ?_).trans q0j
  have ht:(recN GG (n+25)).ts cN (LN (c::t) acc (some (.int s))) σ (testOf sNee)=some (!(b1G c==true),σ):=by
    refine q1l (a:=.bool (b1G c)) (b:=.bool true) (σ1:=σ) k6e ?_ k6h rfl
    exact q0l (f:="in_table_b1") k6f (by kernel_rfl) k6g j3v
  rw [q0m,q1s k6d ht,hb]
  show exs _ _ _ _ (elseOf sNee)=_
  exact q0j
theorem k6i:isAsg "text" (sNb 2)=true:=by kernel_rfl
theorem k6j:isCut (valOf (sNb 2))=true:=by kernel_rfl
theorem k6k:(recN GG (n+26)).ev cN (LN t acc size) σ (itemO (valOf (sNb 2)))=some (.str t,σ):=by kernel_rfl
theorem k6l:cutLo (valOf (sNb 2))=some (theE (cutLo (valOf (sNb 2)))):=by kernel_rfl
theorem k6m:isCall GG cN "max" (theE (cutLo (valOf (sNb 2))))=true:=by kernel_rfl
theorem k6n {s:Nat}:evs (recN GG (n+25)) cN (LN t acc (some (.int s))) σ (methA (theE (cutLo (valOf (sNb 2)))))=some ([.int (1:Nat),.int s],σ):=by kernel_rfl
theorem v4l:cutHi (valOf (sNb 2))=none:=by kernel_rfl
theorem q8s {s:Nat} (ht:t.length≤LIM) (hs:s≤3):(recN GG (n+28)).ex cN (LN t acc (some (.int s))) σ (sNb 2)=some (.next,LN (t.drop (max 1 s)) acc (some (.int s)),σ):=by
  refine q0p (n:=n+27) (x:="text") (d:=.str (t.drop (max 1 s))) k6i (by kernel_rfl) (by kernel_rfl) ?_
  rw [q0b]
  refine q5c (σ2:=σ) (lo:=some ((max 1 s:Nat):Int)) (hi:=none) k6j k6k ?_ (by rfl) (z0d ht)
  rw [k6l]
  refine z7a ?_
  rw [q0b]
  exact q0l (f:="max") k6m (by kernel_rfl) k6n (j3t (by omega))
end
theorem z5u (tab:List (Str × Int)) (t:List Nat):sizeS tab t≤3:=by
  unfold sizeS
  split
  · exact Nat.le_refl _
  · split
    · decide
    · split<;>decide
theorem j4d {n:Nat} {t:List Nat} {nums:List Int} {plain:List Nat} (h:q2b GG.tab b1G b3G t nums plain):∀ (m:Nat) (acc:List Nat) (accN:List Int) (size:Option D),t.length<m→t.length≤LIM→acc.length+plain.length≤LIM→accN.length+nums.length≤LIM→
    ∃ size',whileN (recN GG (n+28)) cN (testOf (sN 1)) (bodyOf (sN 1)) m (LN t acc size) [accN.map .int]=some (.next,LN [] (acc++plain) size',[(accN++nums).map .int]):=by
  induction h with
  | nil=>
    intro m acc accN size hm ht hp hn
    induction m using j5f with
    | zero=>exact absurd (by assumption) (Nat.lt_irrefl _)
    | succ m=>
      refine ⟨size,?_⟩
      rw [j1y (z1r (n:=n) (t:=[]) (acc:=acc) (size:=size) (σ:=[accN.map .int]))]
      simp
  | @tok t i nums plain hne hs hi r ih=>
    intro m acc accN size hm ht hp hn
    induction m using j5f with
    | zero=>omega
    | succ m=>
      have hte:(!(t==[]))=true:=by simpa using hne
      have h0:=z1r (n:=n) (t:=t) (acc:=acc) (size:=size) (σ:=[accN.map .int])
      rw [hte] at h0
      have hlen:0<t.length:=List.length_pos_iff.mpr hne
      dsimp only [List.length_cons] at hn
      have h1:(recN GG (n+28)).ex cN (LN t acc (some (.int (sizeS GG.tab t)))) [accN.map .int] (sNb 1)=some (.next,LN t acc (some (.int (sizeS GG.tab t))),[(accN++[i]).map .int]):=by
        rw [q0m,q1s j3y z5t,show decide ((0:Int)<((sizeS GG.tab t:Nat):Int))=true from decide_eq_true (by omega)]
        rw [if_pos rfl,j9e ht hi rfl (by rw [List.length_map];omega)]
        simp
      have hmax:max 1 (sizeS GG.tab t)=sizeS GG.tab t:=by omega
      have hb:exs (recN GG (n+28)) cN (LN t acc size) [accN.map .int] (bodyOf (sN 1))=some (.next,LN (t.drop (sizeS GG.tab t)) acc (some (.int (sizeS GG.tab t))),[(accN++[i]).map .int]):=by
        rw [j3x,q0c (q8r ht),q0c h1,q0c (q8s ht (z5u _ _)),hmax]
        exact q0j
      rw [z1i h0 hb]
      obtain ⟨size',e⟩:=ih m acc (accN++[i]) (some (.int (sizeS GG.tab t))) (by rw [List.length_drop];omega) (by rw [List.length_drop];omega) hp (by simp;omega)
      exact ⟨size',by rw [e];simp⟩
  | @held c t nums plain hs hbb r ih=>
    intro m acc accN size hm ht hp hn
    induction m using j5f with
    | zero=>omega
    | succ m=>
      have h0:=z1r (n:=n) (t:=c::t) (acc:=acc) (size:=size) (σ:=[accN.map .int])
      dsimp only [List.length_cons] at hm ht
      have h1:(recN GG (n+28)).ex cN (LN (c::t) acc (some (.int (sizeS GG.tab (c::t))))) [accN.map .int] (sNb 1)=some (.next,LN (c::t) acc (some (.int (sizeS GG.tab (c::t)))),[accN.map .int]):=by
        rw [q0m,q1s j3y z5t,hs,j3z]
        refine (q0c (L':=LN (c::t) acc (some (.int (0:Nat)))) (σ':=[accN.map .int]) ?_).trans q0j
        rw [q0m,q1s j4a j4b,hbb]
        exact j4c hbb
      have hb:exs (recN GG (n+28)) cN (LN (c::t) acc size) [accN.map .int] (bodyOf (sN 1))=some (.next,LN t acc (some (.int (sizeS GG.tab (c::t)))),[accN.map .int]):=by
        rw [j3x,q0c (q8r (by exact ht)),q0c h1,q0c (q8s (by exact ht) (z5u _ _)),hs]
        exact q0j
      rw [z1i h0 hb]
      exact ih m acc accN _ (by omega) (by exact Nat.le_of_lt (by assumption)) hp hn
  | @sgn c t nums plain hs hbb r ih=>
    intro m acc accN size hm ht hp hn
    induction m using j5f with
    | zero=>omega
    | succ m=>
      have h0:=z1r (n:=n) (t:=c::t) (acc:=acc) (size:=size) (σ:=[accN.map .int])
      dsimp only [List.length_cons] at hm ht
      rw [List.length_append] at hp
      have h1:(recN GG (n+28)).ex cN (LN (c::t) acc (some (.int (sizeS GG.tab (c::t))))) [accN.map .int] (sNb 1)=some (.next,LN (c::t) (acc++b3G c) (some (.int (sizeS GG.tab (c::t)))),[accN.map .int]):=by
        rw [q0m,q1s j3y z5t,hs,j3z]
        refine (q0c (L':=LN (c::t) (acc++b3G c) (some (.int (0:Nat)))) (σ':=[accN.map .int]) ?_).trans q0j
        rw [q0m,q1s j4a j4b,hbb]
        exact j9h (by omega)
      have hb:exs (recN GG (n+28)) cN (LN (c::t) acc size) [accN.map .int] (bodyOf (sN 1))=some (.next,LN t (acc++b3G c) (some (.int (sizeS GG.tab (c::t)))),[accN.map .int]):=by
        rw [j3x,q0c (q8r (by exact ht)),q0c h1,q0c (q8s (by exact ht) (z5u _ _)),hs]
        exact q0j
      rw [z1i h0 hb]
      obtain ⟨size',e⟩:=ih m (acc++b3G c) accN (some (.int (sizeS GG.tab (c::t)))) (by omega) (by exact Nat.le_of_lt (by assumption)) (by rw [List.length_append];omega) hn
      exact ⟨size',by rw [e];simp⟩
theorem k6o {n:Nat} {t:List Nat} {nums:List Int} {plain:List Nat} (h:q2b GG.tab b1G b3G t nums plain) (ht:t.length<LIM) (hp:plain.length≤LIM) (hn:nums.length≤LIM) :
    (recN GG (n+30)).ca (sO fN) [.str t] []=some (.tup [.list (nums.map .int),.str plain],[]):=by
  rw [z9g,j3w,q0c v0d]
  obtain ⟨size',e⟩:=j4d (n:=n) h LIM [] [] none ht (by exact Nat.le_of_lt (by assumption)) (by simpa using hp) (by simpa using hn)
  have h1:(recN GG (n+29)).ex cN (LN t [] none) [[]] (sN 1)=some (.next,LN [] plain size',[nums.map .int]):=(j6x k5a).trans e
  rw [q0c h1,q1r v0e]
  have h2:res [nums.map .int] 0 resFuel (.tup [.loc 0,.str plain])=some (.tup [.list (nums.map .int),.str plain]):=by
    have h3:=q2l (f:=res [nums.map .int] 0 4) (g:=D.int) (fun a=>rfl) nums
    show ((res [nums.map .int] 0 5 (.loc 0)).bind fun e=>(resL (res [nums.map .int] 0 5) [.str plain]).map (e::·)).map D.tup=_
    have h4:res [nums.map .int] 0 5 (.loc 0)=some (.list (nums.map .int)):=by
      show ((resL (res [nums.map .int] 0 4) (nums.map .int)).map D.list)=_
      rw [h3];rfl
    rw [h4];rfl
  show ((res [nums.map .int] 0 resFuel (.tup [.loc 0,.str plain])).bind fun d=>_)=_
  rw [h2]
  rfl
set_option maxRecDepth 100000
set_option maxHeartbeats 4000000
section
variable {G:Gl} {R:Rec} {c:Cx} {L L':Loc} {σ σ':Sto} {d:D}
end
theorem z5v {R:Rec} {σ:Sto} {n:Nat} (h:n≤LIM):callD GG R σ (sO "range") [.int n]=some (.rng 0 n,σ):=by
  exact q6a (by kernel_rfl) (by kernel_rfl) (z8t h) rfl
noncomputable abbrev fA:String:="_law_alike"
noncomputable abbrev cA:Cx:=cx fA
noncomputable abbrev sA (i:Nat):Stmt:=sel (bd fA) i
noncomputable def LA (t:List Nat) (ms:List D) (n start k opens mate place kind opening:Option D):Loc:=[(sO "text",some (.str t)),(sO "marks",some (.list ms)),(sO "n",n),(sO "start",start),(sO "k",k),(sO "opens",opens),(sO "mate",mate),(sO "place",place),(sO "kind",kind),(sO "opening",opening)]
noncomputable def markD (x:Nat × Nat × Bool):D:=.tup [.int x.1,.int x.2.1,.bool x.2.2]
section
variable {n:Nat} {t:List Nat} {ms:List D} {vn vs vk vo vm vp vi vg:Option D} {σ:Sto}
theorem z5w:(recN GG (n+50)).ca (sO fA) [.str t,.list ms] []=(exs (recN GG (n+49)) cA (LA t ms none none none none none none none none) [] (bd fA)).bind (caEnd []):=by kernel_rfl
theorem z9h:bd fA=[sA 0,sA 1]:=by kernel_rfl
theorem v4m:(recN GG (n+49)).ex cA (LA t ms vn vs vk vo vm vp vi vg) σ (sA 1)=some (.ret (.bool true),LA t ms vn vs vk vo vm vp vi vg,σ):=by kernel_rfl
theorem j9i:isForSeq GG cA (LA t ms vn vs vk vo vm vp vi vg) (sA 0)=true:=by kernel_rfl
theorem j9j:isCall GG cA "range" (iterOf (sA 0))=true:=by kernel_rfl
theorem j9k:methA (iterOf (sA 0))=[(methA (iterOf (sA 0))).getD 0 noE]:=by kernel_rfl
theorem j9l:isCall GG cA "len" ((methA (iterOf (sA 0))).getD 0 noE)=true:=by kernel_rfl
theorem j9m:evs (recN GG (n+46)) cA (LA t ms vn vs vk vo vm vp vi vg) σ (methA ((methA (iterOf (sA 0))).getD 0 noE))=some ([.list ms],σ):=by kernel_rfl
theorem z9i (h:ms.length≤LIM):(recN GG (n+48)).ev cA (LA t ms vn vs vk vo vm vp vi vg) σ (iterOf (sA 0))=some (.rng 0 ms.length,σ):=by
  rw [q0b]
  refine q0l (f:="range") j9j (by kernel_rfl) ?_ (z5v h)
  rw [j9k]
  refine q0e ?_ q0o
  rw [q0b]
  have:LIM=65536:=rfl
  exact q0l (f:="len") j9l (by kernel_rfl) j9m (q2v (n:=ms.length) rfl (by exact Nat.le_trans (by assumption) (Nat.le_of_ble_eq_true rfl)))
theorem z0h {i:Int}:give cA.sc σ (targetOf (sA 0)) (.int i) (LA t ms vn vs vk vo vm vp vi vg)=some (LA t ms (some (.int i)) vs vk vo vm vp vi vg):=by kernel_rfl
noncomputable abbrev sAb (i:Nat):Stmt:=sel (bodyOf (sA 0)) i
theorem j4e:bodyOf (sA 0)=[sAb 0,sAb 1,sAb 2,sAb 3]:=by kernel_rfl
theorem j9n:isTA (sAb 0)=true:=by kernel_rfl
theorem j4f:isItem (valOf (sAb 0))=true:=by kernel_rfl
theorem j4g:(recN GG (n+46)).ev cA (LA t ms vn vs vk vo vm vp vi vg) σ (itemO (valOf (sAb 0)))=some (.list ms,σ):=by kernel_rfl
theorem j4h {i:Nat}:(recN GG (n+46)).ev cA (LA t ms (some (.int i)) vs vk vo vm vp vi vg) σ (itemI (valOf (sAb 0)))=some (.int i,σ):=by kernel_rfl
theorem j4i {x:Nat × Nat × Bool}:give cA.sc σ (asgT (sAb 0)) (markD x) (LA t ms vn vs vk vo vm vp vi vg)=some (LA t ms vn (some (.int x.1)) (some (.int x.2.1)) (some (.bool x.2.2)) vm vp vi vg):=by kernel_rfl
theorem j9o {i:Nat} {x:Nat × Nat × Bool} (hx:ms[i]?=some (markD x)) (hi:i≤1000000):(recN GG (n+48)).ex cA (LA t ms (some (.int i)) vs vk vo vm vp vi vg) σ (sAb 0)=some (.next,LA t ms (some (.int i)) (some (.int x.1)) (some (.int x.2.1)) (some (.bool x.2.2)) vm vp vi vg,σ):=by
  refine k9d (n:=n+47) (d:=markD x) (σ':=σ) j9n ?_ j4i
  rw [q0b]
  exact q0z j4f j4g j4h (q2h hx hi)
theorem z7l:(recN GG (n+48)).ex cA (LA t ms vn vs vk vo vm vp vi vg) σ (sAb 1)=some (.next,LA t ms vn vs vk vo (some (.int (3:Nat))) vp vi vg,σ):=by kernel_rfl
theorem j9p:isForSeq GG cA (LA t ms vn vs vk vo vm vp vi vg) (sAb 2)=true:=by kernel_rfl
theorem j9q:isCut (iterOf (sAb 2))=true:=by kernel_rfl
theorem j9r:(recN GG (n+46)).ev cA (LA t ms vn vs vk vo vm vp vi vg) σ (itemO (iterOf (sAb 2)))=some (.list ms,σ):=by kernel_rfl
theorem j9s {i:Nat}:evOpt (recN GG (n+46)) cA (LA t ms (some (.int i)) vs vk vo vm vp vi vg) σ (cutLo (iterOf (sAb 2)))=some (some ((i+1:Nat):Int),σ):=by kernel_rfl
theorem j9t:cutHi (iterOf (sAb 2))=none:=by kernel_rfl
theorem k6p {i:Nat} (h:ms.length≤LIM):(recN GG (n+47)).ev cA (LA t ms (some (.int i)) vs vk vo vm vp vi vg) σ (iterOf (sAb 2))=some (.list (ms.drop (i+1)),σ):=by
  rw [q0b]
  exact q5c (lo:=some ((i+1:Nat):Int)) (hi:=none) j9q j9r j9s (by rw [j9t];rfl) (q9x h)
theorem j9u {x:Nat × Nat × Bool}:give cA.sc σ (targetOf (sAb 2)) (markD x) (LA t ms vn vs vk vo vm vp vi vg)=some (LA t ms vn vs vk vo vm (some (.int x.1)) (some (.int x.2.1)) (some (.bool x.2.2))):=by kernel_rfl
noncomputable abbrev sAi:Stmt:=sel (bodyOf (sAb 2)) 0
theorem k6q:bodyOf (sAb 2)=[sAi]:=by kernel_rfl
theorem j9v:isIf sAi=true:=by kernel_rfl
theorem j9w:isAnd (testOf sAi)=true:=by kernel_rfl
noncomputable abbrev eAi (i:Nat):PySem.Expr:=(boolEs (testOf sAi)).getD i noE
theorem j9x:boolEs (testOf sAi)=[eAi 0,eAi 1,eAi 2,eAi 3]:=by kernel_rfl
theorem j9y {o:Bool}:(recN GG (n+44)).ts cA (LA t ms vn vs vk (some (.bool o)) vm vp vi vg) σ (eAi 0)=some (o,σ):=by kernel_rfl
theorem j9z {m:Nat}:(recN GG (n+44)).ts cA (LA t ms vn vs vk vo (some (.int m)) vp vi vg) σ (eAi 1)=some ((m:Int)==3,σ):=by kernel_rfl
theorem k0a {g:Bool}:(recN GG (n+44)).ts cA (LA t ms vn vs vk vo vm vp vi (some (.bool g))) σ (eAi 2)=some (!g,σ):=by kernel_rfl
theorem k0b:isCmp .Is (eAi 3)=true:=by kernel_rfl
theorem j4j:(recN GG (n+43)).ev cA (LA t ms vn vs vk vo vm vp vi vg) σ (cmpR (eAi 3))=some (.bool true,σ):=by kernel_rfl
theorem j4k:isCall GG cA fC (cmpL (eAi 3))=true:=by kernel_rfl
noncomputable abbrev eAs:PySem.Expr:=(methA (cmpL (eAi 3))).getD 0 noE
theorem j4l:methA (cmpL (eAi 3))=[eAs]:=by kernel_rfl
theorem j4m:isCut eAs=true:=by kernel_rfl
theorem j4n:(recN GG (n+41)).ev cA (LA t ms vn vs vk vo vm vp vi vg) σ (itemO eAs)=some (.str t,σ):=by kernel_rfl
theorem j4o {s:Nat}:evOpt (recN GG (n+41)) cA (LA t ms vn (some (.int s)) vk vo vm vp vi vg) σ (cutLo eAs)=some (some (s:Int),σ):=by kernel_rfl
theorem j4p {p:Nat}:evOpt (recN GG (n+41)) cA (LA t ms vn vs vk vo vm (some (.int p)) vi vg) σ (cutHi eAs)=some (some ((p+1:Nat):Int),σ):=by kernel_rfl
theorem k0c {s p m:Nat} {o g:Bool} (ht:t.length+2≤LIM):(recN GG (n+46)).ts cA (LA t ms vn (some (.int s)) vk (some (.bool o)) (some (.int m)) (some (.int p)) vi (some (.bool g))) σ (testOf sAi)=some (o&&(m==3&&(!g&&partB t s p)),σ):=by
  rw [q0u,j1z j9w,j9x]
  have hm:((m:Int)==3)=(m==3):=by
    by_cases h:m=3
    · subst h;rfl
    · have h1:(m==3)=false:=by simpa using h
      have h2:((m:Int)==3)=false:=by
        simp only [beq_eq_false_iff_ne,ne_eq];omega
      rw [h1,h2]
  have h3:(recN GG (n+45)).ts cA (LA t ms vn (some (.int s)) vk (some (.bool o)) (some (.int m)) (some (.int p)) vi (some (.bool g))) σ (eAi 3)=some (partB t s p&&true,σ):=by
    rw [q0u,Bool.and_true]
    refine q1l (a:=.bool (partB t s p)) (b:=.bool true) (σ1:=σ) k0b ?_ (j4j (n:=n+1)) ?_
    · rw [q0b]
      refine q0l (f:=fC) (ds:=[.str ((t.take (p+1)).drop s)]) j4k (by kernel_rfl) ?_ (q0s (f:=fC) (by kernel_rfl) rfl (z7i (n:=n+13) ?_))
      · rw [j4l]
        refine q0e ?_ q0o
        rw [q0b]
        exact q5c j4m (j4n (n:=n+1)) (j4o (n:=n+1)) (j4p (n:=n+1)) (z3u (by omega))
      · rw [List.length_drop,List.length_take];omega
    · show some (partB t s p==true)=_
      cases partB t s p<;>rfl
  have h3':=q0q (es:=[]) h3 fun zz=>q3t
  rw [Bool.and_true,Bool.and_true] at h3'
  refine q0q (j9y (n:=n+1)) fun zz=>?_
  refine q0q (v:=(m==3)) ?_ fun zz=>?_
  · rw [j9z (n:=n+1),hm]
  · exact q0q (k0a (n:=n+1)) fun zz=>h3'
theorem j4q {kd:Nat}:exs (recN GG (n+46)) cA (LA t ms vn vs vk vo vm vp (some (.int kd)) vg) σ (thenOf sAi)=some (.next,LA t ms vn vs vk vo (some (.int kd)) vp (some (.int kd)) vg,σ):=by kernel_rfl
theorem j4r:elseOf sAi=[]:=by kernel_rfl
theorem q8t (ht:t.length+2≤LIM) {s:Nat} {o:Bool}:∀ (xs:List (Nat × Nat × Bool)) (m:Nat) (vp vi vg:Option D),∃ vp' vi' vg',
    forItems (recN GG (n+47)) cA (targetOf (sAb 2)) (bodyOf (sAb 2)) (LA t ms vn (some (.int s)) vk (some (.bool o)) (some (.int m)) vp vi vg) σ (xs.map markD) =
      some (.next,LA t ms vn (some (.int s)) vk (some (.bool o)) (some (.int ((if o then innerS (partB t s) m xs else m:Nat):Int))) vp' vi' vg',σ)
  | [],m,vp,vi,vg=>⟨vp,vi,vg,by induction o using q2i<;>rfl⟩
  | (p,kd,g)::xs,m,vp,vi,vg=>by
    rw [List.map_cons]
    have hb:exs (recN GG (n+47)) cA (LA t ms vn (some (.int s)) vk (some (.bool o)) (some (.int m)) (some (.int p)) (some (.int kd)) (some (.bool g))) σ (bodyOf (sAb 2)) =
        some (.next,LA t ms vn (some (.int s)) vk (some (.bool o)) (some (.int ((if (o&&(m==3&&(!g&&partB t s p))) then kd else m:Nat):Nat))) (some (.int p)) (some (.int kd)) (some (.bool g)),σ):=by
      rw [k6q]
      refine (q0c (L':=LA t ms vn (some (.int s)) vk (some (.bool o)) (some (.int ((if (o&&(m==3&&(!g&&partB t s p))) then kd else m:Nat):Nat))) (some (.int p)) (some (.int kd)) (some (.bool g))) (σ':=σ) ?_).trans q0j
      rw [q0m,q1s j9v (k0c ht)]
      cases (o&&(m==3&&(!g&&partB t s p))) with
      | true=>exact j4q
      | false=>
        rw [if_neg Bool.false_ne_true,j4r]
        exact q0j
    rw [q1i (d:=markD (p,kd,g)) j9u hb]
    apply q0d;intro hZ;rcases q8t ht xs (if (o&&(m==3&&(!g&&partB t s p))) then kd else m) (some (.int p)) (some (.int kd)) (some (.bool g)) with ⟨a,b,c,e⟩;apply hZ
    refine ⟨a,b,c,e.trans ?_⟩
    induction o using q2i with
    | true=>simp only [Bool.true_and,if_true,z1p]
    | false=>simp only [Bool.false_and,Bool.false_eq_true,if_false]
theorem z7m:isIf (sAb 3)=true:=by kernel_rfl
theorem k0d {o:Bool} {m k:Nat}:(recN GG (n+47)).ts cA (LA t ms vn vs (some (.int k)) (some (.bool o)) (some (.int m)) vp vi vg) σ (testOf (sAb 3))=some (o&&!((m:Int)==(k:Int)),σ):=by
  have h0:isAnd (testOf (sAb 3))=true:=by kernel_rfl
  have h1:boolEs (testOf (sAb 3))=[(boolEs (testOf (sAb 3))).getD 0 noE,(boolEs (testOf (sAb 3))).getD 1 noE]:=by kernel_rfl
  have h2:(recN GG (n+46)).ts cA (LA t ms vn vs (some (.int k)) (some (.bool o)) (some (.int m)) vp vi vg) σ ((boolEs (testOf (sAb 3))).getD 0 noE)=some (o,σ):=by kernel_rfl
  have h3:(recN GG (n+46)).ts cA (LA t ms vn vs (some (.int k)) (some (.bool o)) (some (.int m)) vp vi vg) σ ((boolEs (testOf (sAb 3))).getD 1 noE)=some (!((m:Int)==(k:Int)),σ):=by kernel_rfl
  have h3':=q0q (es:=[]) h3 fun zz=>q3t
  rw [Bool.and_true] at h3'
  exact q0q h2 fun zz=>h3'
theorem k0e:exs (recN GG (n+47)) cA (LA t ms vn vs vk vo vm vp vi vg) σ (thenOf (sAb 3))=some (.ret (.bool false),LA t ms vn vs vk vo vm vp vi vg,σ):=by kernel_rfl
theorem k0f:elseOf (sAb 3)=[]:=by kernel_rfl
end
noncomputable def outerS (t:List Nat):List (Nat × Nat × Bool)→Bool
  | []=>true
  | (s,k,o)::xs=>!(o&&!(innerS (partB t s) 3 xs==k))&&outerS t xs
theorem z1s {t s k o xs}:outerS t ((s,k,o)::xs)=(!(o&&!(innerS (partB t s) 3 xs==k))&&outerS t xs):=rfl
theorem q8u {n:Nat} {t:List Nat} (ht:t.length+2≤LIM) {all:List (Nat × Nat × Bool)} (hall:all.length≤1000):∀ (xs:List (Nat × Nat × Bool)) (i:Nat) (vn vs vk vo vm vp vi vg:Option D),all.drop i=xs→i≤all.length→
    ∃ fl L',forItems (recN GG (n+48)) cA (targetOf (sA 0)) (bodyOf (sA 0)) (LA t (all.map markD) vn vs vk vo vm vp vi vg) [] (((List.range all.length).drop i).map fun k:Nat=>D.int (k:Int))=some (fl,L',[])∧
      (outerS t xs=true→fl=.next∧∃ vn vs vk vo vm vp vi vg,L'=LA t (all.map markD) vn vs vk vo vm vp vi vg)∧(outerS t xs=false→fl=.ret (.bool false))
  | [],i,vn,vs,vk,vo,vm,vp,vi,vg,hd,hi=>by
    have:all.length≤i:=List.drop_eq_nil_iff.mp hd
    have:(List.range all.length).drop i=[]:=List.drop_eq_nil_iff.mpr (by simpa using this)
    rw [this]
    exact ⟨.next,_,rfl,fun zz=>⟨rfl,_,_,_,_,_,_,_,_,rfl⟩,fun h=>by exact Mine.tf h⟩
  | (s,k,o)::xs,i,vn,vs,vk,vo,vm,vp,vi,vg,hd,hi=>by
    have hlt:i<all.length:=by
      rcases Nat.lt_or_ge i all.length with h | h
      · exact h
      · rw [List.drop_eq_nil_iff.mpr h] at hd;exact Mine.nl hd
    have hL:LIM=65536:=rfl
    have hc:=List.drop_eq_getElem_cons hlt
    rw [hd] at hc
    injection hc with hc1 hc2
    have hget:(all.map markD)[i]?=some (markD (s,k,o)):=by
      rw [List.getElem?_map,List.getElem?_eq_getElem hlt,hc1];rfl
    have hr:(List.range all.length).drop i=i::(List.range all.length).drop (i+1):=by
      rw [List.drop_eq_getElem_cons (by simpa using hlt)]
      simp
    rw [hr,List.map_cons]
    have hml:(all.map markD).length≤LIM:=by rw [List.length_map];exact Nat.le_trans (by assumption) (Nat.le_of_ble_eq_true rfl)
    have h2:∃ vp' vi' vg',(recN GG (n+48)).ex cA (LA t (all.map markD) (some (.int i)) (some (.int s)) (some (.int k)) (some (.bool o)) (some (.int (3:Nat))) vp vi vg) [] (sAb 2) =
        some (.next,LA t (all.map markD) (some (.int i)) (some (.int s)) (some (.int k)) (some (.bool o)) (some (.int ((if o then innerS (partB t s) 3 xs else 3:Nat):Nat))) vp' vi' vg',[]):=by
      refine k0t (q8t (n:=n) (ms:=all.map markD) (vn:=some (.int i)) (vk:=some (.int k)) (σ:=[]) ht (s:=s) (o:=o) xs 3 vp vi vg) ?_;intro a b c e
      refine ⟨a,b,c,?_⟩
      have hdrop:(all.map markD).drop (i+1)=xs.map markD:=by rw [← List.map_drop,← hc2]
      have hf:=q8f (n:=n+47) (G:=GG) (c:=cA) (st:=sAb 2) (L:=LA t (all.map markD) (some (.int i)) (some (.int s)) (some (.int k)) (some (.bool o)) (some (.int (3:Nat))) vp vi vg) (σ:=[]) (σ':=[]) j9p (k6p hml) rfl (by rw [List.length_drop];omega)
      rw [hf,hdrop]
      exact e
    refine k0t h2 ?_;clear h2;intro vp' vi' vg' h2
    have h3t:=k0d (n:=n) (t:=t) (ms:=all.map markD) (vn:=some (.int i)) (vs:=some (.int s)) (o:=o) (m:=if o then innerS (partB t s) 3 xs else 3) (k:=k) (vp:=vp') (vi:=vi') (vg:=vg') (σ:=[])
    have hb:(o&&!(((if o then innerS (partB t s) 3 xs else 3:Nat):Int)==(k:Int)))=(o&&!(innerS (partB t s) 3 xs==k)):=by
      induction o using q2i with
      | false=>rfl
      | true=>
        simp only [Bool.true_and,if_true]
        congr 1
        by_cases h:innerS (partB t s) 3 xs=k
        · rw [h];simp
        · have h1:(innerS (partB t s) 3 xs==k)=false:=by simpa using h
          rw [h1]
          simp only [beq_eq_false_iff_ne,ne_eq]
          omega
    rw [hb] at h3t
    have hs0:=j9o (n:=n) (t:=t) (ms:=all.map markD) (vs:=vs) (vk:=vk) (vo:=vo) (vm:=vm) (vp:=vp) (vi:=vi) (vg:=vg) (σ:=[]) (i:=i) (x:=(s,k,o)) hget (by omega)
    induction hv:(o&&!(innerS (partB t s) 3 xs==k)) using q2i with
    | true=>
      rw [hv] at h3t
      have hbody:exs (recN GG (n+48)) cA (LA t (all.map markD) (some (.int i)) vs vk vo vm vp vi vg) [] (bodyOf (sA 0))=some (.ret (.bool false),LA t (all.map markD) (some (.int i)) (some (.int s)) (some (.int k)) (some (.bool o)) (some (.int ((if o then innerS (partB t s) 3 xs else 3:Nat):Nat))) vp' vi' vg',[]):=by
        rw [j4e,q0c hs0,q0c z7l,q0c h2]
        refine q1r ?_
        rw [q0m,q1s z7m h3t]
        exact k0e
      rw [z5d z0h hbody]
      refine ⟨_,_,rfl,fun h=>?_,fun zz=>rfl⟩
      simp [z1s,hv] at h
    | false=>
      rw [hv] at h3t
      have hbody:exs (recN GG (n+48)) cA (LA t (all.map markD) (some (.int i)) vs vk vo vm vp vi vg) [] (bodyOf (sA 0))=some (.next,LA t (all.map markD) (some (.int i)) (some (.int s)) (some (.int k)) (some (.bool o)) (some (.int ((if o then innerS (partB t s) 3 xs else 3:Nat):Nat))) vp' vi' vg',[]):=by
        rw [j4e,q0c hs0,q0c z7l,q0c h2]
        refine (q0c ?_).trans q0j
        rw [q0m,q1s z7m h3t,k0f]
        exact q0j
      rw [q1i z0h hbody]
      apply q0d;intro hZ;rcases q8u ht hall xs (i+1) (some (.int i)) (some (.int s)) (some (.int k)) (some (.bool o)) (some (.int ((if o then innerS (partB t s) 3 xs else 3:Nat):Nat))) vp' vi' vg' hc2.symm (by assumption) with ⟨fl,L',e,e1,e2⟩;apply hZ
      have ho:outerS t ((s,k,o)::xs)=outerS t xs:=by simp only [z1s,hv,Bool.not_false,Bool.true_and]
      rw [ho]
      exact ⟨fl,L',e,e1,e2⟩
theorem j4s {n:Nat} {t:List Nat} (ht:t.length+2≤LIM) {all:List (Nat × Nat × Bool)} (hall:all.length≤1000):(recN GG (n+50)).ca (sO fA) [.str t,.list (all.map markD)] []=some (.bool (outerS t all),[]):=by
  have hL:LIM=65536:=rfl
  have hml:(all.map markD).length≤LIM:=by rw [List.length_map];exact Nat.le_trans (by assumption) (Nat.le_of_ble_eq_true rfl)
  rw [z5w,z9h]
  refine q1g (q8u (n:=n) ht hall all 0 none none none none none none none none (List.drop_zero) (Nat.zero_le _)) ?_;intro fl L' e e1 e2
  rw [List.drop_zero] at e
  have hseq:=j2a hml
  rw [List.length_map] at hseq
  have hf:=q8f (n:=n+48) (G:=GG) (c:=cA) (st:=sA 0) (L:=LA t (all.map markD) none none none none none none none none) (σ:=[]) (σ':=[]) (d:=.rng 0 all.length) (items:=(List.range all.length).map fun k:Nat=>D.int (k:Int)) j9i (by rw [z9i hml,List.length_map]) hseq (by simp;exact Nat.le_trans (by assumption) (Nat.le_of_ble_eq_true rfl))
  rw [e] at hf
  induction ho:outerS t all using q2i with
  | true=>
    apply q0d;intro hG;rcases e1 ho with ⟨rfl,vn,vs,vk,vo,vm,vp,vi,vg,rfl⟩;apply hG;clear hG
    rw [q0c hf]
    rfl
  | false=>
    have:=e2 ho
    subst this
    rw [q1r hf]
    rfl
theorem q8v:∀ (r:List q0h) (pre:List Nat),(∀ p∈r,pieceOk p)→outerS (pre++textOf r) (marksOf pre.length r)=alikeS r
  | [],pre,_=>rfl
  | p::r,pre,ok=>by
    have okp:=ok p List.mem_cons_self
    have okr:∀ q∈r,pieceOk q:=fun q hq=>ok q (List.mem_cons_of_mem _ hq)
    have ih:=q8v r (pre++p.sign) okr
    have htext:pre++textOf (p::r)=(pre++p.sign)++textOf r:=by rw [q5i];simp
    rw [← htext,List.length_append] at ih
    by_cases hk:p.k<3
    · simp only [q2s,hk,if_true,List.cons_append,List.nil_append,z1s,ih,q5h,true_and]
      by_cases hh:p.head>0
      · have hd:decide (p.head>0)=true:=decide_eq_true hh
        have hrun:runH [p] 0=some ((1:Nat):Int):=by
          show (turnH p 0).bind (runH [])=_
          unfold turnH
          rw [if_pos hk,if_pos hh];rfl
        have:=z0a r [p] pre 1 okr (fun q hq=>by rw [List.mem_singleton.mp hq];exact okp) hrun (Nat.le_refl _)
        have e1:textOf [p]=p.sign:=by simp [textOf]
        rw [e1] at this
        rw [← htext] at this
        rw [this,hd]
        simp only [hh,if_true,Bool.true_and,Bool.not_not]
      · have hd:decide (p.head>0)=false:=decide_eq_false hh
        simp only [hd,hh,if_false,decide_false,and_false,Bool.false_and,Bool.not_false,Bool.true_and]
    · have:¬ (p.k<3∧p.head>0):=fun h=>hk h.1
      simp only [q2s,hk,if_false,List.nil_append,ih,q5h,false_and,Bool.true_and]
theorem k0g {n:Nat} {row:List q0h} (ok:∀ p∈row,pieceOk p) (ht:(textOf row).length+2≤LIM) (hr:row.length≤1000):(recN GG (n+50)).ca (sO fA) [.str (textOf row),.list ((marksOf 0 row).map markD)] []=some (.bool (alikeS row),[]):=by
  have:=q8v row [] ok
  rw [List.nil_append,List.length_nil] at this
  rw [j4s ht (by have:=z3r row 0;exact Nat.le_trans (by assumption) (by assumption)),this]
set_option maxRecDepth 100000
set_option maxHeartbeats 4000000
theorem z7n {n:Nat} {x:Int}:(recN GG (n+5)).ca (sO "ISEOF") [.int x] []=some (.bool (x==0),[]):=by kernel_rfl
theorem q5r {n:Nat} {x:Int}:(recN GG (n+5)).ca (sO "ISTERMINAL") [.int x] []=some (.bool (decide (x<256)),[]):=by kernel_rfl
theorem q3j {n:Nat} {x:Int}:(recN GG (n+5)).ca (sO "ISNONTERMINAL") [.int x] []=some (.bool (decide (256≤x)),[]):=by kernel_rfl
section
variable {G:Gl} {R:Rec} {c:Cx} {L L':Loc} {σ σ':Sto} {d:D}
end
section
variable {n:Nat} {c:Cx} {L:Loc} {σ:Sto} {e:PySem.Expr} {x:Int}
theorem j4t (hs:isCall GG c "ISEOF" e=true) (hL:Loc.find (Str.ofString "ISEOF") L=none) (ha:evs (recN GG (n+5)) c L σ (methA e)=some ([.int x],σ)):(recN GG (n+7)).ts c L σ e=some (x==0,σ):=by
  refine z5i hs ?_
  exact q0l hs hL ha (q0s (f:="ISEOF") (by kernel_rfl) rfl z7n)
theorem j4u (hs:isCall GG c "ISTERMINAL" e=true) (hL:Loc.find (Str.ofString "ISTERMINAL") L=none) (ha:evs (recN GG (n+5)) c L σ (methA e)=some ([.int x],σ)):(recN GG (n+7)).ts c L σ e=some (decide (x<256),σ):=by
  refine z5i hs ?_
  exact q0l hs hL ha (q0s (f:="ISTERMINAL") (by kernel_rfl) rfl q5r)
theorem k6r (hs:isCall GG c "ISNONTERMINAL" e=true) (hL:Loc.find (Str.ofString "ISNONTERMINAL") L=none) (ha:evs (recN GG (n+5)) c L σ (methA e)=some ([.int x],σ)):(recN GG (n+7)).ts c L σ e=some (decide (256≤x),σ):=by
  refine z5i hs ?_
  exact q0l hs hL ha (q0s (f:="ISNONTERMINAL") (by kernel_rfl) rfl q3j)
end
noncomputable abbrev fD':String:="_law_derive"
noncomputable abbrev cD':Cx:=cx fD'
noncomputable abbrev sD' (i:Nat):Stmt:=sel (bd fD') i
noncomputable def LD (row rules:D) (j:Nat) (word:List Nat) (head due k sign told top:Option D):Loc:=[(sO "row",some row),(sO "rules",some rules),(sO "pile",some (.loc j)),(sO "word",some (.str word)),(sO "head",head),(sO "due",due),(sO "k",k),(sO "sign",sign),(sO "told",told),(sO "top",top)]
section
variable {n:Nat} {row rules:D} {j:Nat} {word:List Nat} {head due k sign told top:Option D} {σ:Sto} {r0 r1 r2:q3d}
theorem j4v {l:List D}:(recN GG (n+40)).ca (sO fD') [.list l,rulesD [r0,r1,r2]] []=(exs (recN GG (n+39)) cD' [(sO "row",some (.list l)),(sO "rules",some (rulesD [r0,r1,r2])),(sO "pile",none),(sO "word",none),(sO "head",none),(sO "due",none),(sO "k",none),(sO "sign",none),(sO "told",none),(sO "top",none)] [] (bd fD')).bind (caEnd []):=by
  have hl:locFree resFuel (.list l)=true∨True:=Or.inr trivial
  kernel_rfl
theorem k0h:bd fD'=[sD' 0,sD' 1,sD' 2]:=by kernel_rfl
theorem v4n:(recN GG (n+39)).ex cD' [(sO "row",some row),(sO "rules",some rules),(sO "pile",none),(sO "word",none),(sO "head",none),(sO "due",none),(sO "k",none),(sO "sign",none),(sO "told",none),(sO "top",none)] [] (sD' 0) =
    some (.next,LD row rules 0 [] none none none none none none,[([256,0]:List Int).reverse.map .int]):=by kernel_rfl
theorem v0f:isForSeq GG cD' (LD row rules j word head due k sign told top) (sD' 1)=true:=by kernel_rfl
theorem v0g:(recN GG (n+38)).ev cD' (LD row rules j word head due k sign told top) σ (iterOf (sD' 1))=some (row,σ):=by kernel_rfl
theorem q7a {p:q0h}:give cD'.sc σ (targetOf (sD' 1)) (pieceD p) (LD row rules j word head due k sign told top)=some (LD row rules j word (some (.int p.head)) (some (.int p.due)) (some (.int p.k)) (some (.str p.sign)) (some (.list (p.told.map .int))) top):=by kernel_rfl
noncomputable abbrev sDb (i:Nat):Stmt:=sel (bodyOf (sD' 1)) i
theorem k0i:bodyOf (sD' 1)=[sDb 0,sDb 1,sDb 2]:=by kernel_rfl
theorem k6s:isAsg "top" (sDb 0)=true:=by kernel_rfl
theorem k6t:isMeth "pop" (valOf (sDb 0))=true:=by kernel_rfl
theorem k6u:(recN GG (n+36)).ev cD' (LD row rules j word head due k sign told top) σ (methO (valOf (sDb 0)))=some (.loc j,σ):=by kernel_rfl
theorem v4o:methA (valOf (sDb 0))=[]:=by kernel_rfl
theorem k6v {x:Int} {l:List D} (hl:σ[j]?=some (l++[.int x])) (hn:l.length<1000):(recN GG (n+38)).ex cD' (LD row rules j word head due k sign told top) σ (sDb 0)=some (.next,LD row rules j word head due k sign told (some (.int x)),σ.set j l):=by
  refine q0p (n:=n+37) (x:="top") (d:=.int x) k6s (by kernel_rfl) (by kernel_rfl) ?_
  rw [q0b]
  have hL:LIM=65536:=rfl
  have ht:=z3g (σ:=σ) hl (d:=.int x) (by simp) (by simp;exact Nat.le_trans (by assumption) (Nat.le_of_ble_eq_true rfl))
  rw [List.dropLast_concat] at ht
  exact z1b (ds:=[]) (σ1:=σ) (σ2:=σ) k6t rfl k6u (by rfl) j1q ht
theorem j4w:isIf (sDb 1)=true:=by kernel_rfl
noncomputable abbrev eDt:PySem.Expr:=testOf (sDb 1)
noncomputable abbrev eDi (i:Nat):PySem.Expr:=(boolEs eDt).getD i noE
theorem v0h:isOr eDt=true:=by kernel_rfl
theorem v0i:boolEs eDt=[eDi 0,eDi 1,eDi 2]:=by kernel_rfl
theorem v0j:isCall GG cD' "ISEOF" (eDi 0)=true:=by kernel_rfl
theorem k6w {x:Int}:evs (recN GG (n+34)) cD' (LD row rules j word head due k sign told (some (.int x))) σ (methA (eDi 0))=some ([.int x],σ):=by kernel_rfl
theorem v6x:isAnd (eDi 1)=true:=by kernel_rfl
noncomputable abbrev eDj (i:Nat):PySem.Expr:=(boolEs (eDi 1)).getD i noE
theorem v6y:boolEs (eDi 1)=[eDj 0,eDj 1]:=by kernel_rfl
theorem v0k:isCall GG cD' "ISTERMINAL" (eDj 0)=true:=by kernel_rfl
theorem k6x {x:Int}:evs (recN GG (n+33)) cD' (LD row rules j word head due k sign told (some (.int x))) σ (methA (eDj 0))=some ([.int x],σ):=by kernel_rfl
theorem v6z:isOr (eDj 1)=true:=by kernel_rfl
noncomputable abbrev eDk (i:Nat):PySem.Expr:=(boolEs (eDj 1)).getD i noE
theorem v7a:boolEs (eDj 1)=[eDk 0,eDk 1]:=by kernel_rfl
theorem v0l {h:Int}:(recN GG (n+34)).ts cD' (LD row rules j word (some (.int h)) due k sign told top) σ (eDk 0)=some (!(h==0),σ):=by kernel_rfl
theorem v0m {k:Nat} {x:Int} (hk:k<3):(recN GG (n+34)).ts cD' (LD row (rulesD [r0,r1,r2]) j word head due (some (.int k)) sign told (some (.int x))) σ (eDk 1)=some (!((ruleAt [r0,r1,r2] k).num==x),σ):=by
  match k,hk with
  | 0,_=>kernel_rfl
  | 1,_=>kernel_rfl
  | 2,_=>kernel_rfl
theorem v7b:isAnd (eDi 2)=true:=by kernel_rfl
noncomputable abbrev eDl (i:Nat):PySem.Expr:=(boolEs (eDi 2)).getD i noE
theorem v7c:boolEs (eDi 2)=[eDl 0,eDl 1]:=by kernel_rfl
theorem v0n:isCall GG cD' "ISNONTERMINAL" (eDl 0)=true:=by kernel_rfl
theorem k6y {x:Int}:evs (recN GG (n+33)) cD' (LD row rules j word head due k sign told (some (.int x))) σ (methA (eDl 0))=some ([.int x],σ):=by kernel_rfl
theorem v0o {h x:Int}:(recN GG (n+35)).ts cD' (LD row rules j word (some (.int h)) due k sign told (some (.int x))) σ (eDl 1)=some (!(h==x),σ):=by kernel_rfl
noncomputable def refuse (rules:List q3d) (top:Int) (p:q0h):Bool:=(top==0)||((decide (top<256)&&(!(p.head==0)||!((ruleAt rules p.k).num==top)))||(decide (256≤top)&&!(p.head==top)))
theorem k0j {p:q0h} {x:Int} (hp:p.k<3∨p.head≠0):(recN GG (n+37)).ts cD' (LD row (rulesD [r0,r1,r2]) j word (some (.int p.head)) due (some (.int p.k)) sign told (some (.int x))) σ (testOf (sDb 1))=some (refuse [r0,r1,r2] x p,σ):=by
  rw [q0u,j2b v0h,v0i]
  refine q2a (j4t (n:=n+29) v0j (by kernel_rfl) k6w) fun zz=>?_
  have h1:(recN GG (n+36)).ts cD' (LD row (rulesD [r0,r1,r2]) j word (some (.int p.head)) due (some (.int p.k)) sign told (some (.int x))) σ (eDi 1)=some (decide (x<256)&&(!(p.head==0)||!((ruleAt [r0,r1,r2] p.k).num==x)),σ):=by
    refine q0q (j4u (n:=n+28) v0k (by kernel_rfl) k6x) fun zz=>?_
    have h2:(recN GG (n+35)).ts cD' (LD row (rulesD [r0,r1,r2]) j word (some (.int p.head)) due (some (.int p.k)) sign told (some (.int x))) σ (eDj 1)=some (!(p.head==0)||!((ruleAt [r0,r1,r2] p.k).num==x),σ):=by
      refine q2a v0l fun hh=>?_
      have h0:p.head=0:=by simpa using hh
      have hk:p.k<3:=hp.resolve_right fun h=>h h0
      have:=q2a (es:=[]) (v0m (n:=n) (r0:=r0) (r1:=r1) (r2:=r2) (row:=row) (j:=j) (word:=word) (head:=some (.int p.head)) (due:=due) (sign:=sign) (told:=told) (σ:=σ) (x:=x) hk) fun zz=>q9y
      rw [Bool.or_false] at this
      exact this
    have:=q0q (es:=[]) h2 fun zz=>q3t
    rw [Bool.and_true] at this
    exact this
  refine q2a h1 fun zz=>?_
  have h3:(recN GG (n+36)).ts cD' (LD row (rulesD [r0,r1,r2]) j word (some (.int p.head)) due (some (.int p.k)) sign told (some (.int x))) σ (eDi 2)=some (decide (256≤x)&&!(p.head==x),σ):=by
    refine q0q (k6r (n:=n+28) v0n (by kernel_rfl) k6y) fun zz=>?_
    have:=q0q (es:=[]) (v0o (n:=n) (row:=row) (rules:=rulesD [r0,r1,r2]) (j:=j) (word:=word) (due:=due) (k:=some (.int p.k)) (sign:=sign) (told:=told) (σ:=σ) (h:=p.head) (x:=x)) fun zz=>q3t
    rw [Bool.and_true] at this
    exact this
  have:=q2a (es:=[]) h3 fun zz=>q9y
  rw [Bool.or_false] at this
  exact this
theorem v0p:exs (recN GG (n+37)) cD' (LD row rules j word head due k sign told top) σ (thenOf (sDb 1))=some (.ret .none,LD row rules j word head due k sign told top,σ):=by kernel_rfl
theorem v7d:elseOf (sDb 1)=[]:=by kernel_rfl
theorem j4x:isIf (sDb 2)=true:=by kernel_rfl
theorem k1o {k:Nat}:(recN GG (n+37)).ts cD' (LD row rules j word head due (some (.int k)) sign told top) σ (testOf (sDb 2))=some ((k:Int)==3,σ):=by kernel_rfl
noncomputable abbrev sDw:Stmt:=sel (thenOf (sDb 2)) 0
theorem v0q:thenOf (sDb 2)=[sDw]:=by kernel_rfl
theorem v0r:isAsg "word" sDw=true:=by kernel_rfl
theorem v0s:isBin .Add (valOf sDw)=true:=by kernel_rfl
theorem v0t:(recN GG (n+35)).ev cD' (LD row rules j word head due k sign told top) σ (binL (valOf sDw))=some (.str word,σ):=by kernel_rfl
noncomputable abbrev eDw:PySem.Expr:=binR (valOf sDw)
theorem v0u:isMeth "join" eDw=true:=by kernel_rfl
theorem v0v:(recN GG (n+34)).ev cD' (LD row rules j word head due k sign told top) σ (methO eDw)=some (.str [],σ):=by kernel_rfl
noncomputable abbrev eDc:PySem.Expr:=(methA eDw).getD 0 noE
theorem v0w:methA eDw=[eDc]:=by kernel_rfl
theorem v0x:isComp cD' (LD row rules j word head due k sign told top) eDc=true:=by kernel_rfl
theorem v0y {l:D}:(recN GG (n+33)).ev (cxI cD') (LD row rules j word head due k sign (some l) top) σ (compG eDc).iter=some (l,σ):=by kernel_rfl
theorem v0z {x:Int}:give (cxC cD' eDc).sc σ (compG eDc).target (.int x) (Loc.keep (compSc eDc) (LD row rules j word head due k sign told top))=some [(sO "n",some (.int x))]:=by kernel_rfl
noncomputable abbrev eDf:PySem.Expr:=((compG eDc).ifs).getD 0 noE
theorem v1a:(compG eDc).ifs=[eDf]:=by kernel_rfl
theorem v4p:isAnd eDf=true:=by kernel_rfl
noncomputable abbrev eDfi (i:Nat):PySem.Expr:=(boolEs eDf).getD i noE
theorem v4q:boolEs eDf=[eDfi 0,eDfi 1]:=by kernel_rfl
theorem k6z:isCall GG (cxC cD' eDc) "ISTERMINAL" (eDfi 0)=true:=by kernel_rfl
theorem k7a {x:Int}:evs (recN GG (n+30)) (cxC cD' eDc) [(sO "n",some (.int x))] σ (methA (eDfi 0))=some ([.int x],σ):=by kernel_rfl
theorem k7b:isNot (eDfi 1)=true:=by kernel_rfl
theorem k7c:isCall GG (cxC cD' eDc) "ISEOF" (notE (eDfi 1))=true:=by kernel_rfl
theorem k7d {x:Int}:evs (recN GG (n+29)) (cxC cD' eDc) [(sO "n",some (.int x))] σ (methA (notE (eDfi 1)))=some ([.int x],σ):=by kernel_rfl
theorem k7e:isCall GG (cxC cD' eDc) "chr" (compE eDc)=true:=by kernel_rfl
theorem k7f {x:Int}:evs (recN GG (n+31)) (cxC cD' eDc) [(sO "n",some (.int x))] σ (methA (compE eDc))=some ([.int x],σ):=by kernel_rfl
theorem q8w:∀ (l:List Int),(l.map fun x:Int=>[x.toNat]).flatten=l.map Int.toNat
  | []=>rfl
  | a::l=>by rw [List.map_cons,List.flatten_cons,q8w l];rfl
theorem k0k {tl:List Int} (ht:∀ i∈tl,0≤i∧i<256) (hl:tl.length≤1000):(recN GG (n+34)).ev cD' (LD row rules j word head due k sign (some (.list (tl.map .int))) top) σ eDc=some (.list (((tl.filter (0<·)).map fun x:Int=>[x.toNat]).map .str),σ):=by
  have hL:LIM=65536:=rfl
  have hfl:(tl.filter (0<·)).length≤tl.length:=List.length_filter_le _ _
  rw [q0b]
  refine q4k (items:=tl.map D.int) v0x v0y rfl (by rw [List.length_map];exact Nat.le_trans (by assumption) (Nat.le_of_ble_eq_true rfl)) ?_ (by rw [List.length_map,List.length_map];omega)
  have hf:tl.filter (0<·)=tl.filter fun x:Int=>decide (x<256)&&!(x==0):=by
    refine List.filter_congr fun x hx=>?_
    obtain ⟨h1,h2⟩:=ht x hx
    have e1:decide (x<256)=true:=decide_eq_true h2
    rw [e1]
    by_cases h0:x=0
    · apply q0g h0;rfl
    · have e2:(x==0)=false:=by simpa using h0
      rw [e2]
      exact decide_eq_true (by omega)
  rw [hf,List.map_map]
  refine q6m (P:=fun x:Int=>decide (x<256)&&!(x==0)) (f:=fun x:Int=>D.str [x.toNat]) _ fun x hx=>⟨[(sO "n",some (.int x))],v0z,?_,fun zz=>?_⟩
  · rw [v1a]
    refine z1h (σ':=σ) ?_
    refine q0q (j4u (n:=n+25) k6z (by kernel_rfl) k7a) fun zz=>?_
    have h1:(recN GG (n+32)).ts (cxC cD' eDc) [(sO "n",some (.int x))] σ (eDfi 1)=some (!(x==0),σ):=by
      rw [q0u]
      exact k9e k7b (j4t (n:=n+24) k7c (by kernel_rfl) k7d)
    have:=q0q (es:=[]) h1 fun zz=>q3t
    rw [Bool.and_true] at this
    exact this
  · refine q8g (σ':=σ) ?_
    obtain ⟨h1,h2⟩:=ht x hx
    rw [q0b]
    exact q0l (f:="chr") k7e (by kernel_rfl) k7f (z1q h1 (by omega))
theorem k0l {tl:List Int} (ht:∀ i∈tl,0≤i∧i<256) (hl:tl.length≤1000) (hw:word.length+((tl.filter (0<·)).map Int.toNat).length≤LIM) :
    exs (recN GG (n+37)) cD' (LD row rules j word head due k sign (some (.list (tl.map .int))) top) σ (thenOf (sDb 2))=some (.next,LD row rules j (word++(tl.filter (0<·)).map Int.toNat) head due k sign (some (.list (tl.map .int))) top,σ):=by
  have hL:LIM=65536:=rfl
  have hfl:(tl.filter (0<·)).length≤tl.length:=List.length_filter_le _ _
  rw [v0q]
  refine (q0c (L':=LD row rules j (word++(tl.filter (0<·)).map Int.toNat) head due k sign (some (.list (tl.map .int))) top) (σ':=σ) ?_).trans q0j
  refine q0p (n:=n+36) (x:="word") (d:=.str (word++(tl.filter (0<·)).map Int.toNat)) v0r (by kernel_rfl) (by kernel_rfl) ?_
  rw [q0b]
  refine q0r (a:=.str word) (b:=.str ((tl.filter (0<·)).map Int.toNat)) (σ1:=σ) v0s rfl v0t ?_ (q1n hw)
  rw [← q8w]
  refine q8e (G:=GG) (σ1:=σ) v0u v0v (ds:=[.list (((tl.filter (0<·)).map fun x:Int=>[x.toNat]).map .str)]) ?_ (z3f ?_ ?_)
  · rw [v0w]
    exact q0e (k0k ht hl) q0o
  · rw [q8w];omega
  · rw [List.length_map];omega
noncomputable abbrev sDe:Stmt:=sel (elseOf (sDb 2)) 0
theorem k1p:elseOf (sDb 2)=[sDe]:=by kernel_rfl
theorem k1q:isIf sDe=true:=by kernel_rfl
theorem v1b {h:Int}:(recN GG (n+36)).ts cD' (LD row rules j word (some (.int h)) due k sign told top) σ (testOf sDe)=some (decide (0<h),σ):=by kernel_rfl
theorem v7e:elseOf sDe=[]:=by kernel_rfl
noncomputable abbrev sDp:Stmt:=sel (thenOf sDe) 0
theorem v7f:thenOf sDe=[sDp]:=by kernel_rfl
noncomputable def isAsgF (x:String) (st:Stmt):Bool:=isAsg x st&&isFresh (valOf st)
theorem k0m {c:Cx} {L:Loc} {σ σ':Sto} {st:Stmt} {l:List D} {x:String} (hs:isAsgF x st=true) (hm:c.muts.contains (Str.ofString x)=true) (ho:ownName c.sc (Str.ofString x)=true) (he:(recN GG n).ev c L σ (valOf st)=some (.list l,σ')) :
    (recN GG (n+1)).ex c L σ st=some (.next,Loc.put (Str.ofString x) (.loc σ'.length) L,σ'++[l]):=by
  refine (congrArg (exStep GG (recN GG n) c L σ) (k1h (an hs).1)).trans (bs he ?_)
  rw [z3m hm (an hs).2]
  exact ms (it ho rfl)
theorem v1c:isAsgF "pile" sDp=true:=by kernel_rfl
theorem v1d:isBin .Add (valOf sDp)=true:=by kernel_rfl
theorem v1e:(recN GG (n+34)).ev cD' (LD row rules j word head due k sign told top) σ (binL (valOf sDp))=some (.loc j,σ):=by kernel_rfl
theorem v1f {k:Nat} (hk:k<3):(recN GG (n+34)).ev cD' (LD row (rulesD [r0,r1,r2]) j word head due (some (.int k)) sign told top) σ (binR (valOf sDp))=some (.list [.int (ruleAt [r0,r1,r2] k).r,.int (ruleAt [r0,r1,r2] k).num,.int (ruleAt [r0,r1,r2] k).l],σ):=by
  match k,hk with
  | 0,_=>kernel_rfl
  | 1,_=>kernel_rfl
  | 2,_=>kernel_rfl
theorem k0n {k:Nat} (hk:k<3) {l:List D} (hl:σ[j]?=some l) (hn:l.length<1000):exs (recN GG (n+36)) cD' (LD row (rulesD [r0,r1,r2]) j word head due (some (.int k)) sign told top) σ (thenOf sDe) =
    some (.next,LD row (rulesD [r0,r1,r2]) σ.length word head due (some (.int k)) sign told top,σ++[l++[.int (ruleAt [r0,r1,r2] k).r,.int (ruleAt [r0,r1,r2] k).num,.int (ruleAt [r0,r1,r2] k).l]]):=by
  have hL:LIM=65536:=rfl
  refine (q0c (k0m (n:=n+35) (x:="pile") (σ':=σ) (l:=l++[.int (ruleAt [r0,r1,r2] k).r,.int (ruleAt [r0,r1,r2] k).num,.int (ruleAt [r0,r1,r2] k).l]) v1c (by kernel_rfl) (by kernel_rfl) ?_)).trans q0j
  rw [q0b]
  refine q0r (σ1:=σ) v1d rfl v1e (v1f hk) ?_
  have:l.length+[D.int (ruleAt [r0,r1,r2] k).r,.int (ruleAt [r0,r1,r2] k).num,.int (ruleAt [r0,r1,r2] k).l].length≤LIM:=by
    dsimp only [List.length_cons,List.length_nil];omega
  exact z6y hl this
noncomputable abbrev eDr:PySem.Expr:=retE (sD' 2)
theorem v1g:isRet (sD' 2)=true:=by kernel_rfl
theorem v1h:isIte eDr=true:=by kernel_rfl
theorem v1i:(recN GG (n+37)).ev cD' (LD row rules j word head due k sign told top) σ (iteA eDr)=some (.str word,σ):=by kernel_rfl
theorem v1j:(recN GG (n+37)).ev cD' (LD row rules j word head due k sign told top) σ (iteB eDr)=some (.none,σ):=by kernel_rfl
theorem v7g:isAnd (iteT eDr)=true:=by kernel_rfl
noncomputable abbrev eDq (i:Nat):PySem.Expr:=(boolEs (iteT eDr)).getD i noE
theorem v7h:boolEs (iteT eDr)=[eDq 0,eDq 1]:=by kernel_rfl
theorem v1k:isCmp .Eq (eDq 0)=true:=by kernel_rfl
theorem v1l:isCall GG cD' "len" (cmpL (eDq 0))=true:=by kernel_rfl
theorem v1m:evs (recN GG (n+34)) cD' (LD row rules j word head due k sign told top) σ (methA (cmpL (eDq 0)))=some ([.loc j],σ):=by kernel_rfl
theorem v1n:(recN GG (n+35)).ev cD' (LD row rules j word head due k sign told top) σ (cmpR (eDq 0))=some (.int 1,σ):=by kernel_rfl
theorem k7g:isCall GG cD' "ISEOF" (eDq 1)=true:=by kernel_rfl
noncomputable abbrev eDz:PySem.Expr:=(methA (eDq 1)).getD 0 noE
theorem v4r:methA (eDq 1)=[eDz]:=by kernel_rfl
theorem k7h:isItem eDz=true:=by kernel_rfl
theorem k7i:(recN GG (n+33)).ev cD' (LD row rules j word head due k sign told top) σ (itemO eDz)=some (.loc j,σ):=by kernel_rfl
theorem k7j:(recN GG (n+33)).ev cD' (LD row rules j word head due k sign told top) σ (itemI eDz)=some (.int (0:Nat),σ):=by kernel_rfl
theorem k7k {pl:List Int} (hl:σ[j]?=some (pl.reverse.map .int)) (hn:pl.length<1000):(recN GG (n+39)).ex cD' (LD row rules j word head due k sign told top) σ (sD' 2)=some (.ret (if pl=[0] then .str word else .none),LD row rules j word head due k sign told top,σ):=by
  refine z6w (n:=n+38) v1g ?_
  have hlen:lenD σ (.loc j)=some ((pl.length:Nat):Int):=by show (σ[j]?).map _=_;rw [hl];show some (((pl.reverse.map D.int).length:Nat):Int)=_;rw [List.length_map,List.length_reverse]
  have h1:(recN GG (n+36)).ts cD' (LD row rules j word head due k sign told top) σ (eDq 0)=some ((pl.length:Int)==1,σ):=by
    refine q1l (a:=.int pl.length) (b:=.int 1) (σ1:=σ) v1k ?_ v1n rfl
    rw [q0b]
    exact q0l (f:="len") v1l (by kernel_rfl) v1m (q2v hlen (by exact Nat.le_trans (Nat.le_of_lt (by assumption)) (Nat.le_of_ble_eq_true rfl)))
  have ht:(recN GG (n+37)).ts cD' (LD row rules j word head due k sign told top) σ (iteT eDr)=some (decide (pl=[0]),σ):=by
    match pl,hl,hn,h1 with
    | [],_,_,h1=>exact q0q (w:=true) (es:=[eDq 1]) h1 fun h=>(by exact Mine.ff h)
    | [x],hl,_,h1=>
      have h2:(recN GG (n+36)).ts cD' (LD row rules j word head due k sign told top) σ (eDq 1)=some (x==0,σ):=by
        refine j4t (n:=n+29) k7g (by kernel_rfl) ?_
        refine q0e ?_ q0o
        rw [q0b]
        exact q0z k7h k7i k7j (j6q hl rfl (by decide))
      have h3:=q0q (es:=[]) h2 fun zz=>q3t
      rw [Bool.and_true] at h3
      have h4:=q0q h1 fun zz=>h3
      refine h4.trans ?_
      have e1:(((([x]:List Int).length:Nat):Int)==1)=true:=rfl
      rw [e1,Bool.true_and]
      have e2:(x==0)=decide ([x]=[0]):=by
        by_cases h:x=0
        · apply q0g h;rfl
        · have a:(x==0)=false:=by simpa using h
          rw [a]
          exact (decide_eq_false (by simpa using h)).symm
      rw [e2]
    | x::y::r,_,_,h1=>
      have e1:((((x::y::r:List Int).length:Nat):Int)==1)=false:=by
        simp only [beq_eq_false_iff_ne,ne_eq,List.length_cons];omega
      rw [e1] at h1
      have h4:=q0q (w:=true) (es:=[eDq 1]) h1 fun h=>(by exact Mine.ff h)
      refine h4.trans ?_
      have e2:decide (x::y::r=[0])=false:=decide_eq_false (by simp)
      rw [e2];rfl
  rw [q0b,q5g v1h ht]
  by_cases h:pl=[0]
  · rw [if_pos (decide_eq_true h),if_pos h];exact v1i
  · rw [decide_eq_false h,if_neg h];exact v1j
end
theorem z0i {rules:List q3d} {top:Int} {p:q0h}:(refuse rules top p=true)↔(top=0∨(top<256∧(p.head≠0∨(ruleAt rules p.k).num≠top))∨(256≤top∧p.head≠top)):=by
  simp only [refuse,Bool.or_eq_true,Bool.and_eq_true,Bool.not_eq_true',beq_iff_eq,beq_eq_false_iff_ne,decide_eq_true_eq,ne_eq]
theorem q7b {n:Nat} {r0 r1 r2:q3d} {row:D}:∀ (r:List q0h) (pile:List Int) (word:List Nat) (j:Nat) (head due k sign told top:Option D) (σ:Sto),(∀ p∈r,q8q p)→(∀ p∈r,(p.k<3∧p.told=[])∨(p.k=3∧p.head≠0))→(∃ xs,pile=xs++[0])→σ[j]?=some (pile.reverse.map .int)→
    pile.length+3*r.length<900→word.length+20*r.length≤1000→
    ∃ fl L' σ',forItems (recN GG (n+38)) cD' (targetOf (sD' 1)) (bodyOf (sD' 1)) (LD row (rulesD [r0,r1,r2]) j word head due k sign told top) σ (r.map pieceD)=some (fl,L',σ')∧
      (dv [r0,r1,r2] pile r=none→fl=.ret .none)∧
      (∀ p,dv [r0,r1,r2] pile r=some p→fl=.next∧p.length<900∧∃ j' head due k sign told top,L'=LD row (rulesD [r0,r1,r2]) j' (word++plainRow r) head due k sign told top∧σ'[j']?=some (p.reverse.map .int))
  | [],pile,word,j,head,due,k,sign,told,top,σ,_,_,hx,hl,hn,_=>by
    obtain ⟨xs,rfl⟩:=hx
    refine ⟨.next,_,σ,rfl,fun h=>?_,fun p h=>?_⟩
    · exact Mine.sn h
    · replace h:=Option.some.inj h
      subst h
      refine ⟨rfl,(by assumption),j,head,due,k,sign,told,top,?_,hl⟩
      simp [plainRow]
  | p::r,pile,word,j,head,due,k,sign,told,top,σ,hsm,hk,hx,hl,hn,hw=>by
    obtain ⟨xs,rfl⟩:=hx
    have sp:=hsm p List.mem_cons_self
    have kp:=hk p List.mem_cons_self
    have hL:LIM=65536:=rfl
    dsimp only [List.length_cons] at hn hw
    rw [List.map_cons]
    obtain ⟨x,ys,hxy⟩:∃ x ys,xs++[0]=x::ys:=by
      induction xs using q1h with
      | nil=>exact ⟨0,[],rfl⟩
      | cons a b=>exact ⟨a,b++[0],rfl⟩
    rw [hxy] at hl hn ⊢
    dsimp only [List.length_cons] at hn
    have hl':σ[j]?=some (ys.reverse.map .int++[.int x]):=by rw [hl];simp
    have hj:j<σ.length:=(List.getElem?_eq_some_iff.mp hl).1
    have pop:=k6v (n:=n) (row:=row) (rules:=rulesD [r0,r1,r2]) (j:=j) (word:=word) (head:=some (.int p.head)) (due:=some (.int p.due)) (k:=some (.int p.k)) (sign:=some (.str p.sign)) (told:=some (.list (p.told.map .int))) (top:=top) (σ:=σ) hl' (by simp;omega)
    have test:=k0j (n:=n) (r0:=r0) (r1:=r1) (r2:=r2) (row:=row) (j:=j) (word:=word) (p:=p) (x:=x) (due:=some (.int p.due)) (sign:=some (.str p.sign)) (told:=some (.list (p.told.map .int))) (σ:=σ.set j (ys.reverse.map .int)) (by
      rcases kp with h | h
      · exact Or.inl h.1
      · exact Or.inr h.2)
    have hset:(σ.set j (ys.reverse.map D.int))[j]?=some (ys.reverse.map .int):=by rw [List.getElem?_set_self hj]
    induction hr:refuse [r0,r1,r2] x p using q2i with
    | true=>
      rw [hr] at test
      have hdv:dv [r0,r1,r2] (x::ys) (p::r)=none:=by
        have:=z0i.mp hr
        dsimp only [v7s]
        rw [if_pos this]
      have hb:exs (recN GG (n+38)) cD' (LD row (rulesD [r0,r1,r2]) j word (some (.int p.head)) (some (.int p.due)) (some (.int p.k)) (some (.str p.sign)) (some (.list (p.told.map .int))) top) σ (bodyOf (sD' 1)) =
          some (.ret .none,LD row (rulesD [r0,r1,r2]) j word (some (.int p.head)) (some (.int p.due)) (some (.int p.k)) (some (.str p.sign)) (some (.list (p.told.map .int))) (some (.int x)),σ.set j (ys.reverse.map .int)):=by
        rw [k0i,q0c pop]
        refine q1r ?_
        rw [q0m,q1s j4w test]
        exact v0p
      rw [z5d q7a hb]
      exact ⟨_,_,_,rfl,fun zz=>rfl,fun q h=>by exact Mine.ns ((hdv).symm.trans h)⟩
    | false=>
      rw [hr] at test
      have hnr:¬ (x=0∨(x<256∧(p.head≠0∨(ruleAt [r0,r1,r2] p.k).num≠x))∨(256≤x∧p.head≠x)):=fun h=>by rw [z0i.mpr h] at hr;exact Mine.tf hr
      have hys:∃ zs,ys=zs++[0]:=by
        induction xs using q1h with
        | nil=>
          exfalso
          injection hxy with h1 _
          exact hnr (Or.inl h1.symm)
        | cons a b=>
          injection hxy with h1 h2
          exact ⟨b,h2.symm⟩
      have h1:(recN GG (n+38)).ex cD' (LD row (rulesD [r0,r1,r2]) j word (some (.int p.head)) (some (.int p.due)) (some (.int p.k)) (some (.str p.sign)) (some (.list (p.told.map .int))) (some (.int x))) (σ.set j (ys.reverse.map .int)) (sDb 1) =
          some (.next,LD row (rulesD [r0,r1,r2]) j word (some (.int p.head)) (some (.int p.due)) (some (.int p.k)) (some (.str p.sign)) (some (.list (p.told.map .int))) (some (.int x)),σ.set j (ys.reverse.map .int)):=by
        rw [q0m,q1s j4w test]
        exact q0j
      have hsm':∀ q∈r,q8q q:=fun q hq=>hsm q (List.mem_cons_of_mem _ hq)
      have hk':∀ q∈r,(q.k<3∧q.told=[])∨(q.k=3∧q.head≠0):=fun q hq=>hk q (List.mem_cons_of_mem _ hq)
      have dstep:dv [r0,r1,r2] (x::ys) (p::r)=if p.k=3 then dv [r0,r1,r2] ys r else if p.head>0 then dv [r0,r1,r2] ((ruleAt [r0,r1,r2] p.k).l::(ruleAt [r0,r1,r2] p.k).num::(ruleAt [r0,r1,r2] p.k).r::ys) r else dv [r0,r1,r2] ys r:=by
        show (if (x=0∨_) then none else _)=_
        rw [if_neg hnr]
      have ep:plainRow (p::r)=(p.told.filter (0<·)).map Int.toNat++plainRow r:=rfl
      rcases kp with ⟨hk3,htold⟩ | ⟨hk3,hhead⟩
      · have hne:¬ p.k=3:=by omega
        have hb3:((p.k:Int)==3)=false:=by
          simp only [beq_eq_false_iff_ne,ne_eq];omega
        have t2:=k1o (n:=n) (row:=row) (rules:=rulesD [r0,r1,r2]) (j:=j) (word:=word) (head:=some (.int p.head)) (due:=some (.int p.due)) (k:=p.k) (sign:=some (.str p.sign)) (told:=some (.list (p.told.map .int))) (top:=some (.int x)) (σ:=σ.set j (ys.reverse.map .int))
        rw [hb3] at t2
        rw [if_neg hne] at dstep
        have ep':plainRow (p::r)=plainRow r:=by rw [ep,htold];rfl
        have et:=v1b (n:=n) (row:=row) (rules:=rulesD [r0,r1,r2]) (j:=j) (word:=word) (h:=p.head) (due:=some (.int p.due)) (k:=some (.int p.k)) (sign:=some (.str p.sign)) (told:=some (.list (p.told.map .int))) (top:=some (.int x)) (σ:=σ.set j (ys.reverse.map .int))
        by_cases hh:p.head>0
        · rw [if_pos hh] at dstep
          have hd:decide (0<p.head)=true:=decide_eq_true hh
          rw [hd] at et
          have push:=k0n (n:=n) (row:=row) (r0:=r0) (r1:=r1) (r2:=r2) (j:=j) (word:=word) (head:=some (.int p.head)) (due:=some (.int p.due)) (sign:=some (.str p.sign)) (told:=some (.list (p.told.map .int))) (top:=some (.int x)) (σ:=σ.set j (ys.reverse.map .int)) hk3 hset (by simp;omega)
          have h2:(recN GG (n+38)).ex cD' (LD row (rulesD [r0,r1,r2]) j word (some (.int p.head)) (some (.int p.due)) (some (.int p.k)) (some (.str p.sign)) (some (.list (p.told.map .int))) (some (.int x))) (σ.set j (ys.reverse.map .int)) (sDb 2)=some (.next,LD row (rulesD [r0,r1,r2]) (σ.set j (ys.reverse.map D.int)).length word (some (.int p.head)) (some (.int p.due)) (some (.int p.k)) (some (.str p.sign)) (some (.list (p.told.map .int))) (some (.int x)),σ.set j (ys.reverse.map .int)++[ys.reverse.map .int++[.int (ruleAt [r0,r1,r2] p.k).r,.int (ruleAt [r0,r1,r2] p.k).num,.int (ruleAt [r0,r1,r2] p.k).l]]):=by
            rw [q0m,q1s j4x t2,k1p]
            refine (q0c ?_).trans q0j
            rw [q0m,q1s k1q et]
            exact push
          have hb:=(congrArg (exs (recN GG (n+38)) cD' (LD row (rulesD [r0,r1,r2]) j word (some (.int p.head)) (some (.int p.due)) (some (.int p.k)) (some (.str p.sign)) (some (.list (p.told.map .int))) top) σ) k0i).trans ((q0c pop).trans ((q0c h1).trans ((q0c h2).trans q0j)))
          rw [q1i q7a hb,dstep,ep']
          refine q7b r ((ruleAt [r0,r1,r2] p.k).l::(ruleAt [r0,r1,r2] p.k).num::(ruleAt [r0,r1,r2] p.k).r::ys) word _ _ _ _ _ _ _ _ hsm' hk' ?_ ?_ ?_ (by omega)
          · obtain ⟨zs,hq79⟩:=hys
            apply q0g hq79
            exact ⟨(ruleAt [r0,r1,r2] p.k).l::(ruleAt [r0,r1,r2] p.k).num::(ruleAt [r0,r1,r2] p.k).r::zs,rfl⟩
          · rw [List.getElem?_append_right (Nat.le_refl _)]
            simp
          · dsimp only [List.length_cons];omega
        · rw [if_neg hh] at dstep
          have hd:decide (0<p.head)=false:=decide_eq_false hh
          rw [hd] at et
          have h2:(recN GG (n+38)).ex cD' (LD row (rulesD [r0,r1,r2]) j word (some (.int p.head)) (some (.int p.due)) (some (.int p.k)) (some (.str p.sign)) (some (.list (p.told.map .int))) (some (.int x))) (σ.set j (ys.reverse.map .int)) (sDb 2)=some (.next,LD row (rulesD [r0,r1,r2]) j word (some (.int p.head)) (some (.int p.due)) (some (.int p.k)) (some (.str p.sign)) (some (.list (p.told.map .int))) (some (.int x)),σ.set j (ys.reverse.map .int)):=by
            rw [q0m,q1s j4x t2,k1p]
            refine (q0c ?_).trans q0j
            rw [q0m,q1s k1q et]
            exact q0j
          have hb:=(congrArg (exs (recN GG (n+38)) cD' (LD row (rulesD [r0,r1,r2]) j word (some (.int p.head)) (some (.int p.due)) (some (.int p.k)) (some (.str p.sign)) (some (.list (p.told.map .int))) top) σ) k0i).trans ((q0c pop).trans ((q0c h1).trans ((q0c h2).trans q0j)))
          rw [q1i q7a hb,dstep,ep']
          exact q7b r ys word _ _ _ _ _ _ _ _ hsm' hk' hys hset (by omega) (by omega)
      · have hb3:((p.k:Int)==3)=true:=by rw [hk3];rfl
        have t2:=k1o (n:=n) (row:=row) (rules:=rulesD [r0,r1,r2]) (j:=j) (word:=word) (head:=some (.int p.head)) (due:=some (.int p.due)) (k:=p.k) (sign:=some (.str p.sign)) (told:=some (.list (p.told.map .int))) (top:=some (.int x)) (σ:=σ.set j (ys.reverse.map .int))
        rw [hb3] at t2
        rw [if_pos hk3] at dstep
        have hfl:((p.told.filter (0<·)).map Int.toNat).length≤20:=by
          rw [List.length_map]
          exact Nat.le_trans (List.length_filter_le _ _) sp.told
        have wd:=k0l (n:=n) (row:=row) (rules:=rulesD [r0,r1,r2]) (j:=j) (word:=word) (head:=some (.int p.head)) (due:=some (.int p.due)) (k:=some (.int p.k)) (sign:=some (.str p.sign)) (top:=some (.int x)) (σ:=σ.set j (ys.reverse.map .int)) sp.toldI (by have:=sp.told;exact Nat.le_trans (by assumption) (Nat.le_of_ble_eq_true rfl)) (by omega)
        have h2:(recN GG (n+38)).ex cD' (LD row (rulesD [r0,r1,r2]) j word (some (.int p.head)) (some (.int p.due)) (some (.int p.k)) (some (.str p.sign)) (some (.list (p.told.map .int))) (some (.int x))) (σ.set j (ys.reverse.map .int)) (sDb 2)=some (.next,LD row (rulesD [r0,r1,r2]) j (word++(p.told.filter (0<·)).map Int.toNat) (some (.int p.head)) (some (.int p.due)) (some (.int p.k)) (some (.str p.sign)) (some (.list (p.told.map .int))) (some (.int x)),σ.set j (ys.reverse.map .int)):=by
          rw [q0m,q1s j4x t2]
          exact wd
        have hb:=(congrArg (exs (recN GG (n+38)) cD' (LD row (rulesD [r0,r1,r2]) j word (some (.int p.head)) (some (.int p.due)) (some (.int p.k)) (some (.str p.sign)) (some (.list (p.told.map .int))) top) σ) k0i).trans ((q0c pop).trans ((q0c h1).trans ((q0c h2).trans q0j)))
        rw [q1i q7a hb,dstep]
        have:=q7b (n:=n) (r0:=r0) (r1:=r1) (r2:=r2) (row:=row) r ys (word++(p.told.filter (0<·)).map Int.toNat) j (some (.int p.head)) (some (.int p.due)) (some (.int p.k)) (some (.str p.sign)) (some (.list (p.told.map .int))) (some (.int x)) (σ.set j (ys.reverse.map .int)) hsm' hk' hys hset (by omega) (by rw [List.length_append];omega)
        rw [List.append_assoc] at this
        exact this
noncomputable def wordS (rules:List q3d) (row:List q0h):Option (List Nat):=match dv rules [256,0] row with
  | some p=>if p=[0] then some (plainRow row) else none
  | none=>none
noncomputable def wordD:Option (List Nat)→D
  | some w=>.str w
  | none=>.none
theorem j4y {n:Nat} {r0 r1 r2:q3d} {row:List q0h} (hsm:∀ p∈row,q8q p) (hk:∀ p∈row,(p.k<3∧p.told=[])∨(p.k=3∧p.head≠0)) (hr:row.length≤28):(recN GG (n+40)).ca (sO fD') [.list (row.map pieceD),rulesD [r0,r1,r2]] []=some (wordD (wordS [r0,r1,r2] row),[]):=by
  have hL:LIM=65536:=rfl
  rw [j4v,k0h,q0c v4n]
  refine k0u (q7b (n:=n) (r0:=r0) (r1:=r1) (r2:=r2) (row:=.list (row.map pieceD)) row [256,0] [] 0 none none none none none none [([256,0]:List Int).reverse.map .int] hsm hk ⟨[256],rfl⟩ rfl (by simp;omega) (by simp;omega)) ?_;intro fl L' σ' e e1 e2
  have hf:=q8f (n:=n+38) (G:=GG) (c:=cD') (st:=sD' 1) (L:=LD (.list (row.map pieceD)) (rulesD [r0,r1,r2]) 0 [] none none none none none none) (σ:=[([256,0]:List Int).reverse.map .int]) (σ':=[([256,0]:List Int).reverse.map .int]) (d:=.list (row.map pieceD)) (items:=row.map pieceD) v0f v0g rfl (by rw [List.length_map];exact Nat.le_trans (by assumption) (Nat.le_of_ble_eq_true rfl))
  rw [e] at hf
  unfold wordS
  induction hd:dv [r0,r1,r2] [256,0] row using Mine.oC with
  | none=>
    have:=e1 hd
    subst this
    rw [q1r hf]
    rfl
  | some p=>
    apply q0d;intro hG;rcases e2 p hd with ⟨rfl,hp,j',head,due,k,sign,told,top,rfl,hl⟩;apply hG;clear hG
    rw [q0c hf,q1r (k7k hl (by exact Nat.le_trans (by assumption) (Nat.le_of_ble_eq_true rfl)))]
    by_cases h:p=[0]
    · simp only [h,if_true];rfl
    · simp only [h,if_false];rfl
set_option maxRecDepth 100000
set_option maxHeartbeats 4000000
section
variable {G:Gl} {R:Rec} {c:Cx} {L L':Loc} {σ σ':Sto} {d:D}
end
noncomputable abbrev fT:String:="law"
noncomputable abbrev cT:Cx:=cx fT
noncomputable abbrev sT (i:Nat):Stmt:=sel (bd fT) i
noncomputable def LT (script cells rules row faulty text plain numbers heights marks head due k sign told n closed right word:Option D):Loc:=
  [(sO "script",script),(sO "cells",cells),(sO "rules",rules),(sO "row",row),(sO "faulty",faulty),(sO "text",text),(sO "plain",plain),(sO "numbers",numbers),(sO "heights",heights),(sO "marks",marks),(sO "head",head),(sO "due",due),(sO "k",k),(sO "sign",sign),(sO "told",told),(sO "n",n),(sO "closed",closed),(sO "right",right),(sO "word",word)]
theorem j4z {n:Nat} {ns:List D}:(recN GG (n+90)).ca (sO fT) [.list ns] []=(exs (recN GG (n+89)) cT (LT (some (.list ns)) none none none none none none none none none none none none none none none none none none) [] (bd fT)).bind (caEnd []):=by kernel_rfl
theorem k0o:bd fT=[sT 0,sT 1,sT 2,sT 3,sT 4,sT 5,sT 6,sT 7,sT 8,sT 9,sT 10,sT 11,sT 12]:=by kernel_rfl
noncomputable def dflt:List Int:=[42,332,292,1,1,3,7,4,1,10,24]
noncomputable def cellsOf (ns:List Int):List Int:=((ns.take 11).map fun x=>x.fmod 1000000)++dflt.drop (ns.take 11).length
theorem j5a (ns:List Int):(cellsOf ns).length=11:=by
  unfold cellsOf
  have:(ns.take 11).length≤11:=List.length_take_le ..
  simp only [List.length_append,List.length_map,List.length_drop]
  have:dflt.length=11:=rfl
  omega
section
variable {n:Nat} {ns:List Int}
noncomputable abbrev LT0 (ns:List Int) (cells:Option D):Loc:=LT (some (.list (ns.map .int))) cells none none none none none none none none none none none none none none none none none
theorem v1o:isAsg "cells" (sT 0)=true:=by kernel_rfl
noncomputable abbrev eTc:PySem.Expr:=valOf (sT 0)
theorem v1p:isComp cT (LT0 ns none) eTc=true:=by kernel_rfl
theorem v1q:isCut (compG eTc).iter=true:=by kernel_rfl
theorem v1r:(recN GG (n+86)).ev (cxI cT) (LT0 ns none) [] (itemO (compG eTc).iter)=some (.list (ns.map .int),[]):=by kernel_rfl
theorem v7i:cutLo (compG eTc).iter=none:=by kernel_rfl
theorem v1s:evOpt (recN GG (n+86)) (cxI cT) (LT0 ns none) [] (cutHi (compG eTc).iter)=some (some ((11:Nat):Int),[]):=by kernel_rfl
theorem v1t {x:Int}:give (cxC cT eTc).sc [] (compG eTc).target (.int x) (Loc.keep (compSc eTc) (LT0 ns none))=some [(sO "x",some (.int x))]:=by kernel_rfl
theorem v7j:(compG eTc).ifs=[]:=by kernel_rfl
theorem v1u:isBin .Mod (compE eTc)=true:=by kernel_rfl
theorem v1v {x:Int}:(recN GG (n+85)).ev (cxC cT eTc) [(sO "x",some (.int x))] [] (binL (compE eTc))=some (.int x,[]):=by kernel_rfl
theorem k7l {x:Int}:(recN GG (n+85)).ev (cxC cT eTc) [(sO "x",some (.int x))] [] (binR (compE eTc))=some (.int 1000000,[]):=by kernel_rfl
theorem z9j (hn:ns.length≤63):(recN GG (n+89)).ex cT (LT0 ns none) [] (sT 0)=some (.next,LT0 ns (some (.list (((ns.take 11).map fun x=>x.fmod 1000000).map .int))),[]):=by
  have hL:LIM=65536:=rfl
  refine q0p (n:=n+88) (x:="cells") v1o (by kernel_rfl) (by kernel_rfl) ?_
  rw [q0b]
  have hi:(recN GG (n+87)).ev (cxI cT) (LT0 ns none) [] (compG eTc).iter=some (.list ((ns.take 11).map .int),[]):=by
    rw [q0b]
    refine q5c v1q v1r (by rfl) v1s ?_
    rw [q8h (by rw [List.length_map];exact Nat.le_trans (by assumption) (Nat.le_of_ble_eq_true rfl)),List.map_take]
  have hl:(ns.take 11).length≤11:=List.length_take_le ..
  refine q4k (items:=(ns.take 11).map .int) v1p hi rfl (by rw [List.length_map];exact Nat.le_trans (by assumption) (Nat.le_of_ble_eq_true rfl)) ?_ (by simp only [List.length_map];exact Nat.le_trans (by assumption) (Nat.le_of_ble_eq_true rfl))
  have hf:(ns.take 11).filter (fun zz=>true)=ns.take 11:=List.filter_eq_self.mpr fun zz zz=>rfl
  have hm:((ns.take 11).map fun x=>x.fmod 1000000).map D.int=((ns.take 11).filter fun zz=>true).map fun x:Int=>D.int (x.fmod 1000000):=by
    rw [hf,List.map_map];rfl
  rw [hm]
  refine q6m (P:=fun zz=>true) _ fun x hx=>⟨[(sO "x",some (.int x))],v1t,by rfl,fun zz=>?_⟩
  refine q8g (σ':=[]) ?_
  rw [q0b]
  exact q0r (σ1:=[]) v1u rfl v1v k7l (z5e rfl)
theorem v1w:isAsg "cells" (sT 1)=true:=by kernel_rfl
theorem v1x:isBin .Add (valOf (sT 1))=true:=by kernel_rfl
theorem v1y {l:D}:(recN GG (n+87)).ev cT (LT0 ns (some l)) [] (binL (valOf (sT 1)))=some (l,[]):=by kernel_rfl
noncomputable abbrev eTd:PySem.Expr:=binR (valOf (sT 1))
theorem v1z:isCut eTd=true:=by kernel_rfl
theorem v2a {l:D}:(recN GG (n+86)).ev cT (LT0 ns (some l)) [] (itemO eTd)=some (.list (dflt.map .int),[]):=by kernel_rfl
theorem v7k:cutLo eTd=some (theE (cutLo eTd)):=by kernel_rfl
theorem v7l:cutHi eTd=none:=by kernel_rfl
theorem v2b:isCall GG cT "len" (theE (cutLo eTd))=true:=by kernel_rfl
theorem v2c {l:D}:evs (recN GG (n+85)) cT (LT0 ns (some l)) [] (methA (theE (cutLo eTd)))=some ([l],[]):=by kernel_rfl
theorem z9k:(recN GG (n+89)).ex cT (LT0 ns (some (.list (((ns.take 11).map fun x=>x.fmod 1000000).map .int)))) [] (sT 1)=some (.next,LT0 ns (some (.list ((cellsOf ns).map .int))),[]):=by
  have hL:LIM=65536:=rfl
  have hl:(ns.take 11).length≤11:=List.length_take_le ..
  refine q0p (n:=n+88) (x:="cells") v1w (by kernel_rfl) (by kernel_rfl) ?_
  rw [q0b]
  refine q0r (σ1:=[]) v1x rfl v1y (b:=.list ((dflt.map .int).drop (ns.take 11).length)) ?_ ?_
  · rw [q0b]
    refine q5c (lo:=some ((ns.take 11).length:Nat)) (hi:=none) (σ2:=[]) v1z v2a ?_ (by rfl) (q9x (by decide))
    refine z7a ?_
    rw [q0b]
    refine q0l (f:="len") v2b (by kernel_rfl) v2c (q2v ?_ (by exact Nat.le_trans (by assumption) (Nat.le_of_ble_eq_true rfl)))
    refine congrArg some (congrArg Int.ofNat ?_:Int.ofNat _=Int.ofNat _)
    rw [List.length_map,List.length_map]
  · have hd:dflt.length=11:=rfl
    rw [q2e (by simp only [List.length_map,List.length_drop];omega)]
    unfold cellsOf
    rw [List.map_append,List.map_drop]
end
section
variable {n:Nat} {script cells rules row faulty text plain numbers heights marks head due k sign told vn closed right word:Option D} {σ:Sto} {r0 r1 r2:q3d}
theorem v2d:isAsg "rules" (sT 2)=true:=by kernel_rfl
theorem v2e:isCall GG cT fR (valOf (sT 2))=true:=by kernel_rfl
theorem v2f {cs:D}:evs (recN GG (n+87)) cT (LT script (some cs) rules row faulty text plain numbers heights marks head due k sign told vn closed right word) σ (methA (valOf (sT 2)))=some ([cs],σ):=by kernel_rfl
theorem v2g:isTA (sT 3)=true:=by kernel_rfl
theorem v2h:isCall GG cT fW (valOf (sT 3))=true:=by kernel_rfl
theorem v2i {cs rs:D}:evs (recN GG (n+87)) cT (LT script (some cs) (some rs) row faulty text plain numbers heights marks head due k sign told vn closed right word) σ (methA (valOf (sT 3)))=some ([cs,rs],σ):=by kernel_rfl
theorem v2j {a b:D}:give cT.sc σ (asgT (sT 3)) (.tup [a,b]) (LT script cells rules row faulty text plain numbers heights marks head due k sign told vn closed right word)=some (LT script cells rules (some a) (some b) text plain numbers heights marks head due k sign told vn closed right word):=by kernel_rfl
theorem v4s:(recN GG (n+89)).ex cT (LT script cells rules row faulty text plain numbers heights marks head due k sign told vn closed right word) [] (sT 4) =
    some (.next,LT script cells rules row faulty (some (.str [])) (some (.str [])) (some (.list [])) (some (.loc 0)) (some (.loc 1)) head due k sign told vn closed right word,[[.int 0],[]]):=by kernel_rfl
theorem v2k:isForSeq GG cT (LT script cells rules row faulty text plain numbers heights marks head due k sign told vn closed right word) (sT 5)=true:=by kernel_rfl
theorem v2l {rw:D}:(recN GG (n+88)).ev cT (LT script cells rules (some rw) faulty text plain numbers heights marks head due k sign told vn closed right word) σ (iterOf (sT 5))=some (rw,σ):=by kernel_rfl
theorem v2m {p:q0h}:give cT.sc σ (targetOf (sT 5)) (pieceD p) (LT script cells rules row faulty text plain numbers heights marks head due k sign told vn closed right word)=some (LT script cells rules row faulty text plain numbers heights marks (some (.int p.head)) (some (.int p.due)) (some (.int p.k)) (some (.str p.sign)) (some (.list (p.told.map .int))) vn closed right word):=by kernel_rfl
noncomputable abbrev sTb (i:Nat):Stmt:=sel (bodyOf (sT 5)) i
theorem v2n:bodyOf (sT 5)=[sTb 0,sTb 1,sTb 2,sTb 3]:=by kernel_rfl
theorem v8k:isAsg "plain" (sTb 0)=true:=by kernel_rfl
theorem v8l:isBin .Add (valOf (sTb 0))=true:=by kernel_rfl
theorem v8m {w:D}:(recN GG (n+86)).ev cT (LT script cells rules row faulty text (some w) numbers heights marks head due k sign told vn closed right word) σ (binL (valOf (sTb 0)))=some (w,σ):=by kernel_rfl
noncomputable abbrev eTj:PySem.Expr:=binR (valOf (sTb 0))
theorem v8n:isMeth "join" eTj=true:=by kernel_rfl
theorem v8o:(recN GG (n+85)).ev cT (LT script cells rules row faulty text plain numbers heights marks head due k sign told vn closed right word) σ (methO eTj)=some (.str [],σ):=by kernel_rfl
noncomputable abbrev eTk:PySem.Expr:=(methA eTj).getD 0 noE
theorem v8p:methA eTj=[eTk]:=by kernel_rfl
theorem v8q:isComp cT (LT script cells rules row faulty text plain numbers heights marks head due k sign told vn closed right word) eTk=true:=by kernel_rfl
theorem v8r {l:D}:(recN GG (n+84)).ev (cxI cT) (LT script cells rules row faulty text plain numbers heights marks head due k sign (some l) vn closed right word) σ (compG eTk).iter=some (l,σ):=by kernel_rfl
theorem v8s {x:Int}:give (cxC cT eTk).sc σ (compG eTk).target (.int x) (Loc.keep (compSc eTk) (LT script cells rules row faulty text plain numbers heights marks head due k sign told vn closed right word))=some [(sO "n",some (.int x))]:=by kernel_rfl
theorem v8t:(compG eTk).ifs=[((compG eTk).ifs).getD 0 noE]:=by kernel_rfl
theorem v4t {x:Int}:(recN GG (n+84)).ts (cxC cT eTk) [(sO "n",some (.int x))] σ (((compG eTk).ifs).getD 0 noE)=some (decide (0<x),σ):=by kernel_rfl
theorem v4u:isCall GG (cxC cT eTk) "chr" (compE eTk)=true:=by kernel_rfl
theorem v4v {x:Int}:evs (recN GG (n+82)) (cxC cT eTk) [(sO "n",some (.int x))] σ (methA (compE eTk))=some ([.int x],σ):=by kernel_rfl
theorem k7m {w:List Nat} {tl:List Int} (ht:∀ i∈tl,0≤i∧i<256) (hl:tl.length≤1000) (hw:w.length+((tl.filter (0<·)).map Int.toNat).length≤LIM) :
    (recN GG (n+88)).ex cT (LT script cells rules row faulty text (some (.str w)) numbers heights marks head due k sign (some (.list (tl.map .int))) vn closed right word) σ (sTb 0) =
      some (.next,LT script cells rules row faulty text (some (.str (w++(tl.filter (0<·)).map Int.toNat))) numbers heights marks head due k sign (some (.list (tl.map .int))) vn closed right word,σ):=by
  have hL:LIM=65536:=rfl
  have hfl:(tl.filter (0<·)).length≤tl.length:=List.length_filter_le _ _
  refine q0p (n:=n+87) (x:="plain") (d:=.str (w++(tl.filter (0<·)).map Int.toNat)) v8k (by kernel_rfl) (by kernel_rfl) ?_
  rw [q0b]
  refine q0r (a:=.str w) (b:=.str ((tl.filter (0<·)).map Int.toNat)) (σ1:=σ) v8l rfl v8m ?_ (q1n hw)
  rw [← q8w]
  refine q8e (G:=GG) (σ1:=σ) v8n v8o (ds:=[.list (((tl.filter (0<·)).map fun x:Int=>[x.toNat]).map .str)]) ?_ (z3f ?_ ?_)
  · rw [v8p]
    refine q0e ?_ q0o
    rw [q0b]
    refine q4k (items:=tl.map D.int) v8q v8r rfl (by rw [List.length_map];exact Nat.le_trans (by assumption) (Nat.le_of_ble_eq_true rfl)) ?_ (by rw [List.length_map,List.length_map];omega)
    rw [List.map_map]
    refine q6m (P:=fun x:Int=>decide (0<x)) (f:=fun x:Int=>D.str [x.toNat]) _ fun x hx=>⟨[(sO "n",some (.int x))],v8s,?_,fun zz=>?_⟩
    · rw [v8t]
      exact z1h (σ':=σ) v4t
    · refine q8g (σ':=σ) ?_
      obtain ⟨h1,h2⟩:=ht x hx
      rw [q0b]
      exact q0l (f:="chr") v4u (by kernel_rfl) v4v (z1q h1 (by omega))
  · rw [q8w];omega
  · rw [List.length_map];omega
theorem v8u:isAsg "numbers" (sTb 1)=true:=by kernel_rfl
theorem v8v:isBin .Add (valOf (sTb 1))=true:=by kernel_rfl
theorem v8w:isBin .Add (binL (valOf (sTb 1)))=true:=by kernel_rfl
theorem v8x {w:D}:(recN GG (n+85)).ev cT (LT script cells rules row faulty text plain (some w) heights marks head due k sign told vn closed right word) σ (binL (binL (valOf (sTb 1))))=some (w,σ):=by kernel_rfl
noncomputable abbrev eTn:PySem.Expr:=binR (binL (valOf (sTb 1)))
theorem v8y:isComp cT (LT script cells rules row faulty text plain numbers heights marks head due k sign told vn closed right word) eTn=true:=by kernel_rfl
theorem v8z {l:D}:(recN GG (n+84)).ev (cxI cT) (LT script cells rules row faulty text plain numbers heights marks head due k (some l) told vn closed right word) σ (compG eTn).iter=some (l,σ):=by kernel_rfl
theorem v9a {x:List Nat}:give (cxC cT eTn).sc σ (compG eTn).target (.str x) (Loc.keep (compSc eTn) (LT script cells rules row faulty text plain numbers heights marks head due k sign told vn closed right word))=some [(sO "c",some (.str x))]:=by kernel_rfl
theorem v9b:(compG eTn).ifs=[((compG eTn).ifs).getD 0 noE]:=by kernel_rfl
theorem v9c {x:Nat}:(recN GG (n+84)).ts (cxC cT eTn) [(sO "c",some (.str [x]))] σ (((compG eTn).ifs).getD 0 noE)=some ([40,41].contains x,σ):=by kernel_rfl
theorem v9d:isIte (compE eTn)=true:=by kernel_rfl
theorem v4w {x:List Nat}:(recN GG (n+82)).ts (cxC cT eTn) [(sO "c",some (.str x))] σ (iteT (compE eTn))=some (x==[40],σ):=by kernel_rfl
theorem v4x {L:Loc}:(recN GG (n+82)).ev (cxC cT eTn) L σ (iteA (compE eTn))=some (.int 7,σ):=by kernel_rfl
theorem v4y {L:Loc}:(recN GG (n+82)).ev (cxC cT eTn) L σ (iteB (compE eTn))=some (.int 8,σ):=by kernel_rfl
noncomputable abbrev eTm:PySem.Expr:=binR (valOf (sTb 1))
theorem v4z:isIte eTm=true:=by kernel_rfl
theorem v5a {k:Nat}:(recN GG (n+85)).ts cT (LT script cells rules row faulty text plain numbers heights marks head due (some (.int k)) sign told vn closed right word) σ (iteT eTm)=some (decide ((k:Int)<3),σ):=by kernel_rfl
theorem v5b {k:Nat} (hk:k<3):(recN GG (n+85)).ev cT (LT script cells (some (rulesD [r0,r1,r2])) row faulty text plain numbers heights marks head due (some (.int k)) sign told vn closed right word) σ (iteA eTm)=some (.list [.int (ruleAt [r0,r1,r2] k).num],σ):=by
  match k,hk with
  | 0,_=>kernel_rfl
  | 1,_=>kernel_rfl
  | 2,_=>kernel_rfl
theorem v5c {L:Loc}:(recN GG (n+85)).ev cT L σ (iteB eTm)=some (.list [],σ):=by kernel_rfl
theorem k7n {nums:List Int} {s:List Nat} {k:Nat} (hs:s.length≤20) (hn:nums.length≤1000) :
    (recN GG (n+88)).ex cT (LT script cells (some (rulesD [r0,r1,r2])) row faulty text plain (some (.list (nums.map .int))) heights marks head due (some (.int k)) (some (.str s)) told vn closed right word) σ (sTb 1) =
      some (.next,LT script cells (some (rulesD [r0,r1,r2])) row faulty text plain (some (.list ((nums++(numsOf s++(if k<3 then [(ruleAt [r0,r1,r2] k).num] else []))).map .int))) heights marks head due (some (.int k)) (some (.str s)) told vn closed right word,σ):=by
  have hL:LIM=65536:=rfl
  have hns:(numsOf s).length≤s.length:=List.length_filterMap_le ..
  refine q0p (n:=n+87) (x:="numbers") v8u (by kernel_rfl) (by kernel_rfl) ?_
  rw [q0b]
  refine q0r (a:=.list ((nums++numsOf s).map .int)) (b:=.list ((if k<3 then [(ruleAt [r0,r1,r2] k).num] else []).map .int)) (σ1:=σ) v8v rfl ?_ ?_ ?_
  · rw [q0b]
    refine q0r (a:=.list (nums.map .int)) (b:=.list ((numsOf s).map .int)) (σ1:=σ) v8w rfl v8x ?_ ?_
    · rw [q0b]
      refine q4k (items:=s.map fun c=>D.str [c]) v8y v8z rfl (by rw [List.length_map];exact Nat.le_trans (by assumption) (Nat.le_of_ble_eq_true rfl)) ?_ (by rw [List.length_map];omega)
      rw [← q8m,List.map_map]
      refine q6m (P:=fun c:Nat=>[40,41].contains c) (f:=fun c:Nat=>D.int (if c=40 then (7:Int) else 8)) _ fun x hx=>⟨[(sO "c",some (.str [x]))],v9a,?_,fun zz=>?_⟩
      · rw [v9b]
        exact z1h (σ':=σ) v9c
      · refine q8g (σ':=σ) ?_
        rw [q0b,q5g v9d v4w]
        by_cases h:x=40
        · apply q0g h
          exact v4x
        · have:¬ ([x]==[40])=true:=by simpa using h
          rw [if_neg this,if_neg h];exact v4y
    · rw [q2e (by simp only [List.length_map];omega),List.map_append]
  · rw [q0b,q5g v4z v5a]
    by_cases h:k<3
    · rw [if_pos (decide_eq_true (by omega)),if_pos h];exact v5b h
    · rw [if_neg (by simp only [decide_eq_true_eq];omega),if_neg h];exact v5c
  · have:(if k<3 then [(ruleAt [r0,r1,r2] k).num] else []).length≤1:=by split<;>simp
    rw [q2e (by simp only [List.length_map,List.length_append];omega),← List.map_append,List.append_assoc]
theorem v9e:isIf (sTb 2)=true:=by kernel_rfl
theorem v9f {k:Nat}:(recN GG (n+87)).ts cT (LT script cells rules row faulty text plain numbers heights marks head due (some (.int k)) sign told vn closed right word) σ (testOf (sTb 2))=some (decide ((k:Int)<3),σ):=by kernel_rfl
theorem v9g:elseOf (sTb 2)=[]:=by kernel_rfl
noncomputable abbrev sTh:Stmt:=sel (thenOf (sTb 2)) 0
noncomputable abbrev sTm:Stmt:=sel (thenOf (sTb 2)) 1
theorem v9h:thenOf (sTb 2)=[sTh,sTm]:=by kernel_rfl
theorem v9i:isApp sTh=true:=by kernel_rfl
theorem v9j {j:Nat}:(recN GG (n+85)).ev cT (LT script cells rules row faulty text plain numbers (some (.loc j)) marks head due k sign told vn closed right word) σ (appO sTh)=some (.loc j,σ):=by kernel_rfl
theorem v9k:isBin .Add (appE sTh)=true:=by kernel_rfl
theorem v9l:isItem (binL (appE sTh))=true:=by kernel_rfl
theorem v9m {j:Nat}:(recN GG (n+83)).ev cT (LT script cells rules row faulty text plain numbers (some (.loc j)) marks head due k sign told vn closed right word) σ (itemO (binL (appE sTh)))=some (.loc j,σ):=by kernel_rfl
theorem v9n {L:Loc}:(recN GG (n+83)).ev cT L σ (itemI (binL (appE sTh)))=some (.int (-1),σ):=by kernel_rfl
theorem v9o:isIte (binR (appE sTh))=true:=by kernel_rfl
theorem v9p {h:Int}:(recN GG (n+83)).ts cT (LT script cells rules row faulty text plain numbers heights marks (some (.int h)) due k sign told vn closed right word) σ (iteT (binR (appE sTh)))=some (decide (0<h),σ):=by kernel_rfl
theorem v9q {L:Loc}:(recN GG (n+83)).ev cT L σ (iteA (binR (appE sTh)))=some (.int 1,σ):=by kernel_rfl
theorem v9r {L:Loc}:(recN GG (n+83)).ev cT L σ (iteB (binR (appE sTh)))=some (.int (-1),σ):=by kernel_rfl
theorem z4a {tab:List (Str × Int)} {σ:Sto} {l:List Int} {j:Nat} {a:Int} (hk:σ[j]?=some ((l++[a]).map .int)) (hl:l.length≤1000):itemD tab σ (.loc j) (.int (-1))=some (.int a):=by
  have hs:smallI (.int (-1))=true:=rfl
  unfold itemD
  have hi:indexOf ((l++[a]).map D.int).length (-1)=some l.length:=by
    have h1:¬ (0:Int)≤-1:=by decide
    have h2:(0:Int)≤-1+((((l++[a]).map D.int).length:Nat):Int):=by simp;omega
    unfold indexOf
    rw [if_pos h2]
    congr 1
    simp
    omega
  refine bs hk ?_
  show (indexOf _ (-1)).bind _=_
  rw [hi]
  show ((l++[a]).map D.int)[l.length]?=_
  rw [List.getElem?_map,List.getElem?_append_right (Nat.le_refl _)]
  simp
theorem k7o {h:Int} {hs:List Int} {a:Int} {j:Nat} (hj:σ[j]?=some ((hs++[a]).map .int)) (hl:hs.length≤1000) :
    (recN GG (n+87)).ex cT (LT script cells rules row faulty text plain numbers (some (.loc j)) marks (some (.int h)) due k sign told vn closed right word) σ sTh =
      some (.next,LT script cells rules row faulty text plain numbers (some (.loc j)) marks (some (.int h)) due k sign told vn closed right word,σ.set j ((hs++[a]++[a+(if h>0 then 1 else -1)]).map .int)):=by
  have hL:LIM=65536:=rfl
  have ha:=q1z (n:=n+85) (G:=GG) (c:=cT) (st:=sTh) (L:=LT script cells rules row faulty text plain numbers (some (.loc j)) marks (some (.int h)) due k sign told vn closed right word) (σ:=σ) (σ':=σ) (k:=j) (l:=(hs++[a]).map .int) (d:=.int (a+(if h>0 then 1 else -1))) v9i rfl v9j ?_ hj (by simp;omega)
  · rw [ha,List.map_append (l₁:=hs++[a])];rfl
  · rw [q0b]
    refine q0r (a:=.int a) (b:=.int (if h>0 then 1 else -1)) (σ1:=σ) v9k rfl ?_ ?_ k2y
    · rw [q0b]
      exact q0z v9l v9m v9n (z4a hj hl)
    · rw [q0b,q5g v9o v9p]
      by_cases h0:h>0
      · rw [if_pos (decide_eq_true h0),if_pos h0];exact v9q
      · rw [if_neg (by simpa using h0),if_neg h0];exact v9r
theorem v9s:isApp sTm=true:=by kernel_rfl
theorem v9t {j:Nat}:(recN GG (n+85)).ev cT (LT script cells rules row faulty text plain numbers heights (some (.loc j)) head due k sign told vn closed right word) σ (appO sTm)=some (.loc j,σ):=by kernel_rfl
theorem v9u:isTup (appE sTm)=true:=by kernel_rfl
theorem v9v:eltsOf (appE sTm)=[eltOf (appE sTm) 0,eltOf (appE sTm) 1,eltOf (appE sTm) 2]:=by kernel_rfl
theorem v9w:isCall GG cT "len" (eltOf (appE sTm) 0)=true:=by kernel_rfl
theorem v9x {t:D}:evs (recN GG (n+83)) cT (LT script cells rules row faulty (some t) plain numbers heights marks head due k sign told vn closed right word) σ (methA (eltOf (appE sTm) 0))=some ([t],σ):=by kernel_rfl
theorem v9y {kk:D}:(recN GG (n+84)).ev cT (LT script cells rules row faulty text plain numbers heights marks head due (some kk) sign told vn closed right word) σ (eltOf (appE sTm) 1)=some (kk,σ):=by kernel_rfl
theorem v9z {h:Int}:(recN GG (n+84)).ev cT (LT script cells rules row faulty text plain numbers heights marks (some (.int h)) due k sign told vn closed right word) σ (eltOf (appE sTm) 2)=some (.bool (decide (0<h)),σ):=by kernel_rfl
theorem k7p {t:List Nat} {h:Int} {kk:Nat} {ms:List (Nat × Nat × Bool)} {j:Nat} (hj:σ[j]?=some (ms.map markD)) (hl:ms.length≤1000) (ht:t.length≤LIM) :
    (recN GG (n+87)).ex cT (LT script cells rules row faulty (some (.str t)) plain numbers heights (some (.loc j)) (some (.int h)) due (some (.int kk)) sign told vn closed right word) σ sTm =
      some (.next,LT script cells rules row faulty (some (.str t)) plain numbers heights (some (.loc j)) (some (.int h)) due (some (.int kk)) sign told vn closed right word,σ.set j ((ms++[(t.length,kk,decide (h>0))]).map markD)):=by
  have hL:LIM=65536:=rfl
  have ha:=q1z (n:=n+85) (G:=GG) (c:=cT) (st:=sTm) (L:=LT script cells rules row faulty (some (.str t)) plain numbers heights (some (.loc j)) (some (.int h)) due (some (.int kk)) sign told vn closed right word) (σ:=σ) (σ':=σ) (k:=j) (l:=ms.map markD) (d:=markD (t.length,kk,decide (h>0))) v9s rfl v9t ?_ hj (by simp;exact Nat.le_trans (by assumption) (Nat.le_of_ble_eq_true rfl))
  · rw [ha,List.map_append];rfl
  · rw [q0b]
    refine q3c v9u ?_
    rw [v9v]
    refine q0e ?_ (q0e v9y (q0e v9z q0o))
    rw [q0b]
    exact q0l (f:="len") v9w (by kernel_rfl) v9x (q2v (n:=t.length) rfl (by exact Nat.le_trans (by assumption) (Nat.le_of_ble_eq_true rfl)))
theorem w0a:isAsg "text" (sTb 3)=true:=by kernel_rfl
theorem w0b:isBin .Add (valOf (sTb 3))=true:=by kernel_rfl
theorem w0c {t:D}:(recN GG (n+86)).ev cT (LT script cells rules row faulty (some t) plain numbers heights marks head due k sign told vn closed right word) σ (binL (valOf (sTb 3)))=some (t,σ):=by kernel_rfl
theorem w0d {t:D}:(recN GG (n+86)).ev cT (LT script cells rules row faulty text plain numbers heights marks head due k (some t) told vn closed right word) σ (binR (valOf (sTb 3)))=some (t,σ):=by kernel_rfl
theorem k7q {t s:List Nat} (h:t.length+s.length≤LIM):(recN GG (n+88)).ex cT (LT script cells rules row faulty (some (.str t)) plain numbers heights marks head due k (some (.str s)) told vn closed right word) σ (sTb 3) =
    some (.next,LT script cells rules row faulty (some (.str (t++s))) plain numbers heights marks head due k (some (.str s)) told vn closed right word,σ):=by
  refine q0p (n:=n+87) (x:="text") w0a (by kernel_rfl) (by kernel_rfl) ?_
  rw [q0b]
  exact q0r (σ1:=σ) w0b rfl w0c w0d (q1n h)
end
theorem z1t {n:Nat} {script cells row faulty vn closed right word:Option D} {r0 r1 r2:q3d}:∀ (r:List q0h) (t w:List Nat) (nums:List Int) (hs:List Int) (a:Int) (ms:List (Nat × Nat × Bool)) (head due k sign told:Option D),(∀ p∈r,q8q p)→
    t.length+20*r.length≤900→w.length+20*r.length≤900→nums.length+21*r.length≤900→hs.length+r.length≤900→ms.length+r.length≤900→
    ∃ head' due' k' sign' told',forItems (recN GG (n+88)) cT (targetOf (sT 5)) (bodyOf (sT 5)) (LT script cells (some (rulesD [r0,r1,r2])) row faulty (some (.str t)) (some (.str w)) (some (.list (nums.map .int))) (some (.loc 0)) (some (.loc 1)) head due k sign told vn closed right word) [(hs++[a]).map .int,ms.map markD] (r.map pieceD) =
      some (.next,LT script cells (some (rulesD [r0,r1,r2])) row faulty (some (.str (t++textOf r))) (some (.str (w++plainRow r))) (some (.list ((nums++numsRow [r0,r1,r2] r).map .int))) (some (.loc 0)) (some (.loc 1)) head' due' k' sign' told' vn closed right word,
        [(hs++a::htsS a r).map .int,(ms++marksOf t.length r).map markD])
  | [],t,w,nums,hs,a,ms,head,due,k,sign,told,_,_,_,_,_,_=>⟨head,due,k,sign,told,by
      simp only [List.map_nil,textOf,List.flatten_nil,List.append_nil,plainRow,List.flatMap_nil,numsRow,show htsS a []=[] from rfl,show marksOf t.length []=[] from rfl];rfl⟩
  | p::r,t,w,nums,hs,a,ms,head,due,k,sign,told,hsm,ht,hw,hnu,hhs,hms=>by
    have sp:=hsm p List.mem_cons_self
    have hsm':∀ q∈r,q8q q:=fun q hq=>hsm q (List.mem_cons_of_mem _ hq)
    have hL:LIM=65536:=rfl
    have s1:=sp.sign
    have s2:=sp.told
    simp only [List.length_cons] at ht hw hnu hhs hms
    have hfl:((p.told.filter (0<·)).map Int.toNat).length≤20:=by
      rw [List.length_map]
      exact Nat.le_trans (List.length_filter_le _ _) sp.told
    have hns:(numsOf p.sign).length≤p.sign.length:=List.length_filterMap_le ..
    rw [List.map_cons]
    have c1:=k7m (n:=n) (script:=script) (cells:=cells) (rules:=some (rulesD [r0,r1,r2])) (row:=row) (faulty:=faulty) (text:=some (.str t)) (numbers:=some (.list (nums.map .int))) (heights:=some (.loc 0)) (marks:=some (.loc 1)) (head:=some (.int p.head)) (due:=some (.int p.due)) (k:=some (.int p.k)) (sign:=some (.str p.sign)) (vn:=vn) (closed:=closed) (right:=right) (word:=word) (σ:=[(hs++[a]).map .int,ms.map markD]) (w:=w) (tl:=p.told) sp.toldI (by exact Nat.le_trans (by assumption) (Nat.le_of_ble_eq_true rfl)) (by omega)
    have c2:=k7n (n:=n) (script:=script) (cells:=cells) (r0:=r0) (r1:=r1) (r2:=r2) (row:=row) (faulty:=faulty) (text:=some (.str t)) (plain:=some (.str (w++(p.told.filter (0<·)).map Int.toNat))) (heights:=some (.loc 0)) (marks:=some (.loc 1)) (head:=some (.int p.head)) (due:=some (.int p.due)) (told:=some (.list (p.told.map .int))) (vn:=vn) (closed:=closed) (right:=right) (word:=word) (σ:=[(hs++[a]).map .int,ms.map markD]) (nums:=nums) (s:=p.sign) (k:=p.k) (by assumption) (by omega)
    obtain ⟨ex,hex⟩:∃ ex,ex=(numsOf p.sign++(if p.k<3 then [(ruleAt [r0,r1,r2] p.k).num] else [])):=⟨_,rfl⟩
    rw [← hex] at c2
    have hexl:ex.length≤21:=by
      have hk1:(if p.k<3 then [(ruleAt [r0,r1,r2] p.k).num] else []).length≤1:=by split<;>simp
      rw [hex,List.length_append];omega
    have c3:(recN GG (n+88)).ex cT (LT script cells (some (rulesD [r0,r1,r2])) row faulty (some (.str t)) (some (.str (w++(p.told.filter (0<·)).map Int.toNat))) (some (.list ((nums++ex).map .int))) (some (.loc 0)) (some (.loc 1)) (some (.int p.head)) (some (.int p.due)) (some (.int p.k)) (some (.str p.sign)) (some (.list (p.told.map .int))) vn closed right word) [(hs++[a]).map .int,ms.map markD] (sTb 2) =
        some (.next,LT script cells (some (rulesD [r0,r1,r2])) row faulty (some (.str t)) (some (.str (w++(p.told.filter (0<·)).map Int.toNat))) (some (.list ((nums++ex).map .int))) (some (.loc 0)) (some (.loc 1)) (some (.int p.head)) (some (.int p.due)) (some (.int p.k)) (some (.str p.sign)) (some (.list (p.told.map .int))) vn closed right word,
          if p.k<3 then [(hs++[a]++[a+(if p.head>0 then 1 else -1)]).map .int,(ms++[(t.length,p.k,decide (p.head>0))]).map markD] else [(hs++[a]).map .int,ms.map markD]):=by
      rw [q0m,q1s v9e v9f]
      by_cases hk:p.k<3
      · rw [if_pos (decide_eq_true (by omega)),if_pos hk,v9h,q0c (k7o (j:=0) (hs:=hs) (a:=a) rfl (by omega))]
        refine (q0c (k7p (j:=1) (ms:=ms) rfl (by omega) (by omega))).trans q0j
      · rw [if_neg (by simp only [decide_eq_true_eq];omega),if_neg hk,v9g]
        exact q0j
    have c4:=k7q (n:=n) (script:=script) (cells:=cells) (rules:=some (rulesD [r0,r1,r2])) (row:=row) (faulty:=faulty) (plain:=some (.str (w++(p.told.filter (0<·)).map Int.toNat))) (numbers:=some (.list ((nums++ex).map .int))) (heights:=some (.loc 0)) (marks:=some (.loc 1)) (head:=some (.int p.head)) (due:=some (.int p.due)) (k:=some (.int p.k)) (told:=some (.list (p.told.map .int))) (vn:=vn) (closed:=closed) (right:=right) (word:=word)
      (σ:=if p.k<3 then [(hs++[a]++[a+(if p.head>0 then 1 else -1)]).map .int,(ms++[(t.length,p.k,decide (p.head>0))]).map markD] else [(hs++[a]).map .int,ms.map markD]) (t:=t) (s:=p.sign) (by omega)
    have hb:=(congrArg (exs (recN GG (n+88)) cT (LT script cells (some (rulesD [r0,r1,r2])) row faulty (some (.str t)) (some (.str w)) (some (.list (nums.map .int))) (some (.loc 0)) (some (.loc 1)) (some (.int p.head)) (some (.int p.due)) (some (.int p.k)) (some (.str p.sign)) (some (.list (p.told.map .int))) vn closed right word) [(hs++[a]).map .int,ms.map markD]) v2n).trans ((q0c c1).trans ((q0c c2).trans ((q0c c3).trans ((q0c c4).trans q0j))))
    rw [q1i v2m hb]
    have e1:textOf (p::r)=p.sign++textOf r:=rfl
    have e2:plainRow (p::r)=(p.told.filter (0<·)).map Int.toNat++plainRow r:=rfl
    have e3:numsRow [r0,r1,r2] (p::r)=ex++numsRow [r0,r1,r2] r:=by rw [hex];rfl
    rw [e1,e2,e3,← List.append_assoc t,← List.append_assoc w,← List.append_assoc nums]
    have el:(t++p.sign).length=t.length+p.sign.length:=List.length_append ..
    by_cases hk:p.k<3
    · rw [if_pos hk]
      refine z9n (z1t (n:=n) (script:=script) (cells:=cells) (row:=row) (faulty:=faulty) (vn:=vn) (closed:=closed) (right:=right) (word:=word) (r0:=r0) (r1:=r1) (r2:=r2) r (t++p.sign) (w++(p.told.filter (0<·)).map Int.toNat) (nums++ex) (hs++[a]) (a+(if p.head>0 then 1 else -1)) (ms++[(t.length,p.k,decide (p.head>0))]) (some (.int p.head)) (some (.int p.due)) (some (.int p.k)) (some (.str p.sign)) (some (.list (p.told.map .int))) hsm' (by omega) (by rw [List.length_append];omega) (by rw [List.length_append];omega) (by simp;omega) (by simp;omega)) ?_;intro a1 a2 a3 a4 a5 ih
      refine ⟨a1,a2,a3,a4,a5,ih.trans ?_⟩
      have m1:marksOf t.length (p::r)=(t.length,p.k,decide (p.head>0))::marksOf (t.length+p.sign.length) r:=by simp only [q2s,hk,if_true];rfl
      have m2:htsS a (p::r)=(a+(if p.head>0 then 1 else -1))::htsS (a+(if p.head>0 then 1 else -1)) r:=by simp only [z0b,hk,if_true]
      rw [m1,m2,el]
      simp
    · rw [if_neg hk]
      refine z9n (z1t (n:=n) (script:=script) (cells:=cells) (row:=row) (faulty:=faulty) (vn:=vn) (closed:=closed) (right:=right) (word:=word) (r0:=r0) (r1:=r1) (r2:=r2) r (t++p.sign) (w++(p.told.filter (0<·)).map Int.toNat) (nums++ex) hs a ms (some (.int p.head)) (some (.int p.due)) (some (.int p.k)) (some (.str p.sign)) (some (.list (p.told.map .int))) hsm' (by omega) (by rw [List.length_append];omega) (by rw [List.length_append];omega) (by omega) (by omega)) ?_;intro a1 a2 a3 a4 a5 ih
      refine ⟨a1,a2,a3,a4,a5,ih.trans ?_⟩
      have m1:marksOf t.length (p::r)=marksOf (t.length+p.sign.length) r:=by simp only [q2s,hk,if_false];rfl
      have m2:htsS a (p::r)=htsS a r:=by simp only [z0b,hk,if_false]
      rw [m1,m2,el]
set_option maxRecDepth 100000
set_option maxHeartbeats 4000000
section
variable {G:Gl} {R:Rec} {c:Cx} {L L':Loc} {σ σ':Sto} {d:D}
end
theorem q4m {m:Nat} {σ:Sto} {x:List Nat} (hx:x.length+2≤LIM):callD GG (recN GG (m+30)) σ (sO fC) [.str x]=some (.bool (checkS x),σ):=
  q0s (f:=fC) (by kernel_rfl) rfl (z7i hx)
theorem z7o:∀ (l:List Int),intsOfD (l.map .int)=some l
  | []=>rfl
  | _::l=>ms (z7o l)
theorem j5b {R:Rec} {σ:Sto} {j:Nat} {a:Int} {r:List Int} (h:σ[j]?=some ((a::r).map .int)) (hm:minI a r≤0):callD GG R σ (sO "min") [.loc j]=some (.int (minI a r),σ):=by
  have hk:lenOk (.int (minI a r))=true:=by
    generalize minI a r=x at hm
    cases x with
    | ofNat n=>
      have:n=0:=by
        have:(Int.ofNat n:Int)=(n:Int):=rfl
        omega
      subst this;rfl
    | negSucc n=>rfl
  have h3:builtinD σ (sO "min") [.loc j]=(σ[j]?).bind fun l=>(intsOfD l).bind (overD minI):=by kernel_rfl
  exact q6a (by kernel_rfl) (by kernel_rfl) (h3.trans (bs h (bs (z7o (a::r)) rfl))) hk
theorem j5c:∀ (l:List Int) (m:Int),minI m l≤m
  | [],m=>Int.le_refl _
  | a::l,m=>by
    have e:minI m (a::l)=minI (if a<m then a else m) l:=rfl
    rw [e]
    have:=j5c l (if a<m then a else m)
    by_cases h:a<m
    · rw [if_pos h] at this ⊢;omega
    · rw [if_neg h] at this ⊢;assumption
section
variable {n:Nat} {script cells rules row faulty text plain numbers heights marks head due k sign told vn closed right word:Option D} {σ:Sto} {r0 r1 r2:q3d} {ns:List Int}
theorem w0e:isForSeq GG cT (LT script cells rules row faulty text plain numbers heights marks head due k sign told vn closed right word) (sT 6)=true:=by kernel_rfl
theorem w0f:isBin .Add (iterOf (sT 6))=true:=by kernel_rfl
theorem w0g:isCut (binL (iterOf (sT 6)))=true:=by kernel_rfl
theorem w0h {l:D}:(recN GG (n+86)).ev cT (LT (some l) cells rules row faulty text plain numbers heights marks head due k sign told vn closed right word) σ (itemO (binL (iterOf (sT 6))))=some (l,σ):=by kernel_rfl
theorem w0i {R:Rec} {L:Loc}:evOpt R cT L σ (cutLo (binL (iterOf (sT 6))))=some (none,σ):=by kernel_rfl
theorem w0j {L:Loc}:evOpt (recN GG (n+86)) cT L σ (cutHi (binL (iterOf (sT 6))))=some (some ((9:Nat):Int),σ):=by kernel_rfl
noncomputable def judged:List Int:=[-256,-1,0,1,255,256,257]
theorem w0k {L:Loc}:(recN GG (n+87)).ev cT L σ (binR (iterOf (sT 6)))=some (.list (judged.map .int),σ):=by kernel_rfl
theorem k7r (hn:ns.length≤63):(recN GG (n+88)).ev cT (LT (some (.list (ns.map .int))) cells rules row faulty text plain numbers heights marks head due k sign told vn closed right word) σ (iterOf (sT 6))=some (.list ((ns.take 9++judged).map .int),σ):=by
  have hL:LIM=65536:=rfl
  have hl:(ns.take 9).length≤9:=List.length_take_le ..
  have hj:judged.length=7:=rfl
  rw [q0b]
  refine q0r (a:=.list ((ns.take 9).map .int)) (b:=.list (judged.map .int)) (σ1:=σ) w0f rfl ?_ w0k ?_
  · rw [q0b]
    refine q5c w0g w0h w0i w0j ?_
    rw [q8h (by rw [List.length_map];exact Nat.le_trans (by assumption) (Nat.le_of_ble_eq_true rfl)),List.map_take]
  · rw [q2e (by rw [List.length_map,List.length_map];omega),List.map_append]
theorem w0l {x:Int}:give cT.sc σ (targetOf (sT 6)) (.int x) (LT script cells rules row faulty text plain numbers heights marks head due k sign told vn closed right word)=some (LT script cells rules row faulty text plain numbers heights marks head due k sign told (some (.int x)) closed right word):=by kernel_rfl
noncomputable abbrev sTi:Stmt:=sel (bodyOf (sT 6)) 0
theorem w0m:bodyOf (sT 6)=[sTi]:=by kernel_rfl
theorem w0n:isIf sTi=true:=by kernel_rfl
theorem w0o:elseOf sTi=[]:=by kernel_rfl
theorem v5d:isOr (testOf sTi)=true:=by kernel_rfl
noncomputable abbrev eTi (i:Nat):PySem.Expr:=(boolEs (testOf sTi)).getD i noE
theorem v5e:boolEs (testOf sTi)=[eTi 0,eTi 1,eTi 2]:=by kernel_rfl
theorem v5f:isCmp .IsNot (eTi 0)=true:=by kernel_rfl
theorem v5g:isCmp .IsNot (eTi 1)=true:=by kernel_rfl
theorem v5h:isCmp .IsNot (eTi 2)=true:=by kernel_rfl
theorem v5i:isCall GG cT "ISTERMINAL" (cmpL (eTi 0))=true:=by kernel_rfl
theorem v5j:isCall GG cT "ISNONTERMINAL" (cmpL (eTi 1))=true:=by kernel_rfl
theorem v5k:isCall GG cT "ISEOF" (cmpL (eTi 2))=true:=by kernel_rfl
theorem v5l {x:Int}:evs (recN GG (n+83)) cT (LT script cells rules row faulty text plain numbers heights marks head due k sign told (some (.int x)) closed right word) σ (methA (cmpL (eTi 0)))=some ([.int x],σ):=by kernel_rfl
theorem v5m {x:Int}:evs (recN GG (n+83)) cT (LT script cells rules row faulty text plain numbers heights marks head due k sign told (some (.int x)) closed right word) σ (methA (cmpL (eTi 1)))=some ([.int x],σ):=by kernel_rfl
theorem v5n {x:Int}:evs (recN GG (n+83)) cT (LT script cells rules row faulty text plain numbers heights marks head due k sign told (some (.int x)) closed right word) σ (methA (cmpL (eTi 2)))=some ([.int x],σ):=by kernel_rfl
theorem v5o {x:Int}:(recN GG (n+84)).ev cT (LT script cells rules row faulty text plain numbers heights marks head due k sign told (some (.int x)) closed right word) σ (cmpR (eTi 0))=some (.bool (decide (x<256)),σ):=by kernel_rfl
theorem v5p {x:Int}:(recN GG (n+84)).ev cT (LT script cells rules row faulty text plain numbers heights marks head due k sign told (some (.int x)) closed right word) σ (cmpR (eTi 1))=some (.bool (decide (256≤x)),σ):=by kernel_rfl
theorem v5q {x:Int}:(recN GG (n+84)).ev cT (LT script cells rules row faulty text plain numbers heights marks head due k sign told (some (.int x)) closed right word) σ (cmpR (eTi 2))=some (.bool (x==0),σ):=by kernel_rfl
theorem k7s {x:Int}:(recN GG (n+86)).ts cT (LT script cells rules row faulty text plain numbers heights marks head due k sign told (some (.int x)) closed right word) σ (testOf sTi)=some (false,σ):=by
  rw [q0u,j2b v5d,v5e]
  have h0:(recN GG (n+85)).ts cT (LT script cells rules row faulty text plain numbers heights marks head due k sign told (some (.int x)) closed right word) σ (eTi 0)=some (false,σ):=by
    rw [q0u]
    refine q1l (σ1:=σ) v5f ?_ v5o q2m
    rw [q0b]
    exact q0l (f:="ISTERMINAL") v5i (by kernel_rfl) v5l (q0s (f:="ISTERMINAL") (by kernel_rfl) rfl (q5r (n:=n+78)))
  have h1:(recN GG (n+85)).ts cT (LT script cells rules row faulty text plain numbers heights marks head due k sign told (some (.int x)) closed right word) σ (eTi 1)=some (false,σ):=by
    rw [q0u]
    refine q1l (σ1:=σ) v5g ?_ v5p q2m
    rw [q0b]
    exact q0l (f:="ISNONTERMINAL") v5j (by kernel_rfl) v5m (q0s (f:="ISNONTERMINAL") (by kernel_rfl) rfl (q3j (n:=n+78)))
  have h2:(recN GG (n+85)).ts cT (LT script cells rules row faulty text plain numbers heights marks head due k sign told (some (.int x)) closed right word) σ (eTi 2)=some (false,σ):=by
    rw [q0u]
    refine q1l (σ1:=σ) v5h ?_ v5q q2m
    rw [q0b]
    exact q0l (f:="ISEOF") v5k (by kernel_rfl) v5n (q0s (f:="ISEOF") (by kernel_rfl) rfl (z7n (n:=n+78)))
  exact q2a h0 fun zz=>q2a h1 fun zz=>q2a h2 fun zz=>q9y
theorem j5d:∀ (l:List Int) (vn:Option D),∃ vn',forItems (recN GG (n+88)) cT (targetOf (sT 6)) (bodyOf (sT 6)) (LT script cells rules row faulty text plain numbers heights marks head due k sign told vn closed right word) σ (l.map .int) =
    some (.next,LT script cells rules row faulty text plain numbers heights marks head due k sign told vn' closed right word,σ)
  | [],vn=>⟨vn,rfl⟩
  | x::l,vn=>by
    obtain ⟨vn',e⟩:=j5d l (some (.int x))
    refine ⟨vn',?_⟩
    have hb:exs (recN GG (n+88)) cT (LT script cells rules row faulty text plain numbers heights marks head due k sign told (some (.int x)) closed right word) σ (bodyOf (sT 6))=some (.next,LT script cells rules row faulty text plain numbers heights marks head due k sign told (some (.int x)) closed right word,σ):=by
      rw [w0m]
      refine (q0c ?_).trans q0j
      rw [q0m,q1s w0n (k7s (n:=n+1)),if_neg Bool.false_ne_true,w0o]
      exact q0j
    rw [List.map_cons,q1i w0l hb]
    exact e
theorem v2o (hn:ns.length≤63):∃ vn',(recN GG (n+89)).ex cT (LT (some (.list (ns.map .int))) cells rules row faulty text plain numbers heights marks head due k sign told vn closed right word) σ (sT 6)=some (.next,LT (some (.list (ns.map .int))) cells rules row faulty text plain numbers heights marks head due k sign told vn' closed right word,σ):=by
  have hL:LIM=65536:=rfl
  obtain ⟨vn',e⟩:=j5d (n:=n) (script:=some (.list (ns.map .int))) (cells:=cells) (rules:=rules) (row:=row) (faulty:=faulty) (text:=text) (plain:=plain) (numbers:=numbers) (heights:=heights) (marks:=marks) (head:=head) (due:=due) (k:=k) (sign:=sign) (told:=told) (closed:=closed) (right:=right) (word:=word) (σ:=σ) (ns.take 9++judged) vn
  refine ⟨vn',?_⟩
  have hl:(ns.take 9).length≤9:=List.length_take_le ..
  have hj:judged.length=7:=rfl
  rw [q8f (n:=n+88) w0e (k7r hn) rfl (by rw [List.length_map,List.length_append];omega)]
  exact e
theorem w0p:isAsg "closed" (sT 7)=true:=by kernel_rfl
theorem w0q:isCall GG cT fC (valOf (sT 7))=true:=by kernel_rfl
theorem w0r {t:D}:evs (recN GG (n+87)) cT (LT script cells rules row faulty (some t) plain numbers heights marks head due k sign told vn closed right word) σ (methA (valOf (sT 7)))=some ([t],σ):=by kernel_rfl
theorem k7t {t:List Nat} (ht:t.length+2≤LIM):(recN GG (n+89)).ex cT (LT script cells rules row faulty (some (.str t)) plain numbers heights marks head due k sign told vn closed right word) σ (sT 7)=some (.next,LT script cells rules row faulty (some (.str t)) plain numbers heights marks head due k sign told vn (some (.bool (checkS t))) right word,σ):=by
  refine q0p (n:=n+88) (x:="closed") (d:=.bool (checkS t)) w0p (by kernel_rfl) (by kernel_rfl) ?_
  rw [q0b]
  exact q0l (f:=fC) w0q (by kernel_rfl) w0r (q4m (m:=n+57) ht)
theorem w0s:isIf (sT 8)=true:=by kernel_rfl
theorem w0t:elseOf (sT 8)=[]:=by kernel_rfl
theorem w0u:isOr (testOf (sT 8))=true:=by kernel_rfl
noncomputable abbrev eTh (i:Nat):PySem.Expr:=(boolEs (testOf (sT 8))).getD i noE
theorem w0v:boolEs (testOf (sT 8))=[eTh 0,eTh 1]:=by kernel_rfl
theorem w0w:isCmp .IsNot (eTh 0)=true:=by kernel_rfl
theorem w0x {b:D}:(recN GG (n+86)).ev cT (LT script cells rules row faulty text plain numbers heights marks head due k sign told vn (some b) right word) σ (cmpL (eTh 0))=some (b,σ):=by kernel_rfl
theorem w0y:isAnd (cmpR (eTh 0))=true:=by kernel_rfl
noncomputable abbrev eTg (i:Nat):PySem.Expr:=(boolEs (cmpR (eTh 0))).getD i noE
theorem w0z:boolEs (cmpR (eTh 0))=[eTg 0,eTg 1]:=by kernel_rfl
theorem w1a:isCmp .Eq (eTg 0)=true:=by kernel_rfl
theorem w1b:isCall GG cT "min" (cmpL (eTg 0))=true:=by kernel_rfl
theorem w1c {j:Nat}:evs (recN GG (n+83)) cT (LT script cells rules row faulty text plain numbers (some (.loc j)) marks head due k sign told vn closed right word) σ (methA (cmpL (eTg 0)))=some ([.loc j],σ):=by kernel_rfl
theorem w1d {L:Loc}:(recN GG (n+84)).ev cT L σ (cmpR (eTg 0))=some (.int 0,σ):=by kernel_rfl
theorem v5r:isCmp .Eq (eTg 1)=true:=by kernel_rfl
theorem v5s:isItem (cmpL (eTg 1))=true:=by kernel_rfl
theorem v5t {j:Nat}:(recN GG (n+83)).ev cT (LT script cells rules row faulty text plain numbers (some (.loc j)) marks head due k sign told vn closed right word) σ (itemO (cmpL (eTg 1)))=some (.loc j,σ):=by kernel_rfl
theorem v5u {L:Loc}:(recN GG (n+83)).ev cT L σ (itemI (cmpL (eTg 1)))=some (.int (-1),σ):=by kernel_rfl
theorem v5v {L:Loc}:(recN GG (n+84)).ev cT L σ (cmpR (eTg 1))=some (.int 0,σ):=by kernel_rfl
theorem v5w:isCmp .IsNot (eTh 1)=true:=by kernel_rfl
theorem v5x:isCall GG cT fC (cmpL (eTh 1))=true:=by kernel_rfl
noncomputable abbrev eTx:PySem.Expr:=(methA (cmpL (eTh 1))).getD 0 noE
theorem v5y:methA (cmpL (eTh 1))=[eTx]:=by kernel_rfl
theorem v5z:isBin .Add eTx=true:=by kernel_rfl
theorem v6a {t:D}:(recN GG (n+84)).ev cT (LT script cells rules row faulty (some t) plain numbers heights marks head due k sign told vn closed right word) σ (binL eTx)=some (t,σ):=by kernel_rfl
theorem v6b {L:Loc}:(recN GG (n+84)).ev cT L σ (binR eTx)=some (.str [34,92],σ):=by kernel_rfl
theorem v6c {b:D}:(recN GG (n+86)).ev cT (LT script cells rules row faulty text plain numbers heights marks head due k sign told vn (some b) right word) σ (cmpR (eTh 1))=some (b,σ):=by kernel_rfl
theorem z0j (a:Int):∀ (l:List Int),∃ hs,a::l=hs++[lastI a l]∧hs.length=l.length
  | []=>⟨[],rfl,rfl⟩
  | b::l=>by
    refine q0a (z0j b l) ?_;intro hs h1 h2
    rw [q8k]
    exact ⟨a::hs,by rw [h1];rfl,by simp [h2]⟩
theorem k7u {t:List Nat} {hts:List Int} {b:Bool} (hl:hts.length≤900) (hσ:σ[0]?=some ((0::hts).map .int)) (hb:(minI 0 hts==0&&(lastI 0 hts==0))=b) (ht:t.length+10≤LIM) (hc:checkS (t++[34,92])=b) :
    (recN GG (n+89)).ex cT (LT script cells rules row faulty (some (.str t)) plain numbers (some (.loc 0)) marks head due k sign told vn (some (.bool b)) right word) σ (sT 8)=some (.next,LT script cells rules row faulty (some (.str t)) plain numbers (some (.loc 0)) marks head due k sign told vn (some (.bool b)) right word,σ):=by
  have hmin:(recN GG (n+86)).ev cT (LT script cells rules row faulty (some (.str t)) plain numbers (some (.loc 0)) marks head due k sign told vn (some (.bool b)) right word) σ (cmpR (eTh 0))=some (.bool b,σ):=by
    rw [q0b,z3n w0y,w0z,← hb]
    refine q2q (v:=(minI 0 hts==0)) (w:=(lastI 0 hts==0)) ?_ fun zz=>?_
    · rw [q0b]
      refine q4j (a:=.int (minI 0 hts)) (b:=.int 0) (σ1:=σ) w1a ?_ w1d rfl
      rw [q0b]
      exact q0l (f:="min") w1b (by kernel_rfl) w1c (j5b hσ (j5c _ _))
    · rw [z1l,q0b]
      refine q4j (a:=.int (lastI 0 hts)) (b:=.int 0) (σ1:=σ) v5r ?_ v5v rfl
      rw [q0b]
      refine q0a (z0j 0 hts) ?_;intro hs h1 h2
      refine q0z v5s v5t v5u (z4a (l:=hs) (a:=lastI 0 hts) ?_ (by omega))
      rw [hσ,h1]
  have h0:(recN GG (n+87)).ts cT (LT script cells rules row faulty (some (.str t)) plain numbers (some (.loc 0)) marks head due k sign told vn (some (.bool b)) right word) σ (eTh 0)=some (false,σ):=by
    rw [q0u]
    exact q1l (σ1:=σ) w0w w0x hmin q2m
  have h1:(recN GG (n+87)).ts cT (LT script cells rules row faulty (some (.str t)) plain numbers (some (.loc 0)) marks head due k sign told vn (some (.bool b)) right word) σ (eTh 1)=some (false,σ):=by
    rw [q0u]
    refine q1l (a:=.bool b) (b:=.bool b) (σ1:=σ) v5w ?_ v6c q2m
    rw [q0b]
    have hl:(t++[34,92]).length=t.length+2:=by simp
    have hcall:=q4m (m:=n+55) (σ:=σ) (x:=t++[34,92]) (by omega)
    rw [hc] at hcall
    refine q0l (f:=fC) (ds:=[.str (t++[34,92])]) v5x (by kernel_rfl) ?_ hcall
    rw [v5y]
    refine q0e ?_ q0o
    rw [q0b]
    exact q0r (σ1:=σ) v5z rfl v6a v6b (q1n (by simp only [List.length_cons,List.length_nil];omega))
  have ht:(recN GG (n+88)).ts cT (LT script cells rules row faulty (some (.str t)) plain numbers (some (.loc 0)) marks head due k sign told vn (some (.bool b)) right word) σ (testOf (sT 8))=some (false,σ):=by
    rw [q0u,j2b w0u,w0v]
    exact q2a h0 fun zz=>q2a h1 fun zz=>q9y
  rw [q0m,q1s w0s ht,if_neg Bool.false_ne_true,w0t]
  exact q0j
theorem w1e:isIf (sT 9)=true:=by kernel_rfl
theorem w1f:elseOf (sT 9)=[]:=by kernel_rfl
theorem w1g:isOr (testOf (sT 9))=true:=by kernel_rfl
noncomputable abbrev eTs (i:Nat):PySem.Expr:=(boolEs (testOf (sT 9))).getD i noE
theorem w1h:boolEs (testOf (sT 9))=[eTs 0,eTs 1]:=by kernel_rfl
theorem w1i:isCmp .IsNot (eTs 0)=true:=by kernel_rfl
theorem w1j:isCall GG cT fC (cmpL (eTs 0))=true:=by kernel_rfl
noncomputable abbrev eTy:PySem.Expr:=(methA (cmpL (eTs 0))).getD 0 noE
theorem w1k:methA (cmpL (eTs 0))=[eTy]:=by kernel_rfl
theorem w1l:isBin .Add eTy=true:=by kernel_rfl
theorem w1m {t:D}:(recN GG (n+84)).ev cT (LT script cells rules row faulty (some t) plain numbers heights marks head due k sign told vn closed right word) σ (binL eTy)=some (t,σ):=by kernel_rfl
theorem w1n {L:Loc}:(recN GG (n+84)).ev cT L σ (binR eTy)=some (.str [34,40,92],σ):=by kernel_rfl
theorem w1o {L:Loc}:(recN GG (n+86)).ev cT L σ (cmpR (eTs 0))=some (.bool false,σ):=by kernel_rfl
theorem w1p:isCmp .NotEq (eTs 1)=true:=by kernel_rfl
theorem v6d:isCall GG cT fN (cmpL (eTs 1))=true:=by kernel_rfl
theorem v6e {t:D}:evs (recN GG (n+85)) cT (LT script cells rules row faulty (some t) plain numbers heights marks head due k sign told vn closed right word) σ (methA (cmpL (eTs 1)))=some ([t],σ):=by kernel_rfl
theorem v6f {a b:D}:(recN GG (n+86)).ev cT (LT script cells rules row faulty text (some a) (some b) heights marks head due k sign told vn closed right word) σ (cmpR (eTs 1))=some (.tup [b,a],σ):=by kernel_rfl
theorem z7p {σ:Sto} {nums:List Int} {w:List Nat}:res σ 0 resFuel (.tup [.list (nums.map .int),.str w])=some (.tup [.list (nums.map .int),.str w]):=by
  have h3:=q2l (f:=res σ 0 4) (g:=D.int) (fun a=>rfl) nums
  simp only [z2a,z2b,z2c,z2d,z2e,z2f,resFuel,q7k,q7l,Option.bind_some,Option.map_some,h3]
theorem k0p {σ:Sto} {tab:List (Str × Int)} {nums:List Int} {w:List Nat}:cmpD tab σ .NotEq (.tup [.list (nums.map .int),.str w]) (.tup [.list (nums.map .int),.str w])=some false:=by
  have h4:=j2c (m:=3) nums
  have e1:eqD 5 (.list (nums.map .int)) (.list (nums.map .int))=some true:=(if_pos rfl).trans h4
  have e2:eqL (eqD 5) [.str w] [.str w]=some ((w==w)&&true):=rfl
  have e3:eqL (eqD 5) [.list (nums.map .int),.str w] [.list (nums.map .int),.str w]=some (true&&((w==w)&&true)):=bs e1 (ms e2)
  have h6:eqD resFuel (.tup [.list (nums.map .int),.str w]) (.tup [.list (nums.map .int),.str w])=some (true&&((w==w)&&true)):=by
    have hz:[D.list (nums.map D.int),D.str w].length=[D.list (nums.map D.int),D.str w].length:=rfl
    have h5:eqD resFuel (.tup [.list (nums.map .int),.str w]) (.tup [.list (nums.map .int),.str w])=eqL (eqD 5) [.list (nums.map .int),.str w] [.list (nums.map .int),.str w]:=if_pos (e:=(none:Option Bool)) hz
    exact h5.trans e3
  have h7:((res σ 0 resFuel (.tup [.list (nums.map .int),.str w])).bind fun a=>(res σ 0 resFuel (.tup [.list (nums.map .int),.str w])).bind fun b=>eqD resFuel a b)=some true:=bs z7p (bs z7p (h6.trans (by simp)))
  exact ms h7
theorem k7v {t w:List Nat} {nums:List Int} (hs:q2b GG.tab b1G b3G t nums w) (ht:t.length+10≤LIM) (hw:w.length≤LIM) (hn:nums.length≤LIM) (hc:checkS (t++[34,40,92])=false) :
    (recN GG (n+89)).ex cT (LT script cells rules row faulty (some (.str t)) (some (.str w)) (some (.list (nums.map .int))) heights marks head due k sign told vn closed right word) σ (sT 9)=some (.next,LT script cells rules row faulty (some (.str t)) (some (.str w)) (some (.list (nums.map .int))) heights marks head due k sign told vn closed right word,σ):=by
  have h0:(recN GG (n+87)).ts cT (LT script cells rules row faulty (some (.str t)) (some (.str w)) (some (.list (nums.map .int))) heights marks head due k sign told vn closed right word) σ (eTs 0)=some (false,σ):=by
    rw [q0u]
    refine q1l (a:=.bool false) (b:=.bool false) (σ1:=σ) w1i ?_ w1o q2m
    rw [q0b]
    have hl:(t++[34,40,92]).length=t.length+3:=by simp
    have hcall:=q4m (m:=n+55) (σ:=σ) (x:=t++[34,40,92]) (by omega)
    rw [hc] at hcall
    refine q0l (f:=fC) (ds:=[.str (t++[34,40,92])]) w1j (by kernel_rfl) ?_ hcall
    rw [w1k]
    refine q0e ?_ q0o
    rw [q0b]
    exact q0r (σ1:=σ) w1l rfl w1m w1n (q1n (by simp only [List.length_cons,List.length_nil];omega))
  have h1:(recN GG (n+87)).ts cT (LT script cells rules row faulty (some (.str t)) (some (.str w)) (some (.list (nums.map .int))) heights marks head due k sign told vn closed right word) σ (eTs 1)=some (false,σ):=by
    rw [q0u]
    refine q1l (σ1:=σ) w1p ?_ v6f k0p
    rw [q0b]
    exact q0l (f:=fN) v6d (by kernel_rfl) v6e (q0s (f:=fN) (by kernel_rfl) rfl (k6o (n:=n+55) hs (by omega) hw hn))
  have ht:(recN GG (n+88)).ts cT (LT script cells rules row faulty (some (.str t)) (some (.str w)) (some (.list (nums.map .int))) heights marks head due k sign told vn closed right word) σ (testOf (sT 9))=some (false,σ):=by
    rw [q0u,j2b w1g,w1h]
    exact q2a h0 fun zz=>q2a h1 fun zz=>q9y
  rw [q0m,q1s w1e ht,if_neg Bool.false_ne_true,w1f]
  exact q0j
theorem w1q:isAsg "right" (sT 10)=true:=by kernel_rfl
theorem w1r:isAnd (valOf (sT 10))=true:=by kernel_rfl
noncomputable abbrev eTr (i:Nat):PySem.Expr:=(boolEs (valOf (sT 10))).getD i noE
theorem w1s:boolEs (valOf (sT 10))=[eTr 0,eTr 1,eTr 2]:=by kernel_rfl
theorem w1t {b:D}:(recN GG (n+87)).ev cT (LT script cells rules row faulty text plain numbers heights marks head due k sign told vn (some b) right word) σ (eTr 0)=some (b,σ):=by kernel_rfl
theorem w1u:isCall GG cT fA (eTr 1)=true:=by kernel_rfl
theorem w1v {t m:D}:evs (recN GG (n+86)) cT (LT script cells rules row faulty (some t) plain numbers heights (some m) head due k sign told vn closed right word) σ (methA (eTr 1))=some ([t,m],σ):=by kernel_rfl
theorem w1w:isCmp .Eq (eTr 2)=true:=by kernel_rfl
theorem w1x:isBin .Add (cmpL (eTr 2))=true:=by kernel_rfl
theorem w1y:isBin .Add (cmpR (eTr 2))=true:=by kernel_rfl
noncomputable abbrev eTu:PySem.Expr:=binL (cmpL (eTr 2))
noncomputable abbrev eTv:PySem.Expr:=binR (cmpR (eTr 2))
theorem w1z:isComp cT (LT script cells rules row faulty text plain numbers heights marks head due k sign told vn closed right word) eTu=true:=by kernel_rfl
theorem v6g:isComp cT (LT script cells rules row faulty text plain numbers heights marks head due k sign told vn closed right word) eTv=true:=by kernel_rfl
theorem v6h {l:D}:(recN GG (n+84)).ev (cxI cT) (LT script cells rules (some l) faulty text plain numbers heights marks head due k sign told vn closed right word) σ (compG eTu).iter=some (l,σ):=by kernel_rfl
theorem v6i {l:D}:(recN GG (n+84)).ev (cxI cT) (LT script cells rules (some l) faulty text plain numbers heights marks head due k sign told vn closed right word) σ (compG eTv).iter=some (l,σ):=by kernel_rfl
theorem v6j {p:q0h}:give (cxC cT eTu).sc σ (compG eTu).target (pieceD p) (Loc.keep (compSc eTu) (LT script cells rules row faulty text plain numbers heights marks head due k sign told vn closed right word))=some [(sO "piece",some (pieceD p))]:=by kernel_rfl
theorem v6k {p:q0h}:give (cxC cT eTv).sc σ (compG eTv).target (pieceD p) (Loc.keep (compSc eTv) (LT script cells rules row faulty text plain numbers heights marks head due k sign told vn closed right word))=some [(sO "piece",some (pieceD p))]:=by kernel_rfl
theorem w2a:(compG eTu).ifs=[]:=by kernel_rfl
theorem w2b:(compG eTv).ifs=[]:=by kernel_rfl
theorem v6l {p:q0h}:(recN GG (n+83)).ev (cxC cT eTu) [(sO "piece",some (pieceD p))] σ (compE eTu)=some (.int p.head,σ):=by kernel_rfl
theorem v6m {p:q0h}:(recN GG (n+83)).ev (cxC cT eTv) [(sO "piece",some (pieceD p))] σ (compE eTv)=some (.int p.due,σ):=by kernel_rfl
theorem v6n {L:Loc}:(recN GG (n+85)).ev cT L σ (binR (cmpL (eTr 2)))=some (.list [.int 0],σ):=by kernel_rfl
theorem v6o {L:Loc}:(recN GG (n+85)).ev cT L σ (binL (cmpR (eTr 2)))=some (.list [.int 256],σ):=by kernel_rfl
theorem k0q {rw':List q0h} (hr:rw'.length≤28):(recN GG (n+85)).ev cT (LT script cells rules (some (.list (rw'.map pieceD))) faulty text plain numbers heights marks head due k sign told vn closed right word) σ eTu=some (.list ((rw'.map (·.head)).map .int),σ):=by
  have hL:LIM=65536:=rfl
  rw [q0b]
  refine q4k (items:=rw'.map pieceD) w1z v6h rfl (by rw [List.length_map];exact Nat.le_trans (by assumption) (Nat.le_of_ble_eq_true rfl)) ?_ (by rw [List.length_map,List.length_map];exact Nat.le_trans (by assumption) (Nat.le_of_ble_eq_true rfl))
  have hf:rw'.filter (fun zz=>true)=rw':=List.filter_eq_self.mpr fun zz zz=>rfl
  have hm:(rw'.map (·.head)).map D.int=(rw'.filter fun zz=>true).map fun p:q0h=>D.int p.head:=by
    rw [hf,List.map_map];rfl
  rw [hm]
  exact q6m (P:=fun zz=>true) _ fun p zz=>⟨[(sO "piece",some (pieceD p))],v6j,by rfl,fun zz=>q8g (σ':=σ) v6l⟩
theorem k7w {rw':List q0h} (hr:rw'.length≤28):(recN GG (n+85)).ev cT (LT script cells rules (some (.list (rw'.map pieceD))) faulty text plain numbers heights marks head due k sign told vn closed right word) σ eTv=some (.list ((rw'.map (·.due)).map .int),σ):=by
  have hL:LIM=65536:=rfl
  rw [q0b]
  refine q4k (items:=rw'.map pieceD) v6g v6i rfl (by rw [List.length_map];exact Nat.le_trans (by assumption) (Nat.le_of_ble_eq_true rfl)) ?_ (by rw [List.length_map,List.length_map];exact Nat.le_trans (by assumption) (Nat.le_of_ble_eq_true rfl))
  have hf:rw'.filter (fun zz=>true)=rw':=List.filter_eq_self.mpr fun zz zz=>rfl
  have hm:(rw'.map (·.due)).map D.int=(rw'.filter fun zz=>true).map fun p:q0h=>D.int p.due:=by
    rw [hf,List.map_map];rfl
  rw [hm]
  exact q6m (P:=fun zz=>true) _ fun p zz=>⟨[(sO "piece",some (pieceD p))],v6k,by rfl,fun zz=>q8g (σ':=σ) v6m⟩
theorem k7x {σ:Sto} {tab:List (Str × Int)} {a b:List Int} (h:a.length=b.length):cmpD tab σ .Eq (.list (a.map .int)) (.list (b.map .int))=some (a==b):=by
  have h3:=q2l (f:=res σ 0 5) (g:=D.int) (fun a=>rfl) a
  have h3':=q2l (f:=res σ 0 5) (g:=D.int) (fun a=>rfl) b
  have h4:=z5j (m:=4) a b h
  have h5:(a.map D.int).length=(b.map D.int).length:=by rw [List.length_map,List.length_map,h]
  exact bs (ms h3) (bs (ms h3') ((if_pos h5).trans h4))
theorem k7y {rw':List q0h} (hr:rw'.length≤28) (ok:∀ p∈rw',pieceOk p) (ht:(textOf rw').length+2≤LIM) (hσ:σ[1]?=some ((marksOf 0 rw').map markD)) {b:Bool} :
    (recN GG (n+89)).ex cT (LT script cells rules (some (.list (rw'.map pieceD))) faulty (some (.str (textOf rw'))) plain numbers heights (some (.loc 1)) head due k sign told vn (some (.bool b)) right word) σ (sT 10) =
      some (.next,LT script cells rules (some (.list (rw'.map pieceD))) faulty (some (.str (textOf rw'))) plain numbers heights (some (.loc 1)) head due k sign told vn (some (.bool b)) (some (.bool (b&&(alikeS rw'&&nb 256 rw')))) word,σ):=by
  have hL:LIM=65536:=rfl
  refine q0p (n:=n+88) (x:="right") (d:=.bool (b&&(alikeS rw'&&nb 256 rw'))) w1q (by kernel_rfl) (by kernel_rfl) ?_
  rw [q0b,z3n w1r,w1s]
  refine q2q w1t fun zz=>q2q (v:=alikeS rw') ?_ fun zz=>?_
  · rw [q0b]
    refine q0l (f:=fA) w1u (by kernel_rfl) w1v (j6y (f:=fA) (by kernel_rfl) (by rfl) (args':=[.str (textOf rw'),.list ((marksOf 0 rw').map markD)]) ?_ (k0g (n:=n+36) ok ht (by exact Nat.le_trans (by assumption) (Nat.le_of_ble_eq_true rfl))) rfl)
    have h3:=q2l (f:=res σ 0 5) (g:=markD) (fun a=>rfl) (marksOf 0 rw')
    simp only [q7k,q7l,z2a,z2b,z2c,z2d,z2e,z2f,resFuel,Nat.zero_le,if_true,hσ,Option.bind_some,h3,Option.map_some]
  · rw [← z7e]
    refine q4j (a:=.list (((rw'.map fun p:q0h=>p.head)++[(0:Int)]).map D.int)) (b:=.list (((256:Int)::rw'.map fun p:q0h=>p.due).map D.int)) (σ1:=σ) w1w ?_ ?_ (k7x (by simp only [List.length_append,List.length_map,List.length_cons,List.length_nil]))
    · rw [q0b]
      refine q0r (σ1:=σ) w1x rfl (k0q hr) v6n ?_
      rw [q2e (by simp;omega),List.map_append];rfl
    · rw [q0b]
      refine q0r (σ1:=σ) w1y rfl v6o (k7w hr) ?_
      rw [q2e (by simp;omega)];rfl
theorem w2c:isAsg "word" (sT 11)=true:=by kernel_rfl
theorem w2d:isCall GG cT fD' (valOf (sT 11))=true:=by kernel_rfl
theorem w2e {r' rw':D}:evs (recN GG (n+87)) cT (LT script cells (some r') (some rw') faulty text plain numbers heights marks head due k sign told vn closed right word) σ (methA (valOf (sT 11)))=some ([rw',r'],σ):=by kernel_rfl
theorem z9l (l:List q0h):l.all (fun p=>locFree 5 (pieceD p))=true:=by
  refine List.all_eq_true.mpr fun p zz=>?_
  have h:∀ (l:List Int),(l.map D.int).all (locFree 3)=true:=fun l=>by rw [List.all_map];exact List.all_eq_true.mpr fun zz zz=>rfl
  show (true&&(true&&(true&&(true&&((p.told.map D.int).all (locFree 3)&&true)))))=true
  rw [h];rfl
theorem k7z {rw':List q0h} (hsm:∀ p∈rw',q8q p) (hk:∀ p∈rw',(p.k<3∧p.told=[])∨(p.k=3∧p.head≠0)) (hr:rw'.length≤28) :
    (recN GG (n+89)).ex cT (LT script cells (some (rulesD [r0,r1,r2])) (some (.list (rw'.map pieceD))) faulty text plain numbers heights marks head due k sign told vn closed right word) σ (sT 11) =
      some (.next,LT script cells (some (rulesD [r0,r1,r2])) (some (.list (rw'.map pieceD))) faulty text plain numbers heights marks head due k sign told vn closed right (some (wordD (wordS [r0,r1,r2] rw'))),σ):=by
  refine q0p (n:=n+88) (x:="word") (d:=wordD (wordS [r0,r1,r2] rw')) w2c (by kernel_rfl) (by kernel_rfl) ?_
  rw [q0b]
  refine q0l (f:=fD') w2d (by kernel_rfl) w2e (q0s (f:=fD') (by kernel_rfl) ?_ (j4y (n:=n+47) hsm hk hr))
  have h1:((rw'.map pieceD).all (locFree 5))=true:=by rw [List.all_map];exact z9l rw'
  show (((rw'.map pieceD).all (locFree 5))&&_)=true
  rw [h1];rfl
theorem w2f:isRet (sT 12)=true:=by kernel_rfl
theorem w2g:isAnd (retE (sT 12))=true:=by kernel_rfl
noncomputable abbrev eTa (i:Nat):PySem.Expr:=(boolEs (retE (sT 12))).getD i noE
theorem w2h:boolEs (retE (sT 12))=[eTa 0,eTa 1]:=by kernel_rfl
theorem w2i {b:Bool}:(recN GG (n+87)).ev cT (LT script cells rules row faulty text plain numbers heights marks head due k sign told vn closed (some (.bool b)) (some .none)) σ (eTa 0)=some (.bool (b==false),σ):=by kernel_rfl
theorem w2j {b:Bool} {w:List Nat}:(recN GG (n+87)).ev cT (LT script cells rules row faulty text plain numbers heights marks head due k sign told vn closed (some (.bool b)) (some (.str w))) σ (eTa 0)=some (.bool (b==true),σ):=by kernel_rfl
theorem w2k {right:Option D}:(recN GG (n+87)).ev cT (LT script cells rules row (some (.bool true)) text plain numbers heights marks head due k sign told vn closed right (some .none)) σ (eTa 1)=some (.bool true,σ):=by kernel_rfl
theorem w2l {right:Option D} {w v:List Nat}:(recN GG (n+87)).ev cT (LT script cells rules row (some (.bool false)) text (some (.str v)) numbers heights marks head due k sign told vn closed right (some (.str w))) σ (eTa 1)=some (.bool (w==v),σ):=by kernel_rfl
theorem k8a {f:Bool} {w:List Nat}:(recN GG (n+89)).ex cT (LT script cells rules row (some (.bool f)) text (some (.str w)) numbers heights marks head due k sign told vn closed (some (.bool (!f))) (some (wordD (if f then none else some w)))) σ (sT 12) =
    some (.ret (.bool true),LT script cells rules row (some (.bool f)) text (some (.str w)) numbers heights marks head due k sign told vn closed (some (.bool (!f))) (some (wordD (if f then none else some w))),σ):=by
  refine z6w (n:=n+88) w2f ?_
  rw [q0b,z3n w2g,w2h]
  induction f using q2i with
  | true=>exact q2q (v:=true) (w:=true) (w2i (b:=false)) fun zz=>w2k
  | false=>
    refine q2q (v:=true) (w:=true) (w2j (b:=true)) fun zz=>?_
    have:=w2l (n:=n) (script:=script) (cells:=cells) (rules:=rules) (row:=row) (text:=text) (numbers:=numbers) (heights:=heights) (marks:=marks) (head:=head) (due:=due) (k:=k) (sign:=sign) (told:=told) (vn:=vn) (closed:=closed) (right:=some (.bool (!false))) (σ:=σ) (w:=w) (v:=w)
    rw [beq_self_eq_true] at this
    exact this
end
theorem k8b {l:List Int} {n:Nat} (h:l.length=n):l=(List.range n).map fun i=>l.getD i 0:=by
  refine List.ext_getElem (by rw [List.length_map,List.length_range];exact h) fun i h1 h2=>?_
  rw [List.getElem_map,List.getElem_range,List.getD_eq_getElem?_getD,List.getElem?_eq_getElem h1];rfl
theorem v2p {l:List Int} (h:l.length=11):∃ c0 c1 c2 c3 c4 c5 c6 c7 c8 c9 c10,l=[c0,c1,c2,c3,c4,c5,c6,c7,c8,c9,c10]:=
  ⟨_,_,_,_,_,_,_,_,_,_,_,k8b h⟩
theorem k0r {row:List q0h} (h:∀ p∈row,q8q p):(textOf row).length≤20*row.length:=by
  induction row with
  | nil=>exact Nat.zero_le _
  | cons p r ih=>
    have e:textOf (p::r)=p.sign++textOf r:=rfl
    have:=(h p List.mem_cons_self).sign
    have:=ih fun q hq=>h q (List.mem_cons_of_mem _ hq)
    rw [e,List.length_append,List.length_cons];omega
theorem j5e {row:List q0h} (h:∀ p∈row,q8q p):(plainRow row).length≤20*row.length:=by
  induction row with
  | nil=>exact Nat.zero_le _
  | cons p r ih=>
    have e:plainRow (p::r)=(p.told.filter (0<·)).map Int.toNat++plainRow r:=rfl
    have h1:=(h p List.mem_cons_self).told
    have:=ih fun q hq=>h q (List.mem_cons_of_mem _ hq)
    have h2:(p.told.filter (0<·)).length≤p.told.length:=List.length_filter_le _ _
    rw [e,List.length_append,List.length_map,List.length_cons];omega
theorem k0s {rules:List q3d} {row:List q0h} (h:∀ p∈row,q8q p):(numsRow rules row).length≤21*row.length:=by
  induction row with
  | nil=>exact Nat.zero_le _
  | cons p r ih=>
    have e:numsRow rules (p::r)=(numsOf p.sign++(if p.k<3 then [(ruleAt rules p.k).num] else []))++numsRow rules r:=rfl
    have h1:=(h p List.mem_cons_self).sign
    have:=ih fun q hq=>h q (List.mem_cons_of_mem _ hq)
    have h2:(numsOf p.sign).length≤p.sign.length:=List.length_filterMap_le ..
    have h3:(if p.k<3 then [(ruleAt rules p.k).num] else []).length≤1:=by split<;>simp
    rw [e,List.length_append,List.length_append,List.length_cons];omega
theorem w2m (ns:List Int) (hn:ns.length≤63):(recN GG 100).ca (sO fT) [.list (ns.map .int)] []=some (.bool true,[]):=by
  have hL:LIM=65536:=rfl
  apply q0d;intro hG;rcases v2p (j5a ns) with ⟨c0,c1,c2,c3,c4,c5,c6,c7,c8,c9,c10,hc⟩;apply hG;clear hG
  refine z9m (k4v c0 c1 c2) ?_;intro r0 r1 r2 hr g
  refine q2x (v0a (n:=57) (c0:=c0) (c1:=c1) (c2:=c2) (c3:=c3) (c4:=c4) (c5:=c5) (c6:=c6) (c7:=c7) (c8:=c8) (c9:=c9) (c10:=c10) g.hyp) ?_;intro row f gen wf hlen hrow
  have sm:∀ p∈row,q8q p:=fun p hp=>j8x g (wf p hp)
  have ok:∀ p∈row,pieceOk p:=fun p hp=>v4j g (wf p hp)
  have scn:∀ p∈row,pieceScan GG.tab b1G b3G [r0,r1,r2] p:=fun p hp=>k4w g (wf p hp)
  have kk:∀ p∈row,(p.k<3∧p.told=[])∨(p.k=3∧p.head≠0):=fun p hp=>by
    cases wf p hp with
    | o hk _=>exact Or.inl ⟨hk,rfl⟩
    | c hk=>exact Or.inl ⟨hk,rfl⟩
    | @l h s t hl=>
      refine Or.inr ⟨rfl,?_⟩
      show h≠0
      rcases hl.1 with h1 | h1<;>omega
  have tl:=k0r sm
  have pl:=j5e sm
  have nl:=k0s (rules:=[r0,r1,r2]) sm
  have hleaf:∀ h s t,LeafG h s t→isSym h:=fun h s t hl=>hl.1
  have gd:=(z8u g.ok hleaf gen (Or.inl rfl) (fun k hk=>by cases hk)).1
  have gr:=j2e g.ok hleaf gen (Or.inl rfl) (fun k hk=>by cases hk)
  have hword:wordS [r0,r1,r2] row=if f then none else some (plainRow row):=by
    unfold wordS
    have e:dv [r0,r1,r2] (256::pileOf [r0,r1,r2] []) row=dv [r0,r1,r2] [256,0] row:=rfl
    rw [e] at gd
    induction f using q2i with
    | false=>
      rw [gd];rfl
    | true=>
      induction hd:dv [r0,r1,r2] [256,0] row using Mine.oC with
      | none=>rfl
      | some p=>
        have:=gd p hd
        simp only [this,if_false,if_true]
  have hright:(closedAt 0 row&&(alikeS row&&nb 256 row))=!f:=by
    have e:closedAt ((([]:List Nat).length:Nat):Int) row=closedAt 0 row:=rfl
    rw [← gr]
    induction hcl:closedAt 0 row using q2i with
    | false=>rfl
    | true=>
      have:=q6z row [] hcl
      rw [show pend row 1 []=true from rfl,Bool.and_true] at this
      rw [this];rfl
  rw [j4z,k0o]
  have s0:=z9j (n:=10) hn
  have s1:=z9k (n:=10) (ns:=ns)
  rw [hc] at s1
  have s2:(recN GG (10+89)).ex cT (LT0 ns (some (cells11 c0 c1 c2 c3 c4 c5 c6 c7 c8 c9 c10))) [] (sT 2)=some (.next,LT (some (.list (ns.map .int))) (some (cells11 c0 c1 c2 c3 c4 c5 c6 c7 c8 c9 c10)) (some (rulesD [r0,r1,r2])) none none none none none none none none none none none none none none none none,[]):=by
    refine q0p (n:=10+88) (x:="rules") (d:=rulesD [r0,r1,r2]) v2d (by kernel_rfl) (by kernel_rfl) ?_
    rw [q0b]
    have:=j8h (n:=10+67) (c0:=c0) (c1:=c1) (c2:=c2) (c3:=c3) (c4:=c4) (c5:=c5) (c6:=c6) (c7:=c7) (c8:=c8) (c9:=c9) (c10:=c10)
    rw [hr] at this
    exact q0l (f:=fR) v2e (by kernel_rfl) (v2f (n:=10)) (q0s (f:=fR) (by kernel_rfl) rfl this)
  have s3:(recN GG (10+89)).ex cT (LT (some (.list (ns.map .int))) (some (cells11 c0 c1 c2 c3 c4 c5 c6 c7 c8 c9 c10)) (some (rulesD [r0,r1,r2])) none none none none none none none none none none none none none none none none) [] (sT 3) =
      some (.next,LT (some (.list (ns.map .int))) (some (cells11 c0 c1 c2 c3 c4 c5 c6 c7 c8 c9 c10)) (some (rulesD [r0,r1,r2])) (some (.list (row.map pieceD))) (some (.bool f)) none none none none none none none none none none none none none none,[]):=by
    refine k9d (n:=10+88) (d:=.tup [.list (row.map pieceD),.bool f]) (σ':=[]) v2g ?_ v2j
    rw [q0b]
    exact q0l (f:=fW) v2h (by kernel_rfl) (v2i (n:=10)) (q0s (f:=fW) (by kernel_rfl) rfl hrow)
  have s4:=v4s (n:=10) (script:=some (.list (ns.map .int))) (cells:=some (cells11 c0 c1 c2 c3 c4 c5 c6 c7 c8 c9 c10)) (rules:=some (rulesD [r0,r1,r2])) (row:=some (.list (row.map pieceD))) (faulty:=some (.bool f)) (text:=none) (plain:=none) (numbers:=none) (heights:=none) (marks:=none) (head:=none) (due:=none) (k:=none) (sign:=none) (told:=none) (vn:=none) (closed:=none) (right:=none) (word:=none)
  refine z9n (z1t (n:=10) (script:=some (.list (ns.map .int))) (cells:=some (cells11 c0 c1 c2 c3 c4 c5 c6 c7 c8 c9 c10)) (row:=some (.list (row.map pieceD))) (faulty:=some (.bool f)) (vn:=none) (closed:=none) (right:=none) (word:=none) (r0:=r0) (r1:=r1) (r2:=r2) row [] [] [] [] 0 [] none none none none none sm (by simp;omega) (by simp;omega) (by simp;omega) (by simp;exact Nat.le_trans (by assumption) (Nat.le_of_ble_eq_true rfl)) (by simp;exact Nat.le_trans (by assumption) (Nat.le_of_ble_eq_true rfl))) ?_;intro h' d' k' g' t' e5
  simp only [List.nil_append,List.length_nil] at e5
  have s5:=q8f (n:=10+88) (G:=GG) (c:=cT) (st:=sT 5) (L:=LT (some (.list (ns.map .int))) (some (cells11 c0 c1 c2 c3 c4 c5 c6 c7 c8 c9 c10)) (some (rulesD [r0,r1,r2])) (some (.list (row.map pieceD))) (some (.bool f)) (some (.str [])) (some (.str [])) (some (.list [])) (some (.loc 0)) (some (.loc 1)) none none none none none none none none none)
    (σ:=[[.int 0],[]]) (σ':=[[.int 0],[]]) (d:=.list (row.map pieceD)) (items:=row.map pieceD) v2k (v2l (n:=10)) rfl (by rw [List.length_map];exact Nat.le_trans (by assumption) (Nat.le_of_ble_eq_true rfl))
  have s5':=s5.trans e5
  obtain ⟨vn,s6⟩:=v2o (n:=10) (cells:=some (cells11 c0 c1 c2 c3 c4 c5 c6 c7 c8 c9 c10)) (rules:=some (rulesD [r0,r1,r2])) (row:=some (.list (row.map pieceD))) (faulty:=some (.bool f)) (text:=some (.str (textOf row))) (plain:=some (.str (plainRow row))) (numbers:=some (.list ((numsRow [r0,r1,r2] row).map .int))) (heights:=some (.loc 0)) (marks:=some (.loc 1)) (head:=h') (due:=d') (k:=k') (sign:=g') (told:=t') (vn:=none) (closed:=none) (right:=none) (word:=none)
    (σ:=[(0::htsS 0 row).map .int,(marksOf 0 row).map markD]) (ns:=ns) hn
  have hcheck:=j2j ok
  have hl:=z5m row 0
  have s7:=k7t (n:=10) (script:=some (.list (ns.map .int))) (cells:=some (cells11 c0 c1 c2 c3 c4 c5 c6 c7 c8 c9 c10)) (rules:=some (rulesD [r0,r1,r2])) (row:=some (.list (row.map pieceD))) (faulty:=some (.bool f)) (plain:=some (.str (plainRow row))) (numbers:=some (.list ((numsRow [r0,r1,r2] row).map .int))) (heights:=some (.loc 0)) (marks:=some (.loc 1)) (head:=h') (due:=d') (k:=k') (sign:=g') (told:=t') (vn:=vn) (closed:=none) (right:=none) (word:=none)
    (σ:=[(0::htsS 0 row).map .int,(marksOf 0 row).map markD]) (t:=textOf row) (by omega)
  rw [hcheck] at s7
  have s8:=k7u (n:=10) (script:=some (.list (ns.map .int))) (cells:=some (cells11 c0 c1 c2 c3 c4 c5 c6 c7 c8 c9 c10)) (rules:=some (rulesD [r0,r1,r2])) (row:=some (.list (row.map pieceD))) (faulty:=some (.bool f)) (plain:=some (.str (plainRow row))) (numbers:=some (.list ((numsRow [r0,r1,r2] row).map .int))) (marks:=some (.loc 1)) (head:=h') (due:=d') (k:=k') (sign:=g') (told:=t') (vn:=vn) (right:=none) (word:=none)
    (σ:=[(0::htsS 0 row).map .int,(marksOf 0 row).map markD]) (t:=textOf row) (hts:=htsS 0 row) (b:=closedAt 0 row) (by omega) rfl (z8y row) (by omega) (z8v ok)
  have s9:=k7v (n:=10) (script:=some (.list (ns.map .int))) (cells:=some (cells11 c0 c1 c2 c3 c4 c5 c6 c7 c8 c9 c10)) (rules:=some (rulesD [r0,r1,r2])) (row:=some (.list (row.map pieceD))) (faulty:=some (.bool f)) (heights:=some (.loc 0)) (marks:=some (.loc 1)) (head:=h') (due:=d') (k:=k') (sign:=g') (told:=t') (vn:=vn) (closed:=some (.bool (closedAt 0 row))) (right:=none) (word:=none)
    (σ:=[(0::htsS 0 row).map .int,(marksOf 0 row).map markD]) (z7d v0b row scn) (by omega) (by omega) (by omega) (z8w ok)
  have s10:=k7y (n:=10) (script:=some (.list (ns.map .int))) (cells:=some (cells11 c0 c1 c2 c3 c4 c5 c6 c7 c8 c9 c10)) (rules:=some (rulesD [r0,r1,r2])) (faulty:=some (.bool f)) (plain:=some (.str (plainRow row))) (numbers:=some (.list ((numsRow [r0,r1,r2] row).map .int))) (heights:=some (.loc 0)) (head:=h') (due:=d') (k:=k') (sign:=g') (told:=t') (vn:=vn) (right:=none) (word:=none)
    (σ:=[(0::htsS 0 row).map .int,(marksOf 0 row).map markD]) hlen ok (by omega) rfl (b:=closedAt 0 row)
  rw [hright] at s10
  have s11:=k7z (n:=10) (script:=some (.list (ns.map .int))) (cells:=some (cells11 c0 c1 c2 c3 c4 c5 c6 c7 c8 c9 c10)) (r0:=r0) (r1:=r1) (r2:=r2) (faulty:=some (.bool f)) (text:=some (.str (textOf row))) (plain:=some (.str (plainRow row))) (numbers:=some (.list ((numsRow [r0,r1,r2] row).map .int))) (heights:=some (.loc 0)) (marks:=some (.loc 1)) (head:=h') (due:=d') (k:=k') (sign:=g') (told:=t') (vn:=vn) (closed:=some (.bool (closedAt 0 row))) (right:=some (.bool (!f))) (word:=none)
    (σ:=[(0::htsS 0 row).map .int,(marksOf 0 row).map markD]) sm kk hlen
  rw [hword] at s11
  have s12:=k8a (n:=10) (script:=some (.list (ns.map .int))) (cells:=some (cells11 c0 c1 c2 c3 c4 c5 c6 c7 c8 c9 c10)) (rules:=some (rulesD [r0,r1,r2])) (row:=some (.list (row.map pieceD))) (text:=some (.str (textOf row))) (numbers:=some (.list ((numsRow [r0,r1,r2] row).map .int))) (heights:=some (.loc 0)) (marks:=some (.loc 1)) (head:=h') (due:=d') (k:=k') (sign:=g') (told:=t') (vn:=vn) (closed:=some (.bool (closedAt 0 row)))
    (σ:=[(0::htsS 0 row).map .int,(marksOf 0 row).map markD]) (f:=f) (w:=plainRow row)
  rw [q0c s0,q0c s1]
  show (exs (recN GG (10+89)) cT (LT0 ns (some (cells11 c0 c1 c2 c3 c4 c5 c6 c7 c8 c9 c10))) [] _).bind _=_
  rw [q0c s2,q0c s3,q0c s4,q0c s5',q0c s6,q0c s7,q0c s8,q0c s9,q0c s10,q0c s11,q1r s12]
  rfl
set_option maxRecDepth 100000
set_option maxHeartbeats 4000000
theorem v2q:OpenLaw.wellSaid PySem.Challenge.rw_ti0067_01=true:=by kernel_rfl
theorem final01:PySem.Challenge.rw_ti0067_01.Holds:=by
  obtain ⟨fd,hfd⟩:∃ fd,(glOf p1 muts1).fn (sO fT)=some fd:=Option.isSome_iff_exists.mp (by kernel_rfl)
  refine holds_law v2q fun said=>?_
  refine k1t (l:=PySem.Challenge.rw_ti0067_01) (T:=(shapeOf p1).T) (name:=sO fT) rfl rfl rfl rfl said ?_ ?_ ?_ rfl rfl ?_ ?_ ?_ ?_ ?_ ?_ k8j (j6j v6p muts1 hfd w2m)
  · exact ⟨[.list []],by kernel_rfl,by kernel_rfl⟩
  · exact ⟨rfl,rfl,rfl,rfl,rfl,by kernel_rfl⟩
  · kernel_rfl
  · exact fun s=>rfl
  · kernel_rfl
  · kernel_rfl
  · kernel_rfl
  · intro w h mg hm t
    refine k2l (d:=(defArgs p1 (sO fT),defBody p1 (sO fT),defScope p1 (sO fT))) v6p hm t ?_ ?_
    · kernel_rfl
    · kernel_rfl
  · exact fun w h h' mg t hk=>q0f.keep _ t hk
end Mine
set_option maxRecDepth 100000 in
set_option maxHeartbeats 4000000 in
theorem PySem.Challenge.cw_ti0067_01_holds : PySem.Challenge.rw_ti0067_01.Holds := by
  exact Mine.final01
