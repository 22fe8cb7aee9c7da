import PyProof.Rows.All
import Wide.All
import OpenK.AllK
import Wide.FinOn
import Flt.RightMore
import PySem.Challenge.RW_kl0506_01
set_option Elab.async false
set_option rowWalk.seconds 0
set_option compiler.extract_closed false
namespace Mine
section SCore
open PySem PySem.W PyProof.Rows PySem.Calls PySem.Spec
noncomputable abbrev kA (dp un : Nat) (gd : Option (List Code)) (fr : List Env) : Around := { handled := none, depth := dp, frames := some fr, guards := gd, units := un }

/-- where a call stands: the base stays, and the frames on the stack are dicts that the base has not -/
structure Amid (base : Heap) (fr : List Env) (h : Heap) : Prop where
  stays : base.StaysIn h
  frames : h.FunFrames base fr
  dicts : KtsDicts (fr.filterMap (·.frame)) h

/-- all but the addresses W is as it was -/
noncomputable def Keeps (W : List Addr) (h h' : Heap) : Prop := ∀ b o, h.get? b = some o → b ∉ W → h'.get? b = some o

theorem Amid.below {base : Heap} {fr : List Env} {h : Heap} {dp un : Nat} {gd : Option (List Code)} (H : Amid base fr h) : Below (kA dp un gd fr) base fr h := ⟨rfl, H.stays, H.frames⟩
theorem amid_push {A : Around} {base h₀ h : Heap} {outer : List Env} {L : Addr} {m : Str → Option Value} {env : Env} (B : Below A base outer h₀) (F : Fr h₀ L h m) (D : KtsDicts (outer.filterMap (·.frame)) h₀)
    (hf : env.frame = some L) (hk : env.scope.kind = .function) : Amid base (env :: outer) h :=
  let b := pushX B F hf hk
  ⟨b.stays, b.frames, fun x hx => by
    obtain ⟨e, he, hfe⟩ := List.mem_filterMap.mp hx
    rcases List.mem_cons.mp he with rfl | he
    · obtain ⟨o, es, ep, ho, hd, _⟩ := F.ns
      rw [hf] at hfe
      cases hfe
      exact ⟨o, es, ep, ho, hd⟩
    · obtain ⟨o, es, ep, ho, hd⟩ := D x (List.mem_filterMap.mpr ⟨e, he, hfe⟩)
      exact ⟨o, es, ep, F.keep _ _ ho, hd⟩⟩

theorem Keeps.refl {W : List Addr} {h : Heap} : Keeps W h h := fun _ _ e _ => e
theorem Keeps.trans {W : List Addr} {h₁ h₂ h₃ : Heap} (a : Keeps W h₁ h₂) (b : Keeps W h₂ h₃) : Keeps W h₁ h₃ := fun x o e n => b x o (a x o e n) n
theorem Keeps.mono {W W' : List Addr} {h h' : Heap} (a : Keeps W h h') (s : ∀ b ∈ W, b ∈ W') : Keeps W' h h' := fun x o e n => a x o e fun m => n (s x m)
theorem keeps_out {W W' : List Addr} {h g h' : Heap} (k : Keeps W h g) (k2 : ∀ b o, g.get? b = some o → h'.get? b = some o) (hs : ∀ b ∈ W, b ∉ W' → ∀ o, h.get? b = some o → h'.get? b = some o) : Keeps W' h h' := fun b o e n => by
  by_cases m : b ∈ W
  · exact hs b m n o e
  · exact k2 b o (k b o e m)
theorem Keeps.list {W : List Addr} {h h' : Heap} {l : Addr} {items : Array Value} (k : Keeps W h h') (hl : h.IsList l items) (hn : l ∉ W) : h'.IsList l items :=
  let ⟨o, ho, r⟩ := hl; ⟨o, k l o ho hn, r⟩

theorem Amid.keeps {base : Heap} {fr : List Env} {h h' : Heap} {W : List Addr} (H : Amid base fr h) (k : Keeps W h h') (hW : ∀ b ∈ W, base.get? b = none ∧ b ∉ fr.filterMap (·.frame)) : Amid base fr h' := by
  refine ⟨fun b o e => k b o (H.stays b o e) fun m => ?_, ?_, fun b hb => ?_⟩
  · rw [(hW b m).1] at e; cases e
  · have : ∀ (l : List Env), (∀ x ∈ l.filterMap (·.frame), x ∈ fr.filterMap (·.frame)) → h.FunFrames base l → h'.FunFrames base l := by
      intro l
      induction l with
      | nil => intro _ _; trivial
      | cons env r ih =>
        rintro hs ⟨hk, ⟨L, o, hf, hn, ho, hd⟩, hr⟩
        refine ⟨hk, ⟨L, o, hf, hn, k _ _ ho fun m => (hW L m).2 (hs L ?_), hd⟩, ih (fun x hx => hs x ?_) hr⟩
        · exact List.mem_filterMap.mpr ⟨env, .head _, hf⟩
        · obtain ⟨e, he, hfe⟩ := List.mem_filterMap.mp hx
          exact List.mem_filterMap.mpr ⟨e, .tail _ he, hfe⟩
    exact this fr (fun _ x => x) H.frames
  · obtain ⟨o, es, n, ho, hd⟩ := H.dicts b hb
    exact ⟨o, es, n, k _ _ ho fun m => (hW b m).2 hb, hd⟩

section
variable {prog : Program} {w : World} {dp un : Nat} {gd : Option (List Code)} {fr : List Env} {s : Shared} {base : Heap} {K : Frag} {p : Program} {loose : List Str} {mean : ExcName → Option Value} {mg mb : Str → Option Value}
  {R : Result → Shared → Prop} {name qual : Str} {params : Arguments} {body : List Stmt} {scope : Scope} {dV kV doc pm cdv ct oc : Value} {an od : Option Addr} {osl : Array (Option Value)} {f : Addr} {args : Args} {binds : List (Str × Value)}

/-- a call of a def that changes nothing of what stood before -/
theorem enterP (H : Amid base fr s.heap) (XB : K.In base) (TB : Top p loose mean mg mb base)
    (ho : K.lookup f = some ⟨oc, od, .func (fnOf name qual params body scope dV kV doc pm an cdv ct), osl⟩) (hcd : codeIn K cdv qual = true) (hroom : dp < recursionLimit)
    (hbind : BindsTo s (fnOf name qual params body scope dV kV doc pm an cdv ct) args binds) (hloc : ∀ y ∈ binds, scope.names.lookup y.1 = some .local)
    (h : ∀ L' h₁, Fr s.heap L' h₁ (fun y => binds.reverse.lookup y) → News s.heap L' h₁ [] → Below (kA dp un gd fr) base fr s.heap → K.In s.heap → Top p loose mean mg mb s.heap → KtsDicts (fr.filterMap (·.frame)) s.heap →
      wpAny (model prog w) ((kA dp un gd fr).deeper (envOf qual scope L' f cdv)) (execs body (envOf qual scope L' f cdv))
        (fun fl s' => R (.ok (.ret (match fl with | .ret v => v | _ => .none))) s')
        (fun e s' => wpAny (model prog w) ((kA dp un gd fr).deeper (envOf qual scope L' f cdv)) (leaving (envOf qual scope L' f cdv) e) (fun _ s'' => R (.error e) s'') (fun e' s'' => R (.error e') s'') s')
        { s with heap := h₁, toks := s.toks + binds.length })
    (hco : scope.isCoroutine = false) (hgen : scope.isGenerator = false) (hk : scope.kind = .function)
    (hcell : ∀ x ∈ scope.names, x.2 ≠ .cell) : codeAny (model prog w) (kA dp un gd fr) (.call (.ref f) args) R s := by
  have X : K.In s.heap := XB.keeps H.stays
  have T : Top p loose mean mg mb s.heap := TB.keeps H.stays
  refine codeAny_call_def (fd := fnOf name qual params body scope dV kV doc pm an cdv ct) (body := body) (binds := binds) hroom (X _ _ ho) rfl T.nolimit (codeRec_of X hcd) rfl hbind hcell hloc (fun h₁ hns hk₁ => ?_) hco hgen hk
  exact h s.heap.objs.size h₁ ⟨hns, fun b o e => hk₁ b o e, Nat.le_refl _⟩ News.nil H.below X T H.dicts

/-- the objects of W are out of the base, and no frame -/
noncomputable def Loose (base : Heap) (fr : List Env) (h : Heap) (W : List (Addr × Obj)) : Prop := ∀ q ∈ W, h.get? q.1 = some q.2 ∧ base.get? q.1 = none ∧ q.1 ∉ fr.filterMap (·.frame)

theorem Loose.amid {h : Heap} {W : List (Addr × Obj)} (H : Amid base fr h) (hW : Loose base fr h W) : Amid base fr (hideAll h (W.map (·.1))) := by
  have nb : ∀ b o, base.get? b = some o → b ∉ W.map (·.1) := fun b o e q => by
    obtain ⟨p, hp, rfl⟩ := List.mem_map.mp q
    rw [(hW p hp).2.1] at e; cases e
  have nf : ∀ b ∈ fr.filterMap (·.frame), b ∉ W.map (·.1) := fun b hb q => by
    obtain ⟨p, hp, rfl⟩ := List.mem_map.mp q
    exact (hW p hp).2.2 hb
  refine ⟨fun b o e => hideAll_get _ (H.stays b o e) (nb b o e), funFrames_hideAll H.frames fun env he a ha hf => ?_, fun b hb => ?_⟩
  · exact nf a (List.mem_filterMap.mpr ⟨env, he, hf⟩) ha
  · obtain ⟨o, es, n, ho, hd⟩ := H.dicts b hb
    exact ⟨o, es, n, hideAll_get _ ho (nf b hb), hd⟩

/-- a call of a def that may change the objects of W -/
theorem enterW (H : Amid base fr s.heap) (XB : K.In base) (TB : Top p loose mean mg mb base) (W : List (Addr × Obj)) (hW : Loose base fr s.heap W)
    (ho : K.lookup f = some ⟨oc, od, .func (fnOf name qual params body scope dV kV doc pm an cdv ct), osl⟩) (hcd : codeIn K cdv qual = true) (hroom : dp < recursionLimit)
    (hbind : BindsTo s (fnOf name qual params body scope dV kV doc pm an cdv ct) args binds) (hloc : ∀ y ∈ binds, scope.names.lookup y.1 = some .local)
    (h : ∀ g L' h₁, Keeps (W.map (·.1)) s.heap g → (∀ b o, g.get? b = some o → s.heap.get? b = some o) → (∀ q ∈ W, q.1 < L') → Fr g L' h₁ (fun y => binds.reverse.lookup y) → News g L' h₁ W → Below (kA dp un gd fr) base fr g → K.In g → Top p loose mean mg mb g → KtsDicts (fr.filterMap (·.frame)) g →
      wpAny (model prog w) ((kA dp un gd fr).deeper (envOf qual scope L' f cdv)) (execs body (envOf qual scope L' f cdv))
        (fun fl s' => R (.ok (.ret (match fl with | .ret v => v | _ => .none))) s')
        (fun e s' => wpAny (model prog w) ((kA dp un gd fr).deeper (envOf qual scope L' f cdv)) (leaving (envOf qual scope L' f cdv) e) (fun _ s'' => R (.error e) s'') (fun e' s'' => R (.error e') s'') s')
        { s with heap := h₁, toks := s.toks + binds.length })
    (hco : scope.isCoroutine = false) (hgen : scope.isGenerator = false) (hk : scope.kind = .function)
    (hcell : ∀ x ∈ scope.names, x.2 ≠ .cell) : codeAny (model prog w) (kA dp un gd fr) (.call (.ref f) args) R s := by
  have X : K.In s.heap := XB.keeps H.stays
  have T : Top p loose mean mg mb s.heap := TB.keeps H.stays
  have H' := hW.amid H
  have XH : K.In (hideAll s.heap (W.map (·.1))) := XB.keeps H'.stays
  have TH : Top p loose mean mg mb (hideAll s.heap (W.map (·.1))) := TB.keeps H'.stays
  refine codeAny_call_def (fd := fnOf name qual params body scope dV kV doc pm an cdv ct) (body := body) (binds := binds) hroom (X _ _ ho) rfl T.nolimit (codeRec_of X hcd) rfl hbind hcell hloc (fun h₁ hns hk₁ => ?_) hco hgen hk
  exact h (hideAll s.heap (W.map (·.1))) s.heap.objs.size h₁ (fun b o e n => hideAll_get _ e n) (fun b o e => of_hideAll _ e) (fun q hq => Heap.lt_size (hW q hq).1)
    ⟨hns, fun b o e => hk₁ b o (of_hideAll _ e), Nat.le_of_eq (hideAll_size _ _)⟩
    (fun q hq => ⟨hk₁ _ _ (hW q hq).1, Nat.ne_of_lt (Heap.lt_size (hW q hq).1), hideAll_none _ (List.mem_map_of_mem hq)⟩) H'.below XH TH H'.dicts
end
end SCore
section SLIter
open PySem PySem.W PyProof.Rows PySem.Calls PySem.Spec
noncomputable abbrev liObj (l : Addr) (i : Nat) : Obj := { cls := .type "list_iterator", data := .fields #[.ref l, .int i 0] }
noncomputable abbrev liEnd (i : Nat) : Obj := { cls := .type "list_iterator", data := .fields #[.none, .int i 0] }
section
variable {prog : Program} {w : World} {A : Around} {E : Value → Shared → Prop} {s : Shared} {h₀ : Heap} {L l it : Addr} {m : Str → Option Value} {news : List (Addr × Obj)} {g : Obj → List (Addr × Obj)} {items : Array Value} {x : Value} {i : Nat}
theorem stop_own : ownMembersOf (.type "StopIteration") [] = #[] := by
  unfold ownMembersOf
  split <;> first | rfl | (rename_i h; revert h; decide) | simp_all
theorem li_iter {Q : Value → Shared → Prop} (F : Fr h₀ L s.heap m) (N : News h₀ L s.heap news) (hl : s.heap.IsList l items)
    (h : ∀ (I : Addr) h', Fr h₀ L h' m → News h₀ L h' ((I, liObj l 0) :: news) → (∀ p ∈ news, p.1 < I) → Q (.ref I) { s with heap := h' }) :
    wpAny (model prog w) A (call (.builtin "iter") [.ref l]) Q E s := by
  refine call_function_entry (by decide +kernel) (by decide +kernel) kdk_entry_iter (kdk_args_iter _) ?_
  unfold Builtin.«iter»
  refine wpAny_bind (m := someArgs "iter" 1 2 _) (wpAny_of_eq (a := [Value.ref l]) (by first | rfl | kernel_rfl!) ?_)
  show wpAny _ _ (pyIter (.ref l) >>= _) _ _ _
  refine wpAny_bind (wpAny_pyIter_list hl ?_)
  exact wpAny_pure ⟨_, rfl, h _ _ (F.push _) (News.push F N _ rfl) (fun q hq => Heap.lt_size (N q hq).1)⟩
theorem li_next {Q : Value → Shared → Prop} (F : Fr h₀ L s.heap m) (N : News h₀ L s.heap news) (U : UpdF it (liObj l i) news g) (hl : s.heap.IsList l items) (hx : items[i]? = some x)
    (h : ∀ h', Fr h₀ L h' m → News h₀ L h' (g (liObj l (i + 1))) → Q x { s with heap := h' }) :
    wpAny (model prog w) A (call (.builtin "next") [.ref it]) Q E s := by
  obtain ⟨pre, post, hn, hg, a, b⟩ := U.split
  have hmem : (it, liObj l i) ∈ news := by rw [hn]; exact List.mem_append_right _ (.head _)
  have hm := N (it, liObj l i) hmem
  have hit : s.heap.IsListIter it l i := ⟨_, hm.1, rfl, rfl⟩
  obtain ⟨ol, hol, _, nl, hdl⟩ := hl
  refine call_function_entry (by decide +kernel) (by decide +kernel) kdk_entry_next (kdk_args_next _) ?_
  unfold Builtin.«next»
  refine wpAny_bind (m := someArgs "next" 1 2 _) (wpAny_of_eq (a := [Value.ref it]) (by first | rfl | kernel_rfl!) ?_)
  dsimp only
  refine wpAny_bind (wpAny_specialOf (name := Str.ofString "__next__") hit.typeIs slot_listiter_next.lookup ?_)
  refine wpAny_ite_split (fun hab => absurd hab (by decide)) (fun _ => ?_)
  refine wpAny_bind (wpAny_callSpecial?_slot (name := Str.ofString "__next__") hit.typeIs slot_listiter_next
    (wpAny_call_entry slot_listiter_next hit.typeIs entry_listiter_next ?_ (args_listiter_next _)))
  show wpAny _ _ (field (.ref it) 0 >>= _) _ _ s
  refine wpAny_bind (wpAny_field hm.1 rfl (x := .ref l) rfl ?_)
  show wpAny _ _ (if (Value.ref l == Value.none) = true then _ else _) _ _ s
  rw [if_neg (show ¬ ((Value.ref l == Value.none) = true) from Bool.false_ne_true)]
  show wpAny _ _ (field (.ref it) 1 >>= _) _ _ s
  refine wpAny_bind (wpAny_field hm.1 rfl (x := .int i 0) rfl ?_)
  show wpAny _ _ (seqItems? (.ref l) >>= _) _ _ s
  refine wpAny_bind (wpAny_seqItems hol hdl ?_)
  simp only [Int.toNat_natCast, hx]
  refine wpAny_bind (wpAny_setField hm.1 rfl (by simp) (wpAny_pure ⟨x, rfl, wpAny_pure ⟨_, rfl, ?_⟩⟩))
  have hs := Heap.SameBut.update s.heap it (Obj.mapFields (·.setIfInBounds 1 (rawInt ((i : Int) + 1))))
  have ho' : (s.heap.update it (Obj.mapFields (·.setIfInBounds 1 (rawInt ((i : Int) + 1))))).get? it = some (liObj l (i + 1)) := by
    rw [Heap.get?_update_self _ hm.1 rfl]
    simp [Obj.mapFields, liObj, rawInt]
  exact h _ (F.change hs hm.2.1 hm.2.2) (hg _ ▸ (show News h₀ L s.heap (pre ++ (it, liObj l i) :: post) from hn ▸ N).setIn a b hs ho')
theorem li_end {Q : Value → Shared → Prop} (F : Fr h₀ L s.heap m) (N : News h₀ L s.heap news) (U : UpdF it (liObj l i) news g) (hl : s.heap.IsList l items) (hx : items[i]? = none) (hh : A.handled = none)
    (h : ∀ h₁ h' e, Fr h₀ L h₁ m → News h₀ L h₁ (g (liEnd i)) → Heap.NewExc h₁ h' e "StopIteration" → E (.ref e) { s with heap := h' }) :
    wpAny (model prog w) A (call (.builtin "next") [.ref it]) Q E s := by
  obtain ⟨pre, post, hn, hg, a, b⟩ := U.split
  have hmem : (it, liObj l i) ∈ news := by rw [hn]; exact List.mem_append_right _ (.head _)
  have hm := N (it, liObj l i) hmem
  have hit : s.heap.IsListIter it l i := ⟨_, hm.1, rfl, rfl⟩
  obtain ⟨ol, hol, _, nl, hdl⟩ := hl
  refine call_function_entry (by decide +kernel) (by decide +kernel) kdk_entry_next (kdk_args_next _) ?_
  unfold Builtin.«next»
  refine wpAny_bind (m := someArgs "next" 1 2 _) (wpAny_of_eq (a := [Value.ref it]) (by first | rfl | kernel_rfl!) ?_)
  dsimp only
  refine wpAny_bind (wpAny_specialOf (name := Str.ofString "__next__") hit.typeIs slot_listiter_next.lookup ?_)
  refine wpAny_ite_split (fun hab => absurd hab (by decide)) (fun _ => ?_)
  refine wpAny_bind (wpAny_callSpecial?_slot (name := Str.ofString "__next__") hit.typeIs slot_listiter_next
    (wpAny_call_entry slot_listiter_next hit.typeIs entry_listiter_next ?_ (args_listiter_next _)))
  show wpAny _ _ (field (.ref it) 0 >>= _) _ _ s
  refine wpAny_bind (wpAny_field hm.1 rfl (x := .ref l) rfl ?_)
  show wpAny _ _ (if (Value.ref l == Value.none) = true then _ else _) _ _ s
  rw [if_neg (show ¬ ((Value.ref l == Value.none) = true) from Bool.false_ne_true)]
  show wpAny _ _ (field (.ref it) 1 >>= _) _ _ s
  refine wpAny_bind (wpAny_field hm.1 rfl (x := .int i 0) rfl ?_)
  show wpAny _ _ (seqItems? (.ref l) >>= _) _ _ s
  refine wpAny_bind (wpAny_seqItems hol hdl ?_)
  simp only [Int.toNat_natCast, hx]
  refine wpAny_bind (wpAny_rule (wpAny_bind (wpAny_setField hm.1 rfl (by simp) ?_)))
  show wpAny _ _ (newExc (.type "StopIteration") [] >>= _) _ _ _
  refine wpAny_bind ?_
  simp only [newExc, newTuple]
  refine wpAny_bind (wpAny_newObj_type ?_ (by size_fits))
  refine wpAny_bind (m := firstArgMember _ _) (wpAny_of_eq (a := Value.none) (by first | rfl | (simp only [firstArgMember]; rfl)) ?_)
  refine wpAny_newObj_type ?_ (by size_fits)
  simp only [raiseNew]
  refine wpAny_bind (wpAny_handled ?_)
  rw [show A.in1.in1.handled = none from hh]
  refine wpAny_bind (wpAny_pure (wpAny_throw ?_))
  have hs := Heap.SameBut.update s.heap it (Obj.mapFields (·.setIfInBounds 0 Value.none))
  have ho' : (s.heap.update it (Obj.mapFields (·.setIfInBounds 0 Value.none))).get? it = some (liEnd i) := by
    rw [Heap.get?_update_self _ hm.1 rfl]
    simp [Obj.mapFields, liObj]
  exact h _ _ _ (F.change hs hm.2.1 hm.2.2) (hg _ ▸ (show News h₀ L s.heap (pre ++ (it, liObj l i) :: post) from hn ▸ N).setIn a b hs ho')
    ⟨fun b o hb => Heap.get?_push_of_some _ (Heap.get?_push_of_some _ hb), Heap.get?_none_of_le (by simp), _, .ref _, Heap.get?_push_size _ rfl, rfl, by simp only [stop_own]; simp; rfl⟩
end
theorem stop_isExc : isSubtype (.type "StopIteration") (.type "BaseException") = pure true := by rw [isSubtype_type]; kernel_rfl
theorem stop_notTuple : isSubtype (.type ((Manifest.find? "StopIteration").elim "type" fun x => x.metatype)) (.type "tuple") = pure false := by
  rw [show ((Manifest.find? "StopIteration").elim "type" fun x => x.metatype) = "type" from by kernel_rfl, isSubtype_type]; kernel_rfl
end SLIter
section SCatch
open PySem PySem.W PyProof.Rows PySem.Calls PySem.Spec
section
variable {M : Model} {A : Around} {E : Value → Shared → Prop} {s : Shared}
theorem looks_firstW {base : Heap} {env : Env} {outer : List Env} {L e : Addr} {oe : Obj} {vs : Array Value} {a0 : Value} {Q : Unit → Shared → Prop}
    (hfr : A.frames = some (env :: outer)) (hl : s.heap.FunFrames base (env :: outer)) (hf : env.frame = some L)
    (he : s.heap.get? e = some oe) (hkb : base.StaysIn s.heap) (hen : base.get? e = none) (hd : oe.data = .fields vs) (h1 : vs[1]? = some .none) (h0 : vs[0]? = some a0)
    (h : ∀ h', Heap.HeldW base (env :: outer) e oe.cls a0 L h' → s.heap.UpToSlots h' → Q () { s with heap := h' }) : wpAny M A (noteFrame (.ref e) env) Q E s := by
  unfold noteFrame
  simp only [hf]
  refine wpAny_bind (wpAny_field he hd h1 ?_)
  rw [if_neg (by decide)]
  exact wpAny_entryW hfr hl hf he hkb hen hd (Array.getElem?_eq_some_iff.mp h1).1 h0 fun h' x => h h' ⟨x.1, hen, x.2.1, x.2.2.1⟩ x.2.2.2
end

section
variable {prog : Program} {w : World} {A₀ : Around} {E : Value → Shared → Prop} {s' : Shared} {base g g₀ h : Heap} {outer : List Env} {L a e : Addr} {m : Str → Option Value} {name : Str} {scope : Scope} {cd : Value}
  {b₀ : Stmt} {suite : List Stmt} {pos np : Pos} {rest : List ExceptHandler} {Q : Flow → Shared → Prop} {news : List (Addr × Obj)} {KF : Frag}
  {p : Program} {loose : List Str} {mean : ExcName → Option Value} {mg mb : Str → Option Value} {x : Str} {X T' : String}

/-- an exception that the interpreter makes in a frame and that the same frame takes -/
theorem caught_new0 (hx' : Heap.NewExc h s'.heap e X) (F : Fr g L h m) (N : News g L h news) (K : Below A₀ base outer g) (XB : KF.In base) (TB : Top p loose mean mg mb base)
    (D : KtsDicts (outer.filterMap (·.frame)) g) (T0 : KtsTurn (outer.filterMap (·.frame)) g₀ g)
    (ex : nsIn KF mainGlobals x = some none) (hv : bootBuiltins x = some (.type T')) (hn' : x ≠ "__name__")
    (hexc : isSubtype (.type T') (.type "BaseException") = pure true) (hnt : isSubtype (.type ((Manifest.find? T').elim "type" fun y => y.metatype)) (.type "tuple") = pure false) (hsub : isSubtype (.type X) (.type T') = pure true)
    (k : ∀ h' g', KtsTurn (outer.filterMap (·.frame)) g₀ g' → Fr g' L h' m → News g' L h' news → Below A₀ base outer g' → KF.In g' → Top p loose mean mg mb g' → KtsDicts (outer.filterMap (·.frame)) g' →
      wpAny (model prog w) ((A₀.deeper (envOf name scope L a cd)).mark (some (.ref e))) (execs (b₀ :: suite) (envOf name scope L a cd)) Q E { s' with heap := h' })
    (hk : scope.kind = .function := by rfl) (hx : (envOf name scope L a cd).kindOf x = some .globalImplicit := by rfl) (hd : (x == ("__debug__" : Str)) = false := by decide)
    (hE : PassesOwnAt (model prog w) ((A₀.deeper (envOf name scope L a cd)).mark (some (.ref e))) (A₀.deeper (envOf name scope L a cd)) (envOf name scope L a cd) E := by passes_own) :
    wpAny (model prog w) (A₀.deeper (envOf name scope L a cd)) (noteFrame (.ref e) (envOf name scope L a cd))
      (fun _ s₂ => wpAny (model prog w) (A₀.deeper (envOf name scope L a cd)) (setFlight (.ref e) none) (fun _ s₃ =>
        wpAny (model prog w) (A₀.deeper (envOf name scope L a cd)) (handleBy (.ref e) (envOf name scope L a cd) (.ExceptHandler (some (.Name x np)) none (b₀ :: suite) pos :: rest)) Q E s₃) E s₂) E s' := by
  have K' := K.push (name := name) (a := a) (cd := cd) F hk
  have hin : ∀ env ∈ (envOf name scope L a cd :: outer), ∀ b, env.frame = some b → b ∈ (envOf name scope L a cd :: outer).filterMap (·.frame) := fun env he b hb => List.mem_filterMap.mpr ⟨env, he, hb⟩
  have hB : base.StaysIn (hideAll h ((envOf name scope L a cd :: outer).filterMap (·.frame))) := fun b o q => hideAll_get _ (K'.stays b o q) fun hm => by
    rw [(K'.frames.mem hm).1] at q; cases q
  have hBG : ∀ b o, h.get? b = some o → b ∉ (envOf name scope L a cd :: outer).filterMap (·.frame) → (hideAll h ((envOf name scope L a cd :: outer).filterMap (·.frame))).get? b = some o := fun b o q nm => hideAll_get _ q nm
  have hl : ∀ q ∈ news, (hideAll h ((envOf name scope L a cd :: outer).filterMap (·.frame))).get? q.1 = some q.2 ∧ g.get? q.1 = none := fun q hq => by
    refine ⟨hideAll_get _ (N q hq).1 fun hm => ?_, (N q hq).2.2⟩
    rcases kts_mem hm with z | z
    · exact (N q hq).2.1 z
    · obtain ⟨o, ho, _⟩ := (K.frames.mem z).2
      rw [(N q hq).2.2] at ho; cases ho
  obtain ⟨ob, tp, he, hcls, hdt⟩ := hx'.there
  have hen : (hideAll h ((envOf name scope L a cd :: outer).filterMap (·.frame))).get? e = none := by
    cases q : (hideAll h ((envOf name scope L a cd :: outer).filterMap (·.frame))).get? e with
    | none => rfl
    | some o => have := of_hideAll _ q; rw [hx'.new] at this; cases this
  have hL : (hideAll h ((envOf name scope L a cd :: outer).filterMap (·.frame))).get? L = none := hideAll_none _ (hin _ (.head _) L rfl)
  refine looks_firstW (a0 := tp) (Around.frames_deeper K.stack) ((funFrames_hide K'.frames hin).of_keeps fun b o hb _ => ⟨o, hx'.keeps b o hb, rfl⟩) rfl he (fun b o hb => hx'.keeps b o (of_hideAll _ hb)) hen hdt rfl rfl fun h₄ hheld₄ hsm₄ => ?_
  rw [hcls] at hheld₄
  refine wpAny_landsW hheld₄ fun h₅ hheld hsm₅' => ?_
  have hsm₅ := ((Heap.UpToSlots.of_keeps hx'.keeps).trans hsm₄).trans hsm₅'
  obtain ⟨g₅, T₅, F₅, K₅⟩ := kts_ground K F hBG hheld.1 hsm₅
  have X₅ : KF.In g₅ := XB.keeps K₅.stays
  have P₅ : TopRead p loose mg mb g₅ := topRead_of (TB.keeps K₅.stays)
  obtain ⟨ob', hob, hobc⟩ := hheld.there
  refine wpAny_handleBy_builtin (X := X) (T := T') (b := true) hexc hnt hsub (name_B F₅ X₅ P₅ ex hv hn' ⟨rfl, ⟨ob', hob, hobc⟩, ?_⟩ hk hx hd)
  refine lands_againW hheld fun h₆ hfl₆ hsm₆ => ?_
  obtain ⟨g₆, T₆, F₆, K₆⟩ := kts_ground K F hBG hfl₆.1 (hsm₅.trans hsm₆)
  have Nl : News g₆ L h₆ news := fun q hq => ⟨hfl₆.1 _ _ (hl q hq).1, (fun z => by have := (hl q hq).1; rw [z, hL] at this; cases this), T₆.none_ _ (hl q hq).2⟩
  have X₆ : KF.In g₆ := XB.keeps K₆.stays
  have P₆ : Top p loose mean mg mb g₆ := TB.keeps K₆.stays
  exact wpAny_passesOwnAt hE (k h₆ g₆ (T0.trans T₆) F₆ Nl K₆ X₆ P₆ (D.turn T₆))
end
end SCatch
section SCore2
open PySem PySem.W PyProof.Rows PySem.Calls PySem.Spec
section
variable {prog : Program} {w : World} {dp un : Nat} {gd : Option (List Code)} {fr : List Env} {s : Shared} {base : Heap} {K : Frag} {p : Program} {loose : List Str} {mean : ExcName → Option Value} {mg mb : Str → Option Value}
  {R : Result → Shared → Prop} {name qual : Str} {params : Arguments} {body : List Stmt} {scope : Scope} {dV kV doc pm cdv ct oc : Value} {an od : Option Addr} {osl : Array (Option Value)} {f : Addr} {args : Args} {binds : List (Str × Value)}
/-- a call of a def with captured names that changes nothing of what stood before -/
theorem enterC (H : Amid base fr s.heap) (XB : K.In base) (TB : Top p loose mean mg mb base)
    (ho : K.lookup f = some ⟨oc, od, .func (fnOf name qual params body scope dV kV doc pm an cdv ct), osl⟩) (hcd : codeIn K cdv qual = true) (hroom : dp < recursionLimit)
    (hbind : BindsTo s (fnOf name qual params body scope dV kV doc pm an cdv ct) args binds) (hkind : (binds.all fun y => scope.names.lookup y.1 == some .local || scope.names.lookup y.1 == some .cell) = true)
    (hnd : ((cellsFrom 0 scope.names []).map (·.1)).Nodup)
    (h : ∀ L' h₁ tk cells, Fr s.heap L' h₁ (bindL (envOfC qual scope L' f cdv).kindOf binds fun _ => none) → News s.heap L' h₁ cells → CellsAre (bindC (envOfC qual scope L' f cdv).kindOf binds fun _ => none) (cellsFrom (L' + 1) scope.names []) cells →
      Below (kA dp un gd fr) base fr s.heap → K.In s.heap → Top p loose mean mg mb s.heap → KtsDicts (fr.filterMap (·.frame)) s.heap →
      wpAny (model prog w) ((kA dp un gd fr).deeper (envOfC qual scope L' f cdv)) (execs body (envOfC qual scope L' f cdv))
        (fun fl s' => R (.ok (.ret (match fl with | .ret v => v | _ => .none))) s')
        (fun e s' => wpAny (model prog w) ((kA dp un gd fr).deeper (envOfC qual scope L' f cdv)) (leaving (envOfC qual scope L' f cdv) e) (fun _ s'' => R (.error e) s'') (fun e' s'' => R (.error e') s'') s')
        { s with heap := h₁, toks := tk })
    (hco : scope.isCoroutine = false) (hgen : scope.isGenerator = false) (hk : scope.kind = .function) : codeAny (model prog w) (kA dp un gd fr) (.call (.ref f) args) R s := by
  have X : K.In s.heap := XB.keeps H.stays
  have T : Top p loose mean mg mb s.heap := TB.keeps H.stays
  refine codeAny_call_function (fd := fnOf name qual params body scope dV kV doc pm an cdv ct) hroom (X _ _ ho) rfl hco hgen rfl (codeRec_of X hcd) (hbind _ _ _ _ ?_)
  refine wpAny_newFunctionEnv_cells hk (kindsX hkind _) fun env' he s' x => ?_
  subst he
  refine ⟨T.nolimit.keeps x.toInCall.keep, codeAny_func ?_⟩
  obtain ⟨h₁, tk, rfl, _⟩ := x.done
  have hk₁ := x.toInCall.keep
  obtain ⟨cells, NC, Y⟩ := Cl.news (h₀ := s.heap) (Nat.le_refl _) fun n c hm => ⟨x.cell n c (lookup_of_mem_nodup (cellsFrom_names scope.names 0 (s.heap.objs.size + 1) [] [] rfl ▸ hnd) hm), x.above n c hm⟩
  exact h s.heap.objs.size h₁ tk cells ⟨x.toInCall.ns, fun b o e => hk₁ b o e, Nat.le_refl _⟩ NC Y H.below X T H.dicts
end
end SCore2
section SExtend
open PySem PySem.W PyProof.Rows PySem.Calls PySem.Spec
set_option maxRecDepth 100000
/-- what a list that is filled from an iterator asks of it: between two steps, at the end -/
structure Pulls (prog : Program) (w : World) (A : Around) (I S : Addr) (n : Nat) (T : Value) (St Fin : List Value → Shared → Prop) : Prop where
  notList : (T == Value.type "list") = false
  notTup : (T == Value.type "tuple") = false
  stable : ∀ acc s h', St acc s → Heap.SameBut S s.heap h' → St acc { s with heap := h' }
  ty : ∀ s (Q : Value → Shared → Prop) (E : Value → Shared → Prop), St [] s → Q T s → wpAny (model prog w) A (typeOf (.ref I)) Q E s
  len : ∀ s (Q : Option Value → Shared → Prop) (E : Value → Shared → Prop), St [] s → Q none s → wpAny (model prog w) A (specialOf (.ref I) (Str.ofString "__len__")) Q E s
  hint : ∀ s (Q : Option Value → Shared → Prop) (E : Value → Shared → Prop), St [] s → Q none s → wpAny (model prog w) A (specialOf (.ref I) (Str.ofString "__length_hint__")) Q E s
  self : ∀ s (E : Value → Shared → Prop), St [] s → wpAny (model prog w) A (pyIter (.ref I)) (fun v s' => v = .ref I ∧ St [] s' ∧ ∀ o, s.heap.get? S = some o → s'.heap.get? S = some o) E s
  item : ∀ acc s (E : Value → Shared → Prop), acc.length < n → St acc s → (∃ o, s.heap.get? S = some o) → wpAny (model prog w) A (pyNext (.ref I)) (fun r s' => ∃ v, r = some v ∧ St (acc ++ [v]) s' ∧ ∀ o, s.heap.get? S = some o → s'.heap.get? S = some o) E s
  done : ∀ acc s (E : Value → Shared → Prop), acc.length = n → St acc s → (∃ o, s.heap.get? S = some o) → wpAny (model prog w) A (pyNext (.ref I)) (fun r s' => r = none ∧ Fin acc s' ∧ ∀ o, s.heap.get? S = some o → s'.heap.get? S = some o) E s

noncomputable abbrev seqL (acc : List Value) (c : Nat) : Obj := { cls := .type "list", dict := none, data := .seq acc.toArray c, slots := #[] }
section
variable {prog : Program} {w : World} {A : Around} {R : Result → Shared → Prop} {I S : Addr} {n : Nat} {T : Value} {St Fin : List Value → Shared → Prop}
theorem pulls_loop (W : Pulls prog w A.in1 I S n T St Fin) (hn : n ≤ sizeLine) (res : Value) :
    ∀ (k : Nat) (acc : List Value) (s : Shared) (c : Nat), n - acc.length = k → acc.length ≤ n → St acc s → s.heap.get? S = some (seqL acc c) →
      (∀ acc s' c', acc.length = n → Fin acc s' → s'.heap.get? S = some (seqL acc c') → R (.ok (.ret res)) s') →
      codeAny (model prog w) A (.builtin "list.extend.loop" ⟨[.ref S, .ref I, res], []⟩) R s := by
  intro k
  induction k with
  | zero =>
    intro acc s c hk hi hst hS hR
    have hin : acc.length = n := by omega
    refine codeAny_builtin F.entry_extend_loop ?_
    rw [Around.under_plainId F.plain_extend_loop _]
    show wpAny _ A.in1 (pyNext (.ref I) >>= _) _ _ s
    refine wpAny_bind (wpAny_mono (W.done acc s _ hin hst ⟨_, hS⟩) (fun r s' hr => ?_) fun _ _ e => e)
    obtain ⟨rfl, hf, hk⟩ := hr
    exact wpAny_pure (hR acc s' c hin hf (hk _ hS))
  | succ k ih =>
    intro acc s c hk hi hst hS hR
    have hlt : acc.length < n := by omega
    refine codeAny_builtin F.entry_extend_loop ?_
    rw [Around.under_plainId F.plain_extend_loop _]
    show wpAny _ A.in1 (pyNext (.ref I) >>= _) _ _ s
    refine wpAny_bind (wpAny_mono (W.item acc s _ hlt hst ⟨_, hS⟩) (fun r s' hr => ?_) fun _ _ e => e)
    obtain ⟨v, rfl, hst', hk'⟩ := hr
    have hS' := hk' _ hS
    show wpAny _ A.in1 (updateSeq S (·.push v) >>= _) _ _ _
    refine wpAny_bind ?_
    obtain ⟨c', e'⟩ : ∃ c', (s'.heap.update S (Obj.mapSeq (·.push v))).get? S = some (seqL (acc ++ [v]) c') := by
      have e := Heap.get?_update_self (Obj.mapSeq (·.push v)) hS' rfl
      exact ⟨_, e.trans (by simp [Obj.mapSeq, seqL]; rfl)⟩
    refine wpAny_updateSeq hS' rfl (wpAny_pure ⟨plainId_quiet F.plain_extend_loop _, ih (acc ++ [v]) _ c' (by simp; omega) (by simp; omega) (W.stable _ _ _ hst' (Heap.SameBut.update ..)) e' hR⟩)
      (by show acc.toArray.size ≤ sizeLine; rw [List.size_toArray]; omega) (by show (acc.toArray.push v).size ≤ sizeLine + 1; rw [Array.size_push, List.size_toArray]; omega)

theorem pulls_extend {s : Shared} {c₀ : Nat} (W : Pulls prog w A.in1 I S n T St Fin) (hn : n ≤ sizeLine) (res : Value) (hSI : S ≠ I) (hst : St [] s) (hS : s.heap.get? S = some (seqL [] c₀))
    (hR : ∀ acc s' c', acc.length = n → Fin acc s' → s'.heap.get? S = some (seqL acc c') → R (.ok (.ret res)) s') :
    wpAny (model prog w) A.in1 (Builtin.List.listExtendWith (.ref S) (.ref I) res)
      (fun fin s' => match fin with | .done f => R (.ok f) s' | .again c' => c'.quiet = true ∧ codeAny (model prog w) A c' R s') (fun e s' => R (.error e) s') s := by
  unfold Builtin.List.listExtendWith
  refine wpAny_bind (W.ty _ _ _ hst ?_)
  have h1 : Builtin.List.listSameRef (.ref S) (.ref I) = false := by simp [Builtin.List.listSameRef, hSI]
  simp only [h1, W.notList, W.notTup, Bool.or_false, Bool.false_eq_true, if_false]
  refine wpAny_bind (wpAny_mono (W.self _ _ hst) (fun v s₁ hv => ?_) fun _ _ e => e)
  obtain ⟨rfl, hst₁, hk₁⟩ := hv
  have hS₁ := hk₁ _ hS
  refine wpAny_bind (wpAny_holding ?_)
  unfold Builtin.List.listLengthHint
  refine wpAny_bind (W.len _ _ _ hst₁ ?_)
  show wpAny _ A.in1 (specialOf (Value.ref I) (Str.ofString "__length_hint__") >>= _) _ _ _
  refine wpAny_bind (W.hint _ _ _ hst₁ ?_)
  refine wpAny_pure ?_
  show wpAny _ A.in1 (rule "list.extend.makes-room" >>= fun _ => Builtin.List.listTouch (.ref S) >>= fun _ =>
    again (.builtin "list.extend.loop" ⟨[.ref S, .ref I, res], []⟩)) _ _ _
  refine wpAny_bind (wpAny_rule ?_)
  refine wpAny_bind ?_
  show wpAny _ A.in1 (updateSeq S (·.push .none) >>= fun _ => updateSeq S (·.pop)) _ _ _
  refine wpAny_bind (wpAny_updateSeq hS₁ rfl ?_)
  have hS₂ := Heap.get?_update_self (Obj.mapSeq (·.push Value.none)) hS₁ rfl
  refine wpAny_updateSeq (hz := by seq_fits) hS₂ rfl ?_
  have hS₃ := Heap.get?_update_self (Obj.mapSeq (·.pop)) hS₂ rfl
  exact wpAny_pure ⟨plainId_quiet F.plain_extend_loop _, pulls_loop W hn res n [] _ _ rfl (Nat.zero_le _)
    (W.stable _ _ _ (W.stable _ _ _ hst₁ (Heap.SameBut.update ..)) (Heap.SameBut.update ..)) hS₃ hR⟩
end
section
variable {prog : Program} {w : World} {A : Around} {E : Value → Shared → Prop} {s : Shared} {I : Addr} {n : Nat} {T : Value} {St Fin : List Value → Shared → Prop}
/-- what sorted() and others collect -/
theorem pulls_collect {Q : List Value → Shared → Prop} (W : Pulls prog w A.in1 I s.heap.objs.size n T St Fin) (hn : n ≤ sizeLine) (hI : s.heap.objs.size ≠ I) (hst : St [] { s with heap := s.heap.push (seqL [] 0) })
    (hQ : ∀ acc s', acc.length = n → Fin acc s' → (∃ o, s'.heap.get? s.heap.objs.size = some o) → Q acc s') : wpAny (model prog w) A (collect (.ref I)) Q E s := by
  unfold collect
  refine wpAny_bind (wpAny_runValue (codeAny_builtin F.entry_proto_collect ?_))
  rw [Around.under_plainId F.plain_proto_collect _]
  show wpAny _ A.in1 (newList [] >>= fun l => again (.builtin "list.__iadd__" ⟨[l, .ref I], []⟩)) _ _ s
  refine wpAny_bind (wpAny_newObj_type ?_)
  refine wpAny_pure ⟨plainId_quiet F.plain_list_iadd _, codeAny_builtin F.entry_list_iadd ?_⟩
  rw [Around.under_plainId F.plain_list_iadd _]
  show wpAny _ A.in1 (Builtin.List.listExtendWith (.ref s.heap.objs.size) (.ref I) (.ref s.heap.objs.size)) _ _ _
  refine pulls_extend (R := fun r s' => match r with
    | .ok (.ret v) => wpAny (model prog w) A (match v with | .ref a => do (match (← load a).data with | .seq xs _ => pure xs.toList | _ => unsupported "internal:collect") | _ => unsupported "internal:collect") Q E s'
    | .ok _ => False
    | .error e => E e s') W hn _ hI hst (Heap.get?_push_size _ rfl) fun acc s' c' hl hf hS => ?_
  show wpAny _ A (load s.heap.objs.size >>= _) _ _ s'
  refine wpAny_bind (wpAny_load hS ?_)
  exact wpAny_pure (hQ acc s' hl hf ⟨_, hS⟩)

/-- list(I) -/
theorem pulls_list {Q : Value → Shared → Prop} (W : Pulls prog w A.in1.in1 I s.heap.objs.size n T St Fin) (hn : n ≤ sizeLine) (hI : s.heap.objs.size ≠ I) (hst : St [] { s with heap := s.heap.push (seqL [] 0) })
    (hQ : ∀ acc s' c', acc.length = n → Fin acc s' → s'.heap.get? s.heap.objs.size = some (seqL acc c') → Q (.ref s.heap.objs.size) s') : wpAny (model prog w) A (call (.type "list") [.ref I]) Q E s := by
  refine callType_codes (Q₁ := fun obj s₁ => obj = .ref s.heap.objs.size ∧ s₁ = { s with heap := s.heap.push { cls := .type "list", data := .seq #[] } }) F.called_list (F.typeCall_list_1 _) F.entry_list_init
    (code_list_new _ ⟨rfl, rfl⟩) fun obj s₁ h₁ => ?_
  obtain ⟨rfl, rfl⟩ := h₁
  have hS : (s.heap.push { cls := .type "list", data := .seq #[] }).get? s.heap.objs.size = some { cls := .type "list", data := .seq #[] } := Heap.get?_push_size _ rfl
  refine ⟨⟨_, hS, rfl⟩, F.args_list_init_2 _ _, ?_⟩
  show wpAny _ A.in1.in1 (do let old ← Builtin.List.listItems (.ref s.heap.objs.size); Builtin.List.listUpdate (.ref s.heap.objs.size) (fun _ => #[]); letGo old.toList.reverse; Builtin.List.listExtendWith (.ref s.heap.objs.size) (.ref I) .none) _ _ _
  refine wpAny_bind ?_
  unfold Builtin.List.listItems
  refine wpAny_bind (wpAny_seqItems hS rfl (wpAny_pure ?_))
  show wpAny _ A.in1.in1 (updateSeq s.heap.objs.size (fun _ => #[]) >>= fun _ => letGo (#[] : Array Value).toList.reverse >>= fun _ => Builtin.List.listExtendWith (.ref s.heap.objs.size) (.ref I) .none) _ _ _
  refine wpAny_bind (wpAny_updateSeq hS rfl ?_)
  have hS₂ := Heap.get?_update_self (Obj.mapSeq (fun _ => (#[] : Array Value))) hS rfl
  refine wpAny_bind (wpAny_letGo ?_)
  refine pulls_extend (A := A.in1) W hn _ hI (W.stable _ _ _ hst (Heap.SameBut.update ..)) hS₂ fun acc s' c' hl hf hS' => ?_
  exact ⟨rfl, hQ acc s' c' hl hf hS'⟩
end
end SExtend
section SHV
open PySem PySem.Float64
set_option maxRecDepth 100000
/-- a float whose value is h halves -/
noncomputable def HV (x : UInt64) (h : Int) : Prop := ∃ a m e, decode x = .fin a m e ∧ val x = h * 2 ^ 1073
theorem V_repr (h : Nat) (hh : h < 2 ^ 52) : ∃ t, V t = h * 2 ^ 1073 ∧ t < infMag := by
  by_cases h0 : h = 0
  · subst h0
    exact ⟨0, by rw [V_zero, Nat.zero_mul], by decide⟩
  · have hl := (Nat.log2_lt h0).mpr hh
    have h1 : 2 ^ h.log2 ≤ h := Nat.log2_self_le h0
    have h2 : h < 2 ^ (h.log2 + 1) := Nat.lt_log2_self
    generalize hL : h.log2 = l at *
    have e1 : 2 ^ l * 2 ^ (52 - l) = 2 ^ 52 := by rw [← Nat.pow_add]; congr 1; omega
    have e2 : 2 ^ (l + 1) * 2 ^ (52 - l) = 2 ^ 53 := by rw [← Nat.pow_add]; congr 1; omega
    have q1 : 2 ^ 52 ≤ h * 2 ^ (52 - l) := by rw [← e1]; exact Nat.mul_le_mul_right _ h1
    have q2 : h * 2 ^ (52 - l) < 2 ^ 53 := by rw [← e2]; exact Nat.mul_lt_mul_of_pos_right h2 (Nat.two_pow_pos _)
    refine ⟨(1021 + l) * 2 ^ 52 + h * 2 ^ (52 - l), ?_, ?_⟩
    · rw [V_at (Nat.le_of_lt q2) (.inl q1), Nat.mul_assoc, ← Nat.pow_add]
      congr 2
      omega
    · have : infMag = 2047 * 2 ^ 52 := rfl
      omega
theorem hv_exact {r : UInt64} {neg : Bool} {W D h : Nat} (R : Right r neg W D) (hD : 0 < D) (hW : W = D * (h * 2 ^ 1073)) (hh : h < 2 ^ 52) : ∃ m e, decode r = .fin neg m e ∧ val r = sgn neg (h * 2 ^ 1073) := by
  obtain ⟨t, rfl, ht, hov, hn⟩ := R
  obtain ⟨t0, e0, _⟩ := V_repr h hh
  have hlt : t < infMag := by
    refine Nat.lt_of_le_of_ne ht fun e => ?_
    have h1 := hov.mp e
    rw [hW] at h1
    have h2 : 2 * (D * (h * 2 ^ 1073)) = D * (2 * (h * 2 ^ 1073)) := by ac_rfl
    rw [h2] at h1
    have h3 := Nat.le_of_mul_le_mul_left h1 hD
    have h4 : 2 * (h * 2 ^ 1073) ≤ 2 * (2 ^ 52 * 2 ^ 1073) := Nat.mul_le_mul_left _ (Nat.mul_le_mul_right _ (Nat.le_of_lt hh))
    exact absurd (Nat.le_trans h3 h4) (by decide)
  have h1 := (hn hlt t0).1
  rw [e0, hW] at h1
  have h2 : V t = h * 2 ^ 1073 := by
    have z : dist (D * (h * 2 ^ 1073)) (D * (h * 2 ^ 1073)) = 0 := by unfold dist; omega
    rw [z, dist_mul] at h1
    have h3 := Nat.le_zero.mp h1
    rcases Nat.mul_eq_zero.mp h3 with h4 | h4
    · omega
    · unfold dist at h4; omega
  obtain ⟨m, e, hd, _⟩ := decode_pack neg hlt
  exact ⟨m, e, hd, by rw [val_pack neg hlt, h2]⟩
theorem sgn_of {i : Int} {k : Nat} : sgn (decide (i < 0)) (i.natAbs * k) = i * k := by
  rw [sgn_mul]
  congr 1
  unfold sgn
  by_cases h : i < 0
  · rw [decide_eq_true h]; simp; omega
  · rw [decide_eq_false h]; simp; omega
theorem K_pos : (0 : Int) < 2 ^ 1073 := by decide
theorem K_nat : ((2 ^ 1073 : Nat) : Int) = 2 ^ 1073 := by norm_cast
theorem hv_ofInt {i : Int} (h : i.natAbs < 2 ^ 50) : HV (ofInt i) (2 * i) := by
  obtain ⟨m, e, hd, hv⟩ := hv_exact (h := 2 * i.natAbs) (ofInt_right i) (by decide) (by rw [Nat.one_mul, Nat.pow_succ 2 1073]; ac_rfl) (by omega)
  refine ⟨_, m, e, hd, ?_⟩
  rw [hv]
  have : 2 * i.natAbs * 2 ^ 1073 = i.natAbs * (2 * 2 ^ 1073) := by ac_rfl
  rw [this, sgn_of, Int.natCast_mul, K_nat]
  generalize (2 : Int) ^ 1073 = K
  have : i * (((2 : Nat) : Int) * K) = 2 * i * K := by rw [← Int.mul_assoc]; congr 1; omega
  exact this
theorem hv_half {n : Nat} (h : n < 2 ^ 50) : HV (ofFrac false n 2) n := by
  obtain ⟨m, e, hd, hv⟩ := hv_exact (r := ofFrac false n 2) (neg := false) (h := n) (W := n * 2 ^ 1073) (D := 1) (ofFrac_right (neg := false) (n := n) (d := 2) (W := n * 2 ^ 1073) (D := 1) (by decide) (by rw [Nat.mul_one, Nat.pow_succ 2 1073, Nat.mul_assoc]) (by decide)) (by decide) (by rw [Nat.one_mul]) (by omega)
  refine ⟨_, m, e, hd, ?_⟩
  rw [hv]
  show ((n * 2 ^ 1073 : Nat) : Int) = _
  rw [Int.natCast_mul, K_nat]
theorem hv_zero (s : Bool) : HV (zero s) 0 := by
  obtain ⟨m, e, hd, hv⟩ := decode_pack s (t := 0) (by decide)
  refine ⟨s, m, e, hd, ?_⟩
  show val (pack s 0) = _
  rw [val_pack s (by decide), V_zero]
  unfold sgn; cases s <;> simp
theorem natAbs_K (h : Int) : (h * 2 ^ 1073).natAbs = h.natAbs * 2 ^ 1073 := by
  rw [Int.natAbs_mul]
  congr 1
theorem hv_of_right {r : UInt64} {h : Int} (R : Right r (decide (h * 2 ^ 1073 < 0)) (h * 2 ^ 1073).natAbs 1) (hh : h.natAbs < 2 ^ 52) : HV r h := by
  obtain ⟨m, e, hd, hv⟩ := hv_exact (h := h.natAbs) R (by decide) (by rw [Nat.one_mul, natAbs_K]) hh
  refine ⟨_, m, e, hd, ?_⟩
  rw [hv]
  have : decide (h * 2 ^ 1073 < 0) = decide (h < 0) := by
    have hK := K_pos
    generalize (2 : Int) ^ 1073 = K at *
    apply decide_eq_decide.mpr
    constructor
    · intro q
      exact Int.not_le.mp fun z => absurd q (Int.not_lt.mpr (Int.mul_nonneg z (Int.le_of_lt hK)))
    · intro q; exact Int.mul_neg_of_neg_of_pos q hK
  rw [this, sgn_of, K_nat]
theorem mul_K_ne {h : Int} (h0 : h ≠ 0) : h * 2 ^ 1073 ≠ 0 := by
  have hK := K_pos
  generalize (2 : Int) ^ 1073 = K at *
  intro q
  rcases Int.mul_eq_zero.mp q with q | q
  · exact h0 q
  · rw [q] at hK; exact Int.lt_irrefl _ hK
theorem hv_add {x y : UInt64} {h k : Int} (hx : HV x h) (hy : HV y k) (hh : (h + k).natAbs < 2 ^ 52) : HV (add x y) (h + k) := by
  obtain ⟨a, m, e, dx, vx⟩ := hx
  obtain ⟨b, n, f, dy, vy⟩ := hy
  have R := add_right dx dy
  rw [vx, vy, ← Int.add_mul] at R
  by_cases h0 : h + k = 0
  · rw [R.1 (by rw [h0, Int.zero_mul]), h0]; exact hv_zero _
  · exact hv_of_right (R.2 (mul_K_ne h0)) hh
theorem hv_sub {x y : UInt64} {h k : Int} (hx : HV x h) (hy : HV y k) (hh : (h - k).natAbs < 2 ^ 52) : HV (sub x y) (h - k) := by
  obtain ⟨a, m, e, dx, vx⟩ := hx
  obtain ⟨b, n, f, dy, vy⟩ := hy
  have R := sub_right dx dy
  rw [vx, vy, ← Int.sub_mul] at R
  by_cases h0 : h - k = 0
  · rw [R.1 (by rw [h0, Int.zero_mul]), h0]; exact hv_zero _
  · exact hv_of_right (R.2 (mul_K_ne h0)) hh
theorem hv_isZero {x : UInt64} {h : Int} (hx : HV x h) : isZero x = (h == 0) := by
  obtain ⟨a, m, e, dx, vx⟩ := hx
  unfold isZero
  rw [dx]
  have hm : m = 0 ↔ h = 0 := by
    have hv := val_natAbs dx
    rw [vx, natAbs_K] at hv
    constructor
    · intro q
      rw [q, Nat.zero_mul] at hv
      rcases Nat.mul_eq_zero.mp hv with z | z
      · omega
      · exact absurd z (Nat.ne_of_gt (Nat.two_pow_pos _))
    · intro q
      rw [q, Int.natAbs_zero, Nat.zero_mul] at hv
      rcases Nat.mul_eq_zero.mp hv.symm with z | z
      · exact z
      · exact absurd z (Nat.ne_of_gt (Nat.two_pow_pos _))
  by_cases h0 : h = 0
  · rw [hm.mpr h0, h0]; rfl
  · have : m ≠ 0 := fun q => h0 (hm.mp q)
    obtain ⟨j, rfl⟩ := Nat.exists_eq_succ_of_ne_zero this
    rw [beq_false_of_ne h0]
    rfl
theorem hv_isFinite {x : UInt64} {h : Int} (hx : HV x h) : isFinite x = true := by
  obtain ⟨a, m, e, dx, vx⟩ := hx
  unfold isFinite; rw [dx]
theorem hv_notInf {x : UInt64} {h : Int} (hx : HV x h) : isInf x = false := by
  obtain ⟨a, m, e, dx, vx⟩ := hx
  unfold isInf; rw [dx]
theorem compare_K (h k : Int) : compare (h * 2 ^ 1073) (k * 2 ^ 1073) = compare h k := by
  have hK := K_pos
  generalize (2 : Int) ^ 1073 = K at *
  rcases Int.lt_trichotomy h k with q | q | q
  · rw [Int.compare_eq_lt.mpr q, Int.compare_eq_lt.mpr (Int.mul_lt_mul_of_pos_right q hK)]
  · subst q; simp
  · rw [Int.compare_eq_gt.mpr q, Int.compare_eq_gt.mpr (Int.mul_lt_mul_of_pos_right q hK)]
theorem hv_cmp {x y : UInt64} {h k : Int} (hx : HV x h) (hy : HV y k) : cmp x y = some (compare h k) := by
  obtain ⟨a, m, e, dx, vx⟩ := hx
  obtain ⟨b, n, f, dy, vy⟩ := hy
  rw [cmp_right dx dy, vx, vy, compare_K]
theorem hv_cmpInt {x : UInt64} {h : Int} (hx : HV x h) (i : Int) : cmpInt x i = some (compare h (2 * i)) := by
  obtain ⟨a, m, e, dx, vx⟩ := hx
  have : i * 2 ^ 1074 = 2 * i * 2 ^ 1073 := by
    rw [Int.pow_succ 2 1073]
    generalize (2 : Int) ^ 1073 = K
    rw [← Int.mul_assoc, Int.mul_right_comm, Int.mul_comm i 2]
  rw [cmpInt_right dx, vx, this, compare_K]
theorem sign_of {x : UInt64} {a : Bool} {m : Nat} {e h : Int} (dx : decode x = .fin a m e) (vx : val x = h * 2 ^ 1073) (h0 : h ≠ 0) : a = decide (h < 0) := by
  have v2 := val_eq dx
  rw [vx] at v2
  have hK := K_pos
  generalize (2 : Int) ^ 1073 = K at *
  generalize m * 2 ^ (e + 1074).toNat = M at v2
  cases a
  · have : 0 ≤ h * K := by rw [v2]; unfold sgn; simp
    rw [decide_eq_false]
    intro q
    exact absurd (Int.mul_neg_of_neg_of_pos q hK) (Int.not_lt.mpr this)
  · have : h * K ≤ 0 := by rw [v2]; unfold sgn; simp
    rw [decide_eq_true]
    rcases Int.lt_trichotomy h 0 with q | q | q
    · exact q
    · exact absurd q h0
    · exact absurd (Int.mul_pos q hK) (Int.not_lt.mpr this)
theorem hv_div {x y : UInt64} {h k q : Int} (hx : HV x h) (hy : HV y k) (k0 : k ≠ 0) (hq : q * k = 2 * h) (hh : q.natAbs < 2 ^ 52) : HV (div x y) q := by
  obtain ⟨a, m, e, dx, vx⟩ := hx
  obtain ⟨b, n, f, dy, vy⟩ := hy
  have hn : n ≠ 0 := fun z => by
    have hv := val_natAbs dy
    rw [vy, natAbs_K, z, Nat.zero_mul] at hv
    rcases Nat.mul_eq_zero.mp hv with z | z
    · omega
    · exact absurd z (Nat.ne_of_gt (Nat.two_pow_pos _))
  have R := div_right dx dy hn
  rw [vx, vy, natAbs_K, natAbs_K] at R
  have hqn : q.natAbs * k.natAbs = 2 * h.natAbs := by rw [← Int.natAbs_mul, hq, Int.natAbs_mul]; rfl
  obtain ⟨m', e', hd, hv⟩ := hv_exact (h := q.natAbs) R (Nat.mul_pos (Int.natAbs_pos.mpr k0) (Nat.two_pow_pos _)) (by
    rw [Nat.pow_succ 2 1073]
    generalize (2 : Nat) ^ 1073 = K
    calc h.natAbs * K * (K * 2) = (2 * h.natAbs) * (K * K) := by ac_rfl
      _ = (q.natAbs * k.natAbs) * (K * K) := by rw [hqn]
      _ = k.natAbs * K * (q.natAbs * K) := by ac_rfl) hh
  refine ⟨_, m', e', hd, ?_⟩
  rw [hv]
  by_cases h0 : h = 0
  · have : q = 0 := by
      rw [h0, Int.mul_zero] at hq
      rcases Int.mul_eq_zero.mp hq with z | z
      · exact z
      · exact absurd z k0
    rw [this]
    unfold sgn
    cases (a != b) <;> simp
  · rw [sign_of dx vx h0, sign_of dy vy k0]
    have : (decide (h < 0) != decide (k < 0)) = decide (q < 0) := by
      have q0 : q ≠ 0 := fun z => by rw [z, Int.zero_mul] at hq; omega
      by_cases p1 : q < 0 <;> by_cases p2 : k < 0
      · have : 0 < q * k := Int.mul_pos_of_neg_of_neg p1 p2
        have : ¬ h < 0 := by omega
        simp [p1, p2, this]
      · have : q * k < 0 := Int.mul_neg_of_neg_of_pos p1 (by omega)
        have : h < 0 := by omega
        simp [p1, p2, this]
      · have : q * k < 0 := Int.mul_neg_of_pos_of_neg (by omega) p2
        have : h < 0 := by omega
        simp [p1, p2, this]
      · have : 0 < q * k := Int.mul_pos (by omega) (by omega)
        have : ¬ h < 0 := by omega
        simp [p1, p2, this]
    rw [this, sgn_of, K_nat]
theorem hv_abs {x : UInt64} {h : Int} (hx : HV x h) : HV (abs x) h.natAbs := by
  obtain ⟨a, m, e, dx, vx⟩ := hx
  have hn : isNaN x = false := by unfold isNaN; rw [dx]
  have ha : abs x = pack false (x.toNat % 2 ^ 63) := by unfold abs; rw [hn]; rfl
  have ht := pack_toNat false (t := x.toNat % 2 ^ 63) (Nat.mod_lt _ (by decide))
  have h1 : (abs x).toNat = x.toNat % 2 ^ 63 := by rw [ha, ht]; simp
  have hd : decode (abs x) = .fin false m e := by
    unfold decode at dx ⊢
    have e1 : (abs x).toNat / 2 ^ 63 = 0 := by rw [h1]; omega
    have e2 : (abs x).toNat / 2 ^ 52 % 2048 = x.toNat / 2 ^ 52 % 2048 := by rw [h1]; omega
    have e3 : (abs x).toNat % 2 ^ 52 = x.toNat % 2 ^ 52 := by rw [h1]; omega
    simp only [e1, e2, e3] at dx ⊢
    split at dx
    · split at dx <;> cases dx
    · rename_i c1
      rw [if_neg c1]
      split at dx
      · rename_i c2
        rw [if_pos c2]
        cases dx
        rfl
      · rename_i c2
        rw [if_neg c2]
        cases dx
        rfl
  refine ⟨false, m, e, hd, ?_⟩
  rw [val_eq hd]
  have v2 := val_natAbs dx
  rw [vx, natAbs_K] at v2
  rw [← v2]
  show ((h.natAbs * 2 ^ 1073 : Nat) : Int) = _
  rw [Int.natCast_mul, K_nat]
/-- what fsum keeps: nothing, or one exact partial sum -/
noncomputable def FsSt (ps : List UInt64) (S : Int) : Prop := (ps = [] ∧ S = 0) ∨ ∃ p, ps = [p] ∧ HV p (2 * S)
theorem fs_step {ps : List UInt64} {S v : Int} {x : UInt64} (hp : FsSt ps S) (hx : HV x (2 * v)) (hS : S.natAbs < 2 ^ 40) (hv : v.natAbs < 2 ^ 40) :
    isFinite (fsumAdd ps x).2 = true ∧ FsSt (if isZero (fsumAdd ps x).2 = true then (fsumAdd ps x).1 else (fsumAdd ps x).1 ++ [(fsumAdd ps x).2]) (S + v) := by
  have key : (fsumAdd ps x).1 = [] ∧ HV (fsumAdd ps x).2 (2 * (S + v)) := by
    rcases hp with ⟨rfl, rfl⟩ | ⟨p, rfl, hp⟩
    · exact ⟨rfl, by rw [Int.zero_add]; exact hx⟩
    · have two : ∀ {a b : UInt64} {i j : Int}, HV a (2 * i) → HV b (2 * j) → i.natAbs < 2 ^ 40 → j.natAbs < 2 ^ 40 → HV (add a b) (2 * (i + j)) ∧ isZero (sub b (sub (add a b) a)) = true := by
        intro a b i j ha hb hi hj
        have h1 : HV (add a b) (2 * i + 2 * j) := hv_add ha hb (by omega)
        have h2 : HV (sub (add a b) a) (2 * i + 2 * j - 2 * i) := hv_sub h1 ha (by omega)
        have h3 := hv_sub hb h2 (by omega)
        refine ⟨by rw [Int.mul_add]; exact h1, ?_⟩
        rw [hv_isZero h3]
        have : 2 * j - (2 * i + 2 * j - 2 * i) = 0 := by omega
        rw [this]; rfl
      by_cases c : lt (abs x) (abs p) = true
      · have t := two hp hx hS hv
        have e : fsumAdd [p] x = ([], add p x) := by
          simp only [fsumAdd, c, if_true, t.2]
        rw [e]
        exact ⟨rfl, t.1⟩
      · have t := two hx hp hv hS
        have e : fsumAdd [p] x = ([], add x p) := by
          have c' : lt (abs x) (abs p) = false := by simpa using c
          simp only [fsumAdd, c', Bool.false_eq_true, if_false, if_true, t.2]
        rw [e]
        exact ⟨rfl, by rw [Int.add_comm S v]; exact t.1⟩
  obtain ⟨k1, k2⟩ := key
  refine ⟨hv_isFinite k2, ?_⟩
  rw [k1, hv_isZero k2]
  by_cases c : 2 * (S + v) = 0
  · rw [c, if_pos (by rfl)]
    exact .inl ⟨rfl, by omega⟩
  · rw [beq_false_of_ne c, if_neg (by decide)]
    exact .inr ⟨_, rfl, k2⟩
theorem fs_end {ps : List UInt64} {S : Int} (hp : FsSt ps S) : HV (fsumEnd ps) (2 * S) := by
  rcases hp with ⟨rfl, rfl⟩ | ⟨p, rfl, hp⟩
  · exact hv_zero false
  · exact hp
end SHV
section SFSum
open PySem PySem.W PyProof.Rows PySem.Calls PySem.Spec
set_option maxRecDepth 100000
theorem entry_fsum : entryFor table "math.fsum" = some Builtin.«math.fsum» := entryFor_of_tree (by kernel_rfl)
theorem entry_fsum_loop : entryFor table "math.fsum.loop" = some Builtin.«math.fsum.loop» := entryFor_of_tree (by kernel_rfl)
theorem plain_fsum_loop : plainId "math.fsum.loop" = true := by decide +kernel
theorem plain_fsum : plainId "math.fsum" = true := by decide +kernel
theorem kind_fsum : builtinKind "math.fsum" = none := by decide +kernel
theorem args_fsum (v : Value) : argsOk "math.fsum" ⟨[v], []⟩ := by unfold argsOk; kernel_rfl
theorem bits_back (x : UInt64) : ((x.toNat : Int)).toNat.toUInt64 = x := by simp
noncomputable abbrev bitsT (ps : List UInt64) : Obj := { cls := .type "tuple", data := .seq (ps.map fun x => rawInt x.toNat).toArray }
section
variable {prog : Program} {w : World} {A : Around}
theorem fsum_loop (hh : A.handled = none) {vs : List Value} {ns : List Int} (hi : IntsAre vs ns) (hb : ∀ z ∈ ns, z.natAbs < 1000) (h64 : ns.length < 64) {R : Result → Shared → Prop} {it l sp : Addr} :
    ∀ (k i : Nat) (s : Shared) (pt : Addr) (ps : List UInt64) (S : Int), k + i = ns.length → s.heap.IsListIter it l i → s.heap.IsList l vs.toArray → s.heap.get? pt = some (bitsT ps) → s.heap.get? sp = some (bitsT [Float64.zero false, Float64.zero false]) →
      l ≠ it → pt ≠ it → sp ≠ it → FsSt ps S → S = (ns.take i).sum → S.natAbs ≤ 1000 * i →
      (∀ h' tk' x t, HV x (2 * ns.sum) → (∀ b o, b ≠ it → s.heap.get? b = some o → h'.get? b = some o) → R (.ok (.ret (.float x t))) { s with heap := h', toks := tk' }) →
      codeAny (model prog w) A (.builtin "math.fsum.loop" ⟨[.ref it, .ref pt, .ref sp], []⟩) R s := by
  intro k
  induction k with
  | zero =>
    intro i s pt ps S hki hit hl hpt hsp n1 n2 n3 hps hS hSb hR
    have hin : i = ns.length := by omega
    refine codeAny_builtin entry_fsum_loop ?_
    rw [Around.under_plainId plain_fsum_loop _]
    refine wpAny_bind ?_
    show wpAny _ _ (seqItems? (.ref pt) >>= _) _ _ _
    refine wpAny_bind (wpAny_seqItems hpt rfl (wpAny_pure ?_))
    refine wpAny_bind ?_
    show wpAny _ _ (seqItems? (.ref sp) >>= _) _ _ _
    refine wpAny_bind (wpAny_seqItems hsp rfl (wpAny_pure ?_))
    simp only [Option.getD_some, List.map_map, Function.comp_def, rawInt, bits_back, List.map_id_fun', id, List.map_cons, List.map_nil]
    refine wpAny_bind (wpAny_pyNext_list_end hh hit hl (by simp [hin, hi.length]) fun h' hk => ?_)
    dsimp only
    rw [hv_isZero (hv_zero false), if_neg (by decide)]
    show wpAny _ _ (Builtin.Float.retFloat _) _ _ _
    refine wpAny_bind (wpAny_mkFloat (wpAny_pure ?_))
    have e : S = ns.sum := by rw [hS, hin, List.take_length]
    exact hR _ _ _ _ (e ▸ fs_end hps) fun b o hb e => hk b o hb e
  | succ k ih =>
    intro i s pt ps S hki hit hl hpt hsp n1 n2 n3 hps hS hSb hR
    have hin : i < ns.length := by omega
    obtain ⟨t, hv⟩ : ∃ t, vs.toArray[i]? = some (.int ns[i] t) := by
      have hl' : i < vs.length := by have := hi.length; omega
      obtain ⟨z, t, e, hz⟩ := IntsAre.at hi i vs[i] (by simp [hl'])
      rw [List.getElem?_eq_getElem hin] at hz
      exact ⟨t, by simp [hl', e, Option.some.inj hz]⟩
    have hbi := hb ns[i] (List.getElem_mem hin)
    refine codeAny_builtin entry_fsum_loop ?_
    rw [Around.under_plainId plain_fsum_loop _]
    refine wpAny_bind ?_
    show wpAny _ _ (seqItems? (.ref pt) >>= _) _ _ _
    refine wpAny_bind (wpAny_seqItems hpt rfl (wpAny_pure ?_))
    refine wpAny_bind ?_
    show wpAny _ _ (seqItems? (.ref sp) >>= _) _ _ _
    refine wpAny_bind (wpAny_seqItems hsp rfl (wpAny_pure ?_))
    simp only [Option.getD_some, List.map_map, Function.comp_def, rawInt, bits_back, List.map_id_fun', id, List.map_cons, List.map_nil]
    refine wpAny_bind (wpAny_pyNext_list_item hit hl hv fun h' hit' hs' => ?_)
    dsimp only
    refine wpAny_bind (wpAny_holding (Flt.realArg_int hh (fun c => ?_) fun _ => ?_))
    · exfalso
      exact absurd c (Nat.not_le.mpr (Nat.lt_of_lt_of_le hbi (by decide)))
    have st := fs_step (v := ns[i]) hps (hv_ofInt (by omega)) (by omega) (by omega)
    dsimp only
    rw [if_pos st.1]
    refine wpAny_bind ?_
    show wpAny _ _ (newTuple _) _ _ _
    have hlen : ∀ q : List UInt64, FsSt q (S + ns[i]) → (q.map fun x => rawInt x.toNat).length ≤ 1 := fun q hq => by
      rcases hq with ⟨rfl, _⟩ | ⟨p, rfl, _⟩ <;> simp
    have h1 := hlen _ st.2
    refine wpAny_newTuple ?_ (by rw [sizeLine_eq]; omega)
    have pu : ∀ b o, h'.get? b = some o → (h'.push { cls := .type "tuple", data := .seq (List.map (fun x => rawInt (x : UInt64).toNat) (if Float64.isZero (Float64.fsumAdd ps (Float64.ofInt ns[i])).snd = true then (Float64.fsumAdd ps (Float64.ofInt ns[i])).fst else (Float64.fsumAdd ps (Float64.ofInt ns[i])).fst ++ [(Float64.fsumAdd ps (Float64.ofInt ns[i])).snd])).toArray }).get? b = some o := fun b o e => Heap.get?_push_of_some _ e
    obtain ⟨oi, hoi, hci, hdi⟩ := hit'
    have hlt := Heap.lt_size hoi
    have hl2 := hl.extBut hs'.extBut n1
    obtain ⟨ol, hol, hcl, hdl⟩ := hl2
    have htake : (ns.take (i + 1)).sum = (ns.take i).sum + ns[i] := by rw [List.take_succ_eq_append_getElem hin, List.sum_append]; simp
    refine wpAny_pure ⟨plainId_quiet plain_fsum_loop _, ih (i + 1) _ _ _ (S + ns[i]) (by omega) ⟨oi, pu _ _ hoi, hci, hdi⟩ ⟨ol, pu _ _ hol, hcl, hdl⟩ (Heap.get?_push_size _ rfl) (pu _ _ ((hs'.2 _ n3).trans hsp)) n1 (Nat.ne_of_gt hlt) n3 st.2 (by rw [htake, hS]) (by omega) fun h'' tk' x t hx hk => ?_⟩
    exact hR h'' tk' x t hx fun b o hb e => hk b o hb (pu _ _ ((hs'.2 b hb).trans e))
theorem call_fsum (hh : A.handled = none) {s : Shared} {l : Addr} {vs : List Value} {ns : List Int} {Q E : Value → Shared → Prop} (hl : s.heap.IsList l vs.toArray) (hi : IntsAre vs ns) (hb : ∀ z ∈ ns, z.natAbs < 1000) (h64 : ns.length < 64)
    (h : ∀ h' tk' x t, HV x (2 * ns.sum) → (∀ b o, s.heap.get? b = some o → h'.get? b = some o) → Q (.float x t) { s with heap := h', toks := tk' }) : wpAny (model prog w) A (call (.builtin "math.fsum") [.ref l]) Q E s := by
  refine wpAny_call (codeAny_call_builtin plain_fsum entry_fsum ?_)
  have hfin : wpAny (model prog w) A.in1 (Builtin.«math.fsum» ⟨[.ref l], []⟩) (fun fin s' => match fin with
      | .done f => (match (Except.ok f : Result) with | .ok (.ret v) => Q v s' | .ok _ => False | .error e => E e s')
      | .again c' => c'.quiet = true ∧ codeAny (model prog w) A c' (fun r s' => match r with | .ok (.ret v) => Q v s' | .ok _ => False | .error e => E e s') s') E s := by
    unfold Builtin.«math.fsum»
    refine wpAny_bind (m := Builtin.Math.mathOne "fsum" _) (wpAny_of_eq (a := Value.ref l) (by first | rfl | kernel_rfl!) ?_)
    refine wpAny_bind (wpAny_pyIter_list hl ?_)
    have hI : (s.heap.push (liObj l 0)).get? s.heap.objs.size = some (liObj l 0) := Heap.get?_push_size _ rfl
    refine wpAny_bind ?_
    show wpAny _ _ (newTuple _) _ _ _
    refine wpAny_newTuple ?_ (by rw [sizeLine_eq]; simp)
    refine wpAny_bind ?_
    show wpAny _ _ (newTuple _) _ _ _
    refine wpAny_newTuple ?_ (by rw [sizeLine_eq]; simp)
    obtain ⟨ol, hol, hcl, hdl⟩ := hl
    have hne : l ≠ s.heap.objs.size := Nat.ne_of_lt (Heap.lt_size hol)
    refine wpAny_pure ⟨plainId_quiet plain_fsum_loop _, fsum_loop hh hi hb h64 ns.length 0 _ _ [] 0 (by omega) ⟨_, Heap.get?_push_of_some _ (Heap.get?_push_of_some _ hI), rfl, rfl⟩ ⟨ol, Heap.get?_push_of_some _ (Heap.get?_push_of_some _ (Heap.get?_push_of_some _ hol)), hcl, hdl⟩
      (Heap.get?_push_of_some _ (Heap.get?_push_size _ rfl)) (Heap.get?_push_size _ rfl) hne (Nat.ne_of_gt (Heap.lt_size hI)) (Nat.ne_of_gt (Heap.lt_size (Heap.get?_push_of_some _ hI))) (.inl ⟨rfl, rfl⟩) rfl (by simp) fun h' tk' x t hx hk => ?_⟩
    exact h h' tk' x t hx fun b o e => hk b o (Nat.ne_of_lt (Heap.lt_size e)) (Heap.get?_push_of_some _ (Heap.get?_push_of_some _ (Heap.get?_push_of_some _ e)))
  simp only [checkBuiltinCall, kind_fsum]
  cases hsig : Manifest.signature? "math.fsum" with
  | none => exact wpAny_pure hfin
  | some sig =>
    have ha := args_fsum (.ref l)
    simp only [argsOk, hsig] at ha
    show wpAny _ A.in1 (Bind.checkArgs "math.fsum" sig ⟨[.ref l], []⟩) _ _ s
    rw [ha]; exact wpAny_pure hfin
end
end SFSum
section SHdA
open PySem PySem.W PyProof.Rows
/-- a word, and that it is itself: what the kit's name_quick asks for -/
noncomputable def word : PySem.Str := PySem.Str.ofString "a"
theorem word_eq : PySem.Str.ofString "a" = word := rfl
name_quick tw8075568018651887793 for word by word_eq
name_quick tw7486041227233652149 for word by word_eq
name_quick tw14979626087600564940 for word by word_eq
name_quick tw15040288709643333888 for word by word_eq
name_quick tw6733733256287894996 for word by word_eq
name_quick tw3264259588550801142 for word by word_eq
name_quick tw8253183596043897158 for word by word_eq
name_quick tw3778451253796500701 for word by word_eq
name_quick tw3424931102881643321 for word by word_eq
name_quick tw4319705520415482375 for word by word_eq
name_quick tw4552823106982906706 for word by word_eq
name_quick tw15980859228951719591 for word by word_eq
name_quick tw1333364371103165705 for word by word_eq
name_quick tw11729385059970357855 for word by word_eq
name_quick tw10919533547850550483 for word by word_eq
name_quick tw662354867322794072 for word by word_eq
name_quick tw13759679279233594173 for word by word_eq
name_quick tw13789449189825218787 for word by word_eq
name_quick tw11445135464325071761 for word by word_eq
name_quick tw4558998842232669794 for word by word_eq
name_quick tw9759809726879904816 for word by word_eq
name_quick tw11317593695737139937 for word by word_eq
name_quick tw14223099787259518943 for word by word_eq
name_quick tw313226197891681235 for word by word_eq
name_quick tw3820604794100220378 for word by word_eq
name_quick tw18211773271919218964 for word by word_eq
name_quick tw3619232141914619222 for word by word_eq
name_quick tw5268983451555188008 for word by word_eq
name_quick tw470574548607681690 for word by word_eq
name_quick tw14884601019740666482 for word by word_eq
name_quick tw5706481520468235054 for word by word_eq
name_quick tw136631920214876835 for word by word_eq
name_quick tw1184552218554016812 for word by word_eq
name_quick tw12233582284571471492 for word by word_eq
name_quick tw17532440430192770315 for word by word_eq
name_quick tw16349804527192203551 for word by word_eq
name_quick tw17552769576498331613 for word by word_eq
name_quick tw16947794391021106201 for word by word_eq
name_quick tw7299303143086499733 for word by word_eq
name_quick tw11130039905162102590 for word by word_eq
name_quick tw878741703135273975 for word by word_eq
name_quick tw5902227825499142635 for word by word_eq
name_quick tw900395245841561262 for word by word_eq
name_quick tw12835720964997663042 for word by word_eq
name_quick tw10010936943081839664 for word by word_eq
name_quick tw15480198773659482676 for word by word_eq
name_quick tw13776390136698705113 for word by word_eq
name_quick tw15823609455315575823 for word by word_eq
name_quick tw13016732220969518872 for word by word_eq
name_quick tw13642483538084851733 for word by word_eq
name_quick tw12177639751122801600 for word by word_eq
name_quick tw10007627690174824804 for word by word_eq
name_quick tw5978237884098788730 for word by word_eq
name_quick tw12945451867199242903 for word by word_eq
name_quick tw4636218855388986860 for word by word_eq
name_quick tw17279654841073493023 for word by word_eq
name_quick tw6363645014702824404 for word by word_eq
name_quick tw3560238982266916124 for word by word_eq
name_quick tw6434265647005701932 for word by word_eq
name_quick tw2447775223705975068 for word by word_eq
name_quick tw4302124980754421698 for word by word_eq
name_quick tw4980102563643897964 for word by word_eq
name_quick tw17001327861769816259 for word by word_eq
name_quick tw1829445100760108279 for word by word_eq
name_quick tw9564595351457756722 for word by word_eq
name_quick tw16349216596472256690 for word by word_eq
name_quick tw8860024209350480642 for word by word_eq
name_quick tw724751600484774222 for word by word_eq
name_quick tw6589095468515690095 for word by word_eq
name_quick tw2670528217467546775 for word by word_eq
name_quick tw8376441433122354887 for word by word_eq
name_quick tw3856783459128436802 for word by word_eq
name_quick tw10205541121877940668 for word by word_eq
name_quick tw13640514254501968386 for word by word_eq
name_quick tw1537898542681612871 for word by word_eq
name_quick tw18101931140130867144 for word by word_eq
name_quick tw17672482021469178181 for word by word_eq
name_quick tw1258299570235058372 for word by word_eq
name_quick tw6434138532213402376 for word by word_eq
name_quick tw12866136484021002089 for word by word_eq
name_quick tw12734952128020822468 for word by word_eq
name_quick tw1702518465993881591 for word by word_eq
name_quick tw10073347824450446311 for word by word_eq
name_quick tw11186114360453789277 for word by word_eq
name_quick tw17057272898397164401 for word by word_eq
name_quick tw11462045893675790159 for word by word_eq
name_quick tw13512673800721320934 for word by word_eq
name_quick tw6245536207120538393 for word by word_eq
name_quick tw16846860572762119324 for word by word_eq
name_quick tw219737044198020058 for word by word_eq
name_quick tw1402947280878808549 for word by word_eq
name_quick tw13912434898499826684 for word by word_eq
name_quick tw13335737130258781183 for word by word_eq
name_quick tw7496433998918960881 for word by word_eq
name_quick tw8753696776887207221 for word by word_eq
name_quick tw2611137233208623240 for word by word_eq
name_quick tw3131671291697673992 for word by word_eq
name_quick tw6122645084068987007 for word by word_eq
name_quick tw17069979004554194336 for word by word_eq
name_quick tw13236226663087606529 for word by word_eq
name_quick tw13036272033356848781 for word by word_eq
name_quick tw3362959441861295915 for word by word_eq
name_quick tw14168537005229113720 for word by word_eq
name_quick tw7250012664060256230 for word by word_eq
name_quick tw16049961110935095269 for word by word_eq
name_quick tw17000458434675057986 for word by word_eq
name_quick tw2039238271031011813 for word by word_eq
name_quick tw505943868828395459 for word by word_eq
name_quick tw15742981410569661332 for word by word_eq
name_quick tw12659028871203227004 for word by word_eq
name_quick tw9529234661008812162 for word by word_eq
name_quick tw16916688483869632129 for word by word_eq
name_quick tw6550987210724342151 for word by word_eq
name_quick tw10227693086864044499 for word by word_eq
name_quick tw5701610774189311196 for word by word_eq
name_quick tw12392613427281201732 for word by word_eq
name_quick tw11313170107247368264 for word by word_eq
name_quick tw10314498396905981064 for word by word_eq
name_quick tw9800571698397750058 for word by word_eq
name_quick tw1218959903707654005 for word by word_eq
name_quick tw17100903815162463580 for word by word_eq
name_quick tw5032809538720368765 for word by word_eq
name_quick tw18345786424863182364 for word by word_eq
name_quick tw7275051467321613617 for word by word_eq
name_quick tw9407582987413476825 for word by word_eq
name_quick tw6792406925840432001 for word by word_eq
name_quick tw15066959818950650227 for word by word_eq
name_quick tw4090926877573551719 for word by word_eq
name_quick tw8119918657739134586 for word by word_eq
name_quick tw16548257151911338427 for word by word_eq
name_quick tw1092655722715705105 for word by word_eq
name_quick tw17828083071136270317 for word by word_eq
name_quick tw3039592710220408265 for word by word_eq
name_quick tw17730428716208468724 for word by word_eq
name_quick tw12813236842856870187 for word by word_eq
name_quick tw6817277305950994716 for word by word_eq
name_quick tw11270796479367742343 for word by word_eq
name_quick tw7401281599722004195 for word by word_eq
name_quick tw2422670821966735624 for word by word_eq
name_quick tw17497748084772794779 for word by word_eq
name_quick tw5189142188285759775 for word by word_eq
name_quick tw2460228577881660442 for word by word_eq
name_quick tw14896874001708588922 for word by word_eq
name_quick tw7323676302269181137 for word by word_eq
name_quick tw12268644228514654432 for word by word_eq
name_quick tw2862820112641550484 for word by word_eq
name_quick tw13254397897704925713 for word by word_eq
name_quick tw4407734736301137906 for word by word_eq
name_quick tw932993149863042379 for word by word_eq
name_quick tw9285146279643344392 for word by word_eq
name_quick tw3636048126100218174 for word by word_eq
name_quick tw14834023430324568649 for word by word_eq
name_quick tw8719427161674164953 for word by word_eq
name_quick tw8595292554425487202 for word by word_eq
name_quick tw2408619945344806742 for word by word_eq
name_quick tw15007238320947547705 for word by word_eq
name_quick tw17846936440860909165 for word by word_eq
name_quick tw11853533878840232495 for word by word_eq
name_quick tw17975652961387846372 for word by word_eq
name_quick tw11306939235166856333 for word by word_eq
name_quick tw17964007177503468958 for word by word_eq
name_quick tw12767683915131110723 for word by word_eq
name_quick tw3766158894648301139 for word by word_eq
name_quick tw11964429278604863157 for word by word_eq
name_quick tw15919542637913265678 for word by word_eq
name_quick tw15423634916342008072 for word by word_eq
name_quick tw282004115355043989 for word by word_eq
name_quick tw9951705424602377420 for word by word_eq
name_quick tw9467589175468403638 for word by word_eq
name_quick tw14311459727803291754 for word by word_eq
name_quick tw912392155897948271 for word by word_eq
name_quick tw5135500740108067664 for word by word_eq
name_quick tw16241802466949684156 for word by word_eq
name_quick tw1574873078441994576 for word by word_eq
name_quick tw10996506086634736982 for word by word_eq
name_quick tw10706342367453228570 for word by word_eq
name_quick tw392140993173905013 for word by word_eq
name_quick tw18056578402003937789 for word by word_eq
name_quick tw5732905514179830355 for word by word_eq
name_quick tw2334299552400917057 for word by word_eq
name_quick tw16531745337717519161 for word by word_eq
name_quick tw15278061642289888581 for word by word_eq
name_quick tw10470071008263537045 for word by word_eq
name_quick tw12329403913580668285 for word by word_eq
name_quick tw16593013826814733010 for word by word_eq
name_quick tw11994158751524154303 for word by word_eq
name_quick tw16817318245366136608 for word by word_eq
name_quick tw3764465048917985505 for word by word_eq
name_quick tw10528696920762540405 for word by word_eq
name_quick tw10424941004445345732 for word by word_eq
name_quick tw11566699232636054958 for word by word_eq
name_quick tw1258717718454355964 for word by word_eq
name_quick tw1706496860858754268 for word by word_eq
name_quick tw12832477231654346042 for word by word_eq
name_quick tw9948023125614773506 for word by word_eq
name_quick tw17018628822417861297 for word by word_eq
name_quick tw8796240567053077481 for word by word_eq
name_quick tw8579058602437062094 for word by word_eq
name_quick tw16296994325663420285 for word by word_eq
name_quick tw3442601649717412197 for word by word_eq
name_quick tw5882768191206486792 for word by word_eq
name_quick tw11625766737575182897 for word by word_eq
name_quick tw9594665118957945026 for word by word_eq
name_quick tw15323854079317868165 for word by word_eq
name_quick tw7650934615059315214 for word by word_eq
name_quick tw13559156169165276386 for word by word_eq
name_quick tw11333186260410459676 for word by word_eq
name_quick tw16741492637210864865 for word by word_eq
name_quick tw14326252917377295143 for word by word_eq
name_quick tw12290603225136948437 for word by word_eq
name_quick tw6929956602132211858 for word by word_eq
name_quick tw5770868932273138760 for word by word_eq
name_quick tw17730448691065144110 for word by word_eq
name_quick tw6019396324639902685 for word by word_eq
name_quick tw2719445374943340272 for word by word_eq
name_quick tw17000155066101142889 for word by word_eq
name_quick tw18220123701641295943 for word by word_eq
name_quick tw13141144453892091621 for word by word_eq
name_quick tw10938465397075749097 for word by word_eq
name_quick tw5349121933718820234 for word by word_eq
name_quick tw7892128664451923741 for word by word_eq
name_quick tw16018607276475445134 for word by word_eq
name_quick tw7232422423428716515 for word by word_eq
name_quick tw17888162413812561239 for word by word_eq
name_quick tw14386061602966655976 for word by word_eq
name_quick tw15263041282635125899 for word by word_eq
name_quick tw9136488742655976645 for word by word_eq
name_quick tw14821650378409806113 for word by word_eq
name_quick tw682011567655089306 for word by word_eq
name_quick tw13180171748994924942 for word by word_eq
name_quick tw9501820088010722379 for word by word_eq
name_quick tw5357591511691535388 for word by word_eq
name_quick tw9458956999447867950 for word by word_eq
name_quick tw2660918139993853925 for word by word_eq
name_quick tw4434333111790514575 for word by word_eq
name_quick tw10942035263794033107 for word by word_eq
name_quick tw2354135333415324597 for word by word_eq
name_quick tw5823794197072137003 for word by word_eq
name_quick tw14537914154153760125 for word by word_eq
name_quick tw13002492023102617099 for word by word_eq
name_quick tw7783732958741208154 for word by word_eq
name_quick tw1503297043503765363 for word by word_eq
name_quick tw9908251947323293946 for word by word_eq
name_quick tw7094674258960923220 for word by word_eq
name_quick tw11636919720809706868 for word by word_eq
name_quick tw5076957145309523181 for word by word_eq
name_quick tw8989982439271903415 for word by word_eq
name_quick tw1962928258387122110 for word by word_eq
name_quick tw9626621113073979434 for word by word_eq
name_quick tw3094477031063562474 for word by word_eq
name_quick tw7392212959928792091 for word by word_eq
name_quick tw7009043117176579089 for word by word_eq
name_quick tw12635813782599140982 for word by word_eq
name_quick tw13981391230805400906 for word by word_eq
name_quick tw7276740287692124622 for word by word_eq
name_quick tw9376109419431680627 for word by word_eq
name_quick tw2905824091091238844 for word by word_eq
name_quick tw4275521005467322725 for word by word_eq
name_quick tw16176465441171805009 for word by word_eq
name_quick tw18416463498863911781 for word by word_eq
name_quick tw10029231156530900338 for word by word_eq
name_quick tw387338674003428930 for word by word_eq
name_quick tw9011979029575296479 for word by word_eq
name_quick tw17954471519018878134 for word by word_eq
name_quick tw3282434896037501709 for word by word_eq
name_quick tw12393455550290869266 for word by word_eq
name_quick tw4527066259768149269 for word by word_eq
name_quick tw1620339239838986703 for word by word_eq
name_quick tw16145008321745377990 for word by word_eq
name_quick tw7745614565497352828 for word by word_eq
name_quick tw5518745428033880147 for word by word_eq
name_quick tw7198390536060210744 for word by word_eq
name_quick tw14333388528381170442 for word by word_eq
name_quick tw16643706677886111943 for word by word_eq
name_quick tw12635297910168745909 for word by word_eq
name_quick tw3152983702415266003 for word by word_eq
name_quick tw12371321757623732685 for word by word_eq
name_quick tw11420187438672877268 for word by word_eq
name_quick tw7365555872484859036 for word by word_eq
name_quick tw1772237422875290029 for word by word_eq
name_quick tw8098380416015320538 for word by word_eq
name_quick tw4039474712603431140 for word by word_eq
name_quick tw7269565832213808900 for word by word_eq
name_quick tw721709456127091705 for word by word_eq
name_quick tw3105397867545767578 for word by word_eq
name_quick tw14108194823987119177 for word by word_eq
name_quick tw7035115661146626270 for word by word_eq
name_quick tw1735497430108182060 for word by word_eq
name_quick tw7299951869573292228 for word by word_eq
name_quick tw12825359941727978080 for word by word_eq
name_quick tw8537084889766193716 for word by word_eq
name_quick tw15894407043143930727 for word by word_eq
name_quick tw5111356299099525756 for word by word_eq
name_quick tw14714103240675001986 for word by word_eq
name_quick tw4775785305629353868 for word by word_eq
name_quick tw151948405760981731 for word by word_eq
name_quick tw11161088081135249708 for word by word_eq
name_quick tw14553827428707814869 for word by word_eq
name_quick tw11863081143760314161 for word by word_eq
name_quick tw16439824349840649037 for word by word_eq
name_quick tw1749818173716722547 for word by word_eq
name_quick tw1617757218408452269 for word by word_eq
name_quick tw9315938663221665524 for word by word_eq
name_quick tw3698559305507148144 for word by word_eq
name_quick tw4292500188555128830 for word by word_eq
name_quick tw4071324889030633612 for word by word_eq
name_quick tw16643379632663270332 for word by word_eq
name_quick tw6683783046931543321 for word by word_eq
name_quick tw11939915149646268982 for word by word_eq
name_quick tw4549333791460862111 for word by word_eq
name_quick tw4075660801711882420 for word by word_eq
name_quick tw15168306246750427876 for word by word_eq
name_quick tw3976722010076183465 for word by word_eq
name_quick tw8727135674562949291 for word by word_eq
name_quick tw5396446701170858492 for word by word_eq
name_quick tw5721027456603625697 for word by word_eq
name_quick tw43969757491396457 for word by word_eq
name_quick tw11788150170368784547 for word by word_eq
name_quick tw13678640442995254988 for word by word_eq
name_quick tw10323183001455561277 for word by word_eq
name_quick tw11588390666370768167 for word by word_eq
name_quick tw8642067239939848140 for word by word_eq
name_quick tw8400853705098224536 for word by word_eq
name_quick tw15490439104401381959 for word by word_eq
name_quick tw6711915476519705758 for word by word_eq
name_quick tw14073706353221006472 for word by word_eq
name_quick tw11543547407058413889 for word by word_eq
name_quick tw16979880578912567463 for word by word_eq
name_quick tw15450981722951097364 for word by word_eq
name_quick tw2711585505577850959 for word by word_eq
name_quick tw4748654258956052638 for word by word_eq
name_quick tw16966814322356759819 for word by word_eq
name_quick tw17476080006546285661 for word by word_eq
name_quick tw2283851925072248500 for word by word_eq
name_quick tw667198328695590252 for word by word_eq
name_quick tw13900631225919944168 for word by word_eq
name_quick tw3972328310683599613 for word by word_eq
name_quick tw8206430501311747189 for word by word_eq
name_quick tw1355338860687761863 for word by word_eq
name_quick tw11682084944484805031 for word by word_eq
name_quick tw13145125596335152023 for word by word_eq
name_quick tw7397068168572129948 for word by word_eq
name_quick tw951843321253372498 for word by word_eq
name_quick tw7721631327575515661 for word by word_eq
name_quick tw11277716924127702174 for word by word_eq
name_quick tw13615603153576403970 for word by word_eq
name_quick tw13317431791736044220 for word by word_eq
name_quick tw6654550962395885724 for word by word_eq
name_quick tw8542242679196749389 for word by word_eq
name_quick tw11057745971380855287 for word by word_eq
name_quick tw11130826679109208323 for word by word_eq
name_quick tw11682034243073823630 for word by word_eq
name_quick tw9411525586021648077 for word by word_eq
set_option maxRecDepth 100000 in
set_option maxHeartbeats 8000000 in
open_top hd for PySem.Challenge.rw_kl0506_01
end SHdA
section Fill
open PySem PySem.W PyProof.Rows PySem.Calls
set_option maxRecDepth 100000 in
theorem fill (w : World) : Mine.hd.heap_39 w.params = Mine.hd.heap_39 w.params ∧ PySem.Challenge.rw_kl0506_01.row.prog = PySem.Challenge.rw_kl0506_01.row.prog := by
  w_top off
  k_fill
  exact ⟨rfl, rfl⟩
end Fill
section SKasPure
open PySem PySem.W PyProof.Rows
local macro_rules | `(tactic| omega) => `(tactic| lia)
/-- the sort's tree, its questions answered by a number for each place -/
noncomputable def kasRun {α : Type} (r : Nat → Int) : KasT α → α
  | .ret a => a
  | .ask i j k => kasRun r (k (decide (r i < r j)))
theorem kasRun_bind {α β : Type} (r : Nat → Int) {f : α → KasT β} : ∀ (t : KasT α), kasRun r (t.bind f) = kasRun r (f (kasRun r t))
  | .ret _ => rfl
  | .ask i j k => kasRun_bind r (k (decide (r i < r j)))
section
variable {r : Nat → Int}
noncomputable def KSd (r : Nat → Int) (p : Array Nat) (k : Nat) : Prop := ∀ i j, i ≤ j → j < k → r (p.getD i 0) ≤ r (p.getD j 0)
noncomputable def KNi (r : Nat → Int) (p : Array Nat) (k : Nat) : Prop := ∀ i j, i ≤ j → j < k → r (p.getD j 0) ≤ r (p.getD i 0)
/-- no two places alike -/
noncomputable def KIn (r : Nat → Int) (p : Array Nat) : Prop := ∀ i j, i < p.size → j < p.size → i ≠ j → r (p.getD i 0) ≠ r (p.getD j 0)
theorem getD_of {p q : Array Nat} {i j : Nat} (h : p[i]? = q[j]?) : p.getD i 0 = q.getD j 0 := by
  rw [Array.getD_eq_getD_getElem?, Array.getD_eq_getD_getElem?, h]
theorem rev_at {p : Array Nat} {n : Nat} (hn : n ≤ p.size) (k : Nat) : (kas_rev p 0 n).getD k 0 = if k < n then p.getD (n - 1 - k) 0 else p.getD k 0 := by
  have e := getElem?_mirror_all (xs := p) (i := 0) (j := n) hn k
  by_cases h : k < n
  · rw [if_pos h]
    rw [if_pos ⟨Nat.zero_le _, h⟩] at e
    have := getD_of (p := kas_rev p 0 n) e
    rw [this]
    congr 1
    omega
  · rw [if_neg h]
    rw [if_neg (fun x => h x.2)] at e
    exact getD_of (p := kas_rev p 0 n) e
theorem rev_size (p : Array Nat) (i j : Nat) : (kas_rev p i j).size = p.size := kas_rev_size i j
theorem rev_perm (p : Array Nat) (i j : Nat) : (kas_rev p i j).Perm p := mirror_perm _ _ _ _
theorem rev_sd {p : Array Nat} {n : Nat} (hn : n ≤ p.size) (h : KNi r p n) : KSd r (kas_rev p 0 n) n := by
  intro i j hij hj
  rw [rev_at hn, rev_at hn, if_pos (by omega), if_pos hj]
  exact h _ _ (by omega) (by omega)
theorem rev_ni {p : Array Nat} {n : Nat} (hn : n ≤ p.size) (h : KSd r p n) : KNi r (kas_rev p 0 n) n := by
  intro i j hij hj
  rw [rev_at hn, rev_at hn, if_pos hj, if_pos (by omega)]
  exact h _ _ (by omega) (by omega)
theorem rev_in {p : Array Nat} {n : Nat} (hn : n ≤ p.size) (h : KIn r p) : KIn r (kas_rev p 0 n) := by
  intro i j hi hj hij
  rw [rev_size] at hi hj
  rw [rev_at hn, rev_at hn]
  by_cases h1 : i < n <;> by_cases h2 : j < n
  · rw [if_pos h1, if_pos h2]; exact h _ _ (by omega) (by omega) (by omega)
  · rw [if_pos h1, if_neg h2]; exact h _ _ (by omega) (by omega) (by omega)
  · rw [if_neg h1, if_pos h2]; exact h _ _ (by omega) (by omega) (by omega)
  · rw [if_neg h1, if_neg h2]; exact h _ _ (by omega) (by omega) (by omega)
theorem asc_run {p : Array Nat} {nrem : Nat} : ∀ (f n : Nat), n + f = nrem → 1 ≤ n → KSd r p n →
    ∃ m, kasRun r (kas_asc p f n) = m ∧ n ≤ m ∧ m ≤ nrem ∧ KSd r p m ∧ (m = nrem ∨ r (p.getD m 0) < r (p.getD (m - 1) 0))
  | 0, n, e, h1, hs => ⟨n, rfl, Nat.le_refl _, by omega, hs, .inl (by omega)⟩
  | f + 1, n, e, h1, hs => by
    by_cases hc : r (p.getD n 0) < r (p.getD (n - 1) 0)
    · refine ⟨n, ?_, Nat.le_refl _, by omega, hs, .inr hc⟩
      show kasRun r (if decide (r (p.getD n 0) < r (p.getD (n - 1) 0)) = true then KasT.ret n else kas_asc p f (n + 1)) = n
      rw [decide_eq_true hc, if_pos rfl]; rfl
    · obtain ⟨m, e1, e2, e3, e4, e5⟩ := asc_run (p := p) (nrem := nrem) f (n + 1) (by omega) (by omega) (fun i j hij hj => by
        by_cases h : j < n
        · exact hs i j hij h
        · have hj' : j = n := by omega
          subst hj'
          by_cases hi : i = j
          · subst hi; exact Int.le_refl _
          · exact Int.le_trans (hs i (j - 1) (by omega) (by omega)) (by omega))
      refine ⟨m, ?_, by omega, e3, e4, e5⟩
      show kasRun r (if decide (r (p.getD n 0) < r (p.getD (n - 1) 0)) = true then KasT.ret n else kas_asc p f (n + 1)) = m
      rw [decide_eq_false hc, if_neg (by decide)]; exact e1
theorem desc_run {p : Array Nat} {nrem : Nat} (hz : nrem ≤ p.size) (hin : KIn r p) : ∀ (f n : Nat), n + f = nrem → 1 ≤ n → KNi r p n →
    ∃ m, kasRun r (kas_desc f p n 0) = (p, m, 0) ∧ n ≤ m ∧ m ≤ nrem ∧ KNi r p m
  | 0, n, e, h1, hs => ⟨n, rfl, Nat.le_refl _, by omega, hs⟩
  | f + 1, n, e, h1, hs => by
    by_cases hc : r (p.getD n 0) < r (p.getD (n - 1) 0)
    · obtain ⟨m, e1, e2, e3, e4⟩ := desc_run hz hin f (n + 1) (by omega) (by omega) (fun i j hij hj => by
        by_cases h : j < n
        · exact hs i j hij h
        · have hj' : j = n := by omega
          subst hj'
          by_cases hi : i = j
          · subst hi; exact Int.le_refl _
          · exact Int.le_trans (by omega) (hs i (j - 1) (by omega) (by omega)))
      refine ⟨m, ?_, by omega, e3, e4⟩
      show kasRun r (if decide (r (p.getD n 0) < r (p.getD (n - 1) 0)) = true then (if 0 > 0 then _ else kas_desc f p (n + 1) 0) else _) = _
      rw [decide_eq_true hc, if_pos rfl, if_neg (by decide)]; exact e1
    · have hne := hin n (n - 1) (by omega) (by omega) (by omega)
      have hd : r (p.getD (n - 1) 0) < r (p.getD n 0) := by omega
      refine ⟨n, ?_, Nat.le_refl _, by omega, hs⟩
      show kasRun r (if decide (r (p.getD n 0) < r (p.getD (n - 1) 0)) = true then _ else KasT.ask (p.getD (n - 1) 0) (p.getD n 0) fun d => if d = true then KasT.ret (p, n, 0) else _) = _
      rw [decide_eq_false hc, if_neg (by decide)]
      show kasRun r (if decide (r (p.getD (n - 1) 0) < r (p.getD n 0)) = true then KasT.ret (p, n, 0) else _) = _
      rw [decide_eq_true hd, if_pos rfl]; rfl
/-- what a run's count leaves -/
noncomputable def KOk (r : Nat → Int) (p₀ p : Array Nat) (nrem m : Nat) : Prop := p.Perm p₀ ∧ p.size = p₀.size ∧ KIn r p ∧ KSd r p m ∧ 1 ≤ m ∧ m ≤ nrem
theorem tail3_run {p : Array Nat} {n nrem : Nat} (hz : nrem ≤ p.size) (hin : KIn r p) (h1 : 1 ≤ n) (hn : n ≤ nrem) (hs : KNi r p n) :
    ∃ m q, kasRun r (kas_tail3 n nrem p) = (m, q) ∧ KOk r p q nrem m := by
  obtain ⟨m, e1, e2, e3, e4, _⟩ := asc_run (p := kas_rev p 0 n) (r := r) (nrem := nrem) (nrem - n) n (by omega) h1 (rev_sd (by omega) hs)
  refine ⟨m, kas_rev p 0 n, ?_, rev_perm _ _ _, rev_size _ _ _, rev_in (by omega) hin, e4, by omega, e3⟩
  unfold kas_tail3
  rw [kasRun_bind, e1]; rfl
theorem descPart_run {p : Array Nat} {n nrem : Nat} (hz : nrem ≤ p.size) (hin : KIn r p) (h1 : 1 ≤ n) (hn : n + 1 ≤ nrem) (hs : KNi r p (n + 1)) :
    ∃ m q, kasRun r (kas_descPart n nrem p) = (m, q) ∧ KOk r p q nrem m := by
  obtain ⟨m, e1, e2, e3, e4⟩ := desc_run hz hin (nrem - (n + 1)) (n + 1) (by omega) (by omega) hs
  unfold kas_descPart
  rw [kasRun_bind, e1]
  dsimp only
  rw [if_neg (by decide)]
  exact tail3_run hz hin (by omega) e3 e4
theorem KOk.trans {p₀ p q : Array Nat} {nrem m : Nat} (h1 : p.Perm p₀) (h2 : p.size = p₀.size) (h : KOk r p q nrem m) : KOk r p₀ q nrem m := ⟨h.1.trans h1, h.2.1.trans h2, h.2.2⟩
theorem count_run {p : Array Nat} {nrem : Nat} (h2 : 2 ≤ nrem) (hz : nrem ≤ p.size) (hin : KIn r p) :
    ∃ m q, kasRun r (kas_count nrem p) = (m, q) ∧ KOk r p q nrem m := by
  obtain ⟨n, e1, e2, e3, e4, e5⟩ := asc_run (p := p) (r := r) (nrem := nrem) (nrem - 1) 1 (by omega) (by omega) (fun i j hij hj => by
    have : i = j := by omega
    subst this; exact Int.le_refl _)
  unfold kas_count
  rw [kasRun_bind, e1]
  by_cases hn : n = nrem
  · rw [if_pos (by simpa using hn)]
    exact ⟨n, p, rfl, Array.Perm.refl _, rfl, hin, e4, by omega, e3⟩
  rw [if_neg (by simpa using hn)]
  have hlt : r (p.getD n 0) < r (p.getD (n - 1) 0) := by omega
  by_cases hn1 : n > 1
  · rw [if_pos hn1]
    by_cases hc : r (p.getD 0 0) < r (p.getD (n - 1) 0)
    · refine ⟨n, p, ?_, Array.Perm.refl _, rfl, hin, e4, by omega, e3⟩
      show kasRun r (if decide (r (p.getD 0 0) < r (p.getD (n - 1) 0)) = true then KasT.ret (n, p) else _) = _
      rw [decide_eq_true hc, if_pos rfl]; rfl
    · -- all of the first n alike: not so
      exact absurd (e4 0 (n - 1) (by omega) (by omega)) (by
        have := hin 0 (n - 1) (by omega) (by omega) (by omega)
        omega)
  · rw [if_neg hn1]
    have hn' : n = 1 := by omega
    subst hn'
    exact descPart_run hz hin (by omega) (by omega) (fun i j hij hj => by
      rcases Nat.lt_or_ge j 1 with h | h
      · have : i = j := by omega
        subst this; exact Int.le_refl _
      · have hj' : j = 1 := by omega
        subst hj'
        rcases Nat.lt_or_ge i 1 with h' | h'
        · have : i = 0 := by omega
          subst this; exact Int.le_of_lt hlt
        · have : i = 1 := by omega
          subst this; exact Int.le_refl _)
theorem place_run {p : Array Nat} {k : Nat} (hs : KSd r p k) : ∀ (f l rr : Nat), rr - l ≤ f → l ≤ rr → rr ≤ k → (∀ i, i < l → r (p.getD i 0) ≤ r (p.getD k 0)) → (∀ i, rr ≤ i → i < k → r (p.getD k 0) ≤ r (p.getD i 0)) →
    ∃ x, kasRun r (kas_place p k f l rr) = x ∧ x ≤ k ∧ (∀ i, i < x → r (p.getD i 0) ≤ r (p.getD k 0)) ∧ (∀ i, x ≤ i → i < k → r (p.getD k 0) ≤ r (p.getD i 0))
  | 0, l, rr, hf, hl, hr, h1, h2 => ⟨l, rfl, by omega, h1, fun i hi hk => h2 i (by omega) hk⟩
  | f + 1, l, rr, hf, hl, hr, h1, h2 => by
    by_cases hlr : l ≥ rr
    · refine ⟨l, ?_, by omega, h1, fun i hi hk => h2 i (by omega) hk⟩
      show kasRun r (if l ≥ rr then KasT.ret l else _) = l
      rw [if_pos hlr]; rfl
    · have hm1 : l ≤ (l + rr) / 2 := by omega
      have hm2 : (l + rr) / 2 < rr := by omega
      by_cases hc : r (p.getD k 0) < r (p.getD ((l + rr) / 2) 0)
      · obtain ⟨x, e1, e2, e3, e4⟩ := place_run hs f l ((l + rr) / 2) (by omega) hm1 (by omega) h1 (fun i hi hk => Int.le_trans (Int.le_of_lt hc) (hs _ _ hi hk))
        refine ⟨x, ?_, e2, e3, e4⟩
        show kasRun r (if l ≥ rr then KasT.ret l else KasT.ask (p.getD k 0) (p.getD ((l + rr) / 2) 0) fun c => if c = true then kas_place p k f l ((l + rr) / 2) else kas_place p k f ((l + rr) / 2 + 1) rr) = x
        rw [if_neg hlr]
        show kasRun r (if decide (r (p.getD k 0) < r (p.getD ((l + rr) / 2) 0)) = true then kas_place p k f l ((l + rr) / 2) else kas_place p k f ((l + rr) / 2 + 1) rr) = x
        rw [decide_eq_true hc, if_pos rfl]; exact e1
      · obtain ⟨x, e1, e2, e3, e4⟩ := place_run hs f ((l + rr) / 2 + 1) rr (by omega) (by omega) hr (fun i hi => by
          have := hs i ((l + rr) / 2) (by omega) (by omega)
          omega) h2
        refine ⟨x, ?_, e2, e3, e4⟩
        show kasRun r (if l ≥ rr then KasT.ret l else KasT.ask (p.getD k 0) (p.getD ((l + rr) / 2) 0) fun c => if c = true then kas_place p k f l ((l + rr) / 2) else kas_place p k f ((l + rr) / 2 + 1) rr) = x
        rw [if_neg hlr]
        show kasRun r (if decide (r (p.getD k 0) < r (p.getD ((l + rr) / 2) 0)) = true then kas_place p k f l ((l + rr) / 2) else kas_place p k f ((l + rr) / 2 + 1) rr) = x
        rw [decide_eq_false hc, if_neg (by decide)]; exact e1
theorem bubble_at {p : Array Nat} {k x : Nat} (hk : k < p.size) (hx : x ≤ k) (i : Nat) : (bubble p k (k - x)).getD i 0 = if i = x then p.getD k 0 else if x < i ∧ i ≤ k then p.getD (i - 1) 0 else p.getD i 0 := by
  have e := getElem?_bubble (xs := p) hk (k - x) (by omega) i
  have ex : k - (k - x) = x := by omega
  rw [ex] at e
  by_cases h1 : i = x
  · rw [if_pos h1] at e ⊢; exact getD_of e
  · rw [if_neg h1] at e ⊢
    by_cases h2 : x < i ∧ i ≤ k
    · rw [if_pos h2] at e ⊢; exact getD_of e
    · rw [if_neg h2] at e ⊢; exact getD_of e
theorem bin_run {p₀ : Array Nat} {n : Nat} (hz : n ≤ p₀.size) : ∀ (f k : Nat) (p : Array Nat), k + f = n → p.Perm p₀ → p.size = p₀.size → KSd r p k →
    ∃ q, kasRun r (kas_bin f p k) = q ∧ q.Perm p₀ ∧ q.size = p₀.size ∧ KSd r q n
  | 0, k, p, e, hp, hs, h => ⟨p, rfl, hp, hs, by have : k = n := by omega
                                                 rwa [← this]⟩
  | f + 1, k, p, e, hp, hsz, h => by
    obtain ⟨x, e1, e2, e3, e4⟩ := place_run (p := p) (k := k) (r := r) h k 0 k (by omega) (by omega) (Nat.le_refl _) (fun i hi => absurd hi (Nat.not_lt_zero _)) (fun i hi hk => absurd hk (by omega))
    have hk : k < p.size := by omega
    obtain ⟨q, q1, q2, q3, q4⟩ := bin_run hz f (k + 1) (bubble p k (k - x)) (by omega) ((bubble_perm _ _ _).trans hp) ((bubble_size _ _ _).trans hsz) (fun i j hij hj => by
      rw [bubble_at hk e2, bubble_at hk e2]
      by_cases hi : i = x
      · rw [if_pos hi]
        by_cases hj' : j = x
        · rw [if_pos hj']; exact Int.le_refl _
        · rw [if_neg hj', if_pos ⟨by omega, by omega⟩]; exact e4 _ (by omega) (by omega)
      · rw [if_neg hi]
        by_cases hix : x < i
        · rw [if_pos ⟨hix, by omega⟩, if_neg (by omega), if_pos ⟨by omega, by omega⟩]; exact h _ _ (by omega) (by omega)
        · rw [if_neg (by omega)]
          by_cases hj' : j = x
          · rw [if_pos hj']; exact e3 _ (by omega)
          · rw [if_neg hj']
            by_cases hjx : x < j
            · rw [if_pos ⟨hjx, by omega⟩]; exact h _ _ (by omega) (by omega)
            · rw [if_neg (by omega)]; exact h _ _ hij (by omega))
    refine ⟨q, ?_, q2, q3, q4⟩
    show kasRun r ((kas_place p k k 0 k).bind fun l => kas_bin f (bubble p k (k - l)) (k + 1)) = q
    rw [kasRun_bind, e1]; exact q1
theorem sort_run {n : Nat} (h2 : 2 ≤ n) (hr : ∀ i j, i < n → j < n → i ≠ j → r i ≠ r j) :
    ∃ q, kasRun r (kas_sort n) = q ∧ q.toList.Perm (List.range n) ∧ (q.toList.map r).Pairwise (· ≤ ·) := by
  have hsz : (List.toArray (List.range n)).size = n := by simp
  have hin : KIn r (List.toArray (List.range n)) := by
    intro i j hi hj hij
    rw [hsz] at hi hj
    have e : ∀ k, k < n → (List.toArray (List.range n)).getD k 0 = k := fun k hk => by simp [Array.getD, hk]
    rw [e i hi, e j hj]
    exact hr i j hi hj hij
  obtain ⟨m, q, e1, p1, p2, p3, p4, p5, p6⟩ := count_run (p := List.toArray (List.range n)) (r := r) (nrem := n) h2 (by omega) hin
  have fin : ∀ q : Array Nat, q.Perm (List.toArray (List.range n)) → q.size = (List.toArray (List.range n)).size → KSd r q n → q.toList.Perm (List.range n) ∧ (q.toList.map r).Pairwise (· ≤ ·) := by
    intro q hp hs hd
    refine ⟨by simpa using hp.toList, ?_⟩
    rw [List.pairwise_iff_getElem]
    intro i j hi hj hij
    simp only [List.length_map, Array.length_toList] at hi hj
    have h := hd i j (by omega) (by omega)
    simpa [Array.getD, hi, hj] using h
  unfold kas_sort
  rw [kasRun_bind, e1]
  dsimp only
  by_cases hm : m < n
  · rw [if_pos hm]
    have hmax : max m 1 = m := by omega
    rw [hmax]
    obtain ⟨q', q1, q2, q3, q4⟩ := bin_run (p₀ := List.toArray (List.range n)) (n := n) (r := r) (by omega) (n - m) m q (by omega) p1 p2 p4
    exact ⟨q', q1, fin q' q2 q3 q4⟩
  · rw [if_neg hm]
    have : m = n := by omega
    subst this
    exact ⟨q, rfl, fin q p1 p2 p4⟩
end
end SKasPure
section SPL1
open PySem
local macro_rules | `(tactic| omega) => `(tactic| lia)
/-! plain law: xor on naturals -/
theorem x_cancel (a b : Nat) : a ^^^ b ^^^ b = a := by rw [Nat.xor_assoc, Nat.xor_self, Nat.xor_zero]
theorem x_cancel' (a b : Nat) : b ^^^ (b ^^^ a) = a := by rw [← Nat.xor_assoc, Nat.xor_self, Nat.zero_xor]
theorem x_inj {a b c : Nat} (h : a ^^^ c = b ^^^ c) : a = b := by rw [← x_cancel a c, h, x_cancel]
theorem x_zero {a b : Nat} (h : a ^^^ b = 0) : a = b := by
  have : a ^^^ b ^^^ b = 0 ^^^ b := by rw [h]
  rwa [x_cancel, Nat.zero_xor] at this
theorem x_right (a b c : Nat) : a ^^^ b ^^^ c = a ^^^ c ^^^ b := by rw [Nat.xor_assoc, Nat.xor_comm b c, ← Nat.xor_assoc]
theorem x_mod (a b : Nat) : (a ^^^ b) % 2 = (a + b) % 2 := by
  have h := Nat.testBit_xor a b 0
  simp only [Nat.testBit_zero] at h
  have ha : a % 2 = 0 ∨ a % 2 = 1 := by omega
  have hb : b % 2 = 0 ∨ b % 2 = 1 := by omega
  have hx : (a ^^^ b) % 2 = 0 ∨ (a ^^^ b) % 2 = 1 := by omega
  rcases ha with ha | ha <;> rcases hb with hb | hb <;> rcases hx with hx | hx <;> simp [ha, hb, hx] at h <;> omega
/-- if r is not made less by the difference of a < b, then r keeps their order -/
theorem x_keep : ∀ (n a b r : Nat), b ≤ n → a < b → r ≤ r ^^^ (a ^^^ b) → a ^^^ r < b ^^^ r := by
  intro n
  induction n with
  | zero => intro a b r h1 h2; omega
  | succ n ih =>
    intro a b r hn hab hr
    have h1 := x_mod a r
    have h2 := x_mod b r
    have h3 := x_mod r (a ^^^ b)
    have h4 := x_mod a b
    have d1 : (a ^^^ r) / 2 = a / 2 ^^^ r / 2 := Nat.xor_div_two
    have d2 : (b ^^^ r) / 2 = b / 2 ^^^ r / 2 := Nat.xor_div_two
    have d3 : (r ^^^ (a ^^^ b)) / 2 = r / 2 ^^^ (a / 2 ^^^ b / 2) := by rw [Nat.xor_div_two, Nat.xor_div_two]
    by_cases e : a / 2 = b / 2
    · rw [e, Nat.xor_self, Nat.xor_zero] at d3
      rw [e] at d1
      omega
    · have := ih (a / 2) (b / 2) (r / 2) (by omega) (by omega) (by rw [← d3]; omega)
      omega
theorem x_top {a b t : Nat} (ha : 2 ^ t ≤ a ∧ a < 2 ^ (t + 1)) (hb : 2 ^ t ≤ b ∧ b < 2 ^ (t + 1)) : a ^^^ b < 2 ^ t := by
  have e : (a ^^^ b) / 2 ^ t = a / 2 ^ t ^^^ b / 2 ^ t := by
    rw [← Nat.shiftRight_eq_div_pow, ← Nat.shiftRight_eq_div_pow, ← Nat.shiftRight_eq_div_pow, Nat.shiftRight_xor_distrib]
  have hp : 0 < 2 ^ t := Nat.two_pow_pos t
  have q : ∀ c, 2 ^ t ≤ c ∧ c < 2 ^ (t + 1) → c / 2 ^ t = 1 := fun c hc => by
    apply Nat.div_eq_of_lt_le
    · omega
    · rw [Nat.pow_succ] at hc; omega
  rw [q a ha, q b hb, Nat.xor_self] at e
  exact (Nat.div_eq_zero_iff_lt hp).mp e
theorem x_lo {a b t : Nat} (ha : a < 2 ^ t) (hb : b < 2 ^ t) : a ^^^ b < 2 ^ t := Nat.xor_lt_two_pow ha hb
theorem x_hi {a b t : Nat} (ha : 2 ^ t ≤ a ∧ a < 2 ^ (t + 1)) (hb : b < 2 ^ t) : 2 ^ t ≤ a ^^^ b ∧ a ^^^ b < 2 ^ (t + 1) := by
  have h1 : b < 2 ^ (t + 1) := by rw [Nat.pow_succ]; omega
  refine ⟨Nat.le_of_not_lt fun h => ?_, x_lo ha.2 h1⟩
  have := x_lo h hb
  rw [x_cancel] at this
  omega
/-- a < b if a agrees with l above t, b does not, and l ≤ b -/
theorem x_ord {a b l t : Nat} (ha : a ^^^ l < 2 ^ t) (hb : 2 ^ t ≤ b ^^^ l) (h : l ≤ b) : a < b := by
  have e : ∀ x y : Nat, (x ^^^ y) / 2 ^ t = x / 2 ^ t ^^^ y / 2 ^ t := fun x y => by
    rw [← Nat.shiftRight_eq_div_pow, ← Nat.shiftRight_eq_div_pow, ← Nat.shiftRight_eq_div_pow, Nat.shiftRight_xor_distrib]
  have hp : 0 < 2 ^ t := Nat.two_pow_pos t
  have e1 : a / 2 ^ t = l / 2 ^ t := x_zero (by rw [← e]; exact (Nat.div_eq_zero_iff_lt hp).mpr ha)
  have e2 : b / 2 ^ t ≠ l / 2 ^ t := fun q => by
    have := e b l
    rw [q, Nat.xor_self] at this
    have := (Nat.div_eq_zero_iff_lt hp).mp this
    omega
  have e3 : l / 2 ^ t ≤ b / 2 ^ t := Nat.div_le_div_right h
  rcases Nat.lt_or_ge a b with h' | h'
  · exact h'
  · have := Nat.div_le_div_right (c := 2 ^ t) h'
    omega
theorem perm_mem : ∀ {l₁ l₂ : List Nat}, l₁.Nodup → l₂.Nodup → (∀ a, a ∈ l₁ ↔ a ∈ l₂) → l₁.Perm l₂
  | [], l₂, _, _, h => by
    cases l₂ with
    | nil => exact .nil
    | cons b r => exact absurd ((h b).mpr (.head _)) (List.not_mem_nil)
  | a :: r, l₂, n1, n2, h => by
    have ha : a ∈ l₂ := (h a).mp (.head _)
    have p := List.perm_cons_erase ha
    have n3 : (a :: l₂.erase a).Nodup := p.nodup_iff.mp n2
    refine (List.Perm.cons a (perm_mem (List.nodup_cons.mp n1).2 (List.nodup_cons.mp n3).2 fun b => ?_)).trans p.symm
    have hm : b ∈ l₂ ↔ b ∈ a :: l₂.erase a := p.mem_iff
    have hb := h b
    rw [hm, List.mem_cons, List.mem_cons] at hb
    constructor
    · intro hbr
      rcases hb.mp (.inr hbr) with e | e
      · subst e; exact absurd hbr (List.nodup_cons.mp n1).1
      · exact e
    · intro hbr
      rcases hb.mpr (.inr hbr) with e | e
      · subst e; exact absurd hbr (List.nodup_cons.mp n3).1
      · exact e
/-- the words' low six places -/
structure Aff (us : List Nat) : Prop where
  ne : us ≠ []
  nodup : us.Nodup
  lt : ∀ u ∈ us, u < 64
  clos : ∀ a ∈ us, ∀ b ∈ us, ∀ c ∈ us, a ^^^ b ^^^ c ∈ us
noncomputable def nstep (u0 : Nat) (us : List Nat) (c : Nat) : List Nat := if us.any (fun x => x == u0 ^^^ c) = true then us else us ++ us.map fun x => x ^^^ c
theorem mem_mapx {us : List Nat} {c x : Nat} : x ∈ us.map (fun x => x ^^^ c) ↔ x ^^^ c ∈ us := by
  rw [List.mem_map]
  constructor
  · rintro ⟨y, hy, rfl⟩; rwa [x_cancel]
  · intro h; exact ⟨_, h, x_cancel _ _⟩
theorem Aff.one {u : Nat} (h : u < 64) : Aff [u] := ⟨by simp, by simp, by simpa using h, by simp⟩
theorem nodup_mapx {us : List Nat} {c : Nat} (h : us.Nodup) : (us.map fun x => x ^^^ c).Nodup := by
  rw [List.Nodup, List.pairwise_map]
  exact h.imp fun hn e => hn (x_inj e)
theorem Aff.step {us : List Nat} {u0 c : Nat} (A : Aff us) (h0 : u0 ∈ us) (hc : c < 64) : Aff (nstep u0 us c) := by
  unfold nstep
  split
  · exact A
  · rename_i hn
    have hn' : u0 ^^^ c ∉ us := fun q => hn (List.any_eq_true.mpr ⟨_, q, by simp⟩)
    have key : ∀ x, x ∈ us ++ us.map (fun x => x ^^^ c) ↔ x ∈ us ∨ x ^^^ c ∈ us := fun x => by rw [List.mem_append, mem_mapx]
    refine ⟨by simp [A.ne], ?_, fun u hu => ?_, ?_⟩
    · rw [List.nodup_append]
      refine ⟨A.nodup, nodup_mapx A.nodup, fun a ha b hb e => ?_⟩
      subst e
      have hb' := mem_mapx.mp hb
      apply hn'
      have := A.clos u0 h0 a ha (a ^^^ c) hb'
      rwa [Nat.xor_assoc, x_cancel'] at this
    · rcases (key u).mp hu with h | h
      · exact A.lt u h
      · have := x_lo (t := 6) (A.lt _ h) hc
        rwa [x_cancel] at this
    · intro a ha b hb d hd
      rw [key] at ha hb hd ⊢
      rcases ha with ha | ha <;> rcases hb with hb | hb <;> rcases hd with hd | hd
      · exact .inl (A.clos a ha b hb d hd)
      · refine .inr ?_; have := A.clos a ha b hb _ hd; rwa [← Nat.xor_assoc] at this
      · refine .inr ?_; have := A.clos a ha _ hb d hd; rwa [← Nat.xor_assoc, x_right _ c d] at this
      · refine .inl ?_; have := A.clos a ha _ hb _ hd; rwa [← Nat.xor_assoc, ← Nat.xor_assoc, x_right _ c d, x_cancel] at this
      · refine .inr ?_; have := A.clos _ ha b hb d hd; rwa [x_right a c b, x_right _ c d] at this
      · refine .inl ?_; have := A.clos _ ha b hb _ hd; rwa [x_right a c b, ← Nat.xor_assoc, x_right _ c d, x_cancel] at this
      · refine .inl ?_; have := A.clos _ ha _ hb d hd; rwa [← Nat.xor_assoc, x_right a c b, x_cancel] at this
      · refine .inr ?_; have := A.clos _ ha _ hb _ hd; rwa [← Nat.xor_assoc, ← Nat.xor_assoc, x_right a c b, x_cancel] at this
theorem nstep_mem {us : List Nat} {u0 c x : Nat} (h : x ∈ us) : x ∈ nstep u0 us c := by
  unfold nstep; split
  · exact h
  · exact List.mem_append_left _ h
theorem nstep_head {us : List Nat} {u0 c : Nat} (h : us[0]? = some u0) : (nstep u0 us c)[0]? = some u0 := by
  unfold nstep; split
  · exact h
  · rw [List.getElem?_append_left (List.getElem?_eq_some_iff.mp h).1]; exact h
theorem Aff.steps {u0 : Nat} : ∀ (cs : List Nat) (us : List Nat), Aff us → us[0]? = some u0 → (∀ c ∈ cs, c < 64) → Aff (cs.foldl (nstep u0) us) ∧ (cs.foldl (nstep u0) us)[0]? = some u0 ∧ (cs.foldl (nstep u0) us).length ≤ us.length * 2 ^ cs.length
  | [], us, A, h, _ => ⟨A, h, by simp⟩
  | c :: r, us, A, h, hc => by
    have z := Aff.steps r (nstep u0 us c) (A.step (List.mem_of_getElem? h) (hc c (.head _))) (nstep_head h) fun c hc' => hc c (.tail _ hc')
    refine ⟨z.1, z.2.1, Nat.le_trans z.2.2 ?_⟩
    have : (nstep u0 us c).length ≤ us.length * 2 := by unfold nstep; split <;> (try simp) <;> omega
    rw [List.length_cons, Nat.pow_succ, Nat.mul_comm (2 ^ r.length) 2, ← Nat.mul_assoc]
    exact Nat.mul_le_mul_right _ this
end SPL1
section SPL2
open PySem
/-- the least difference with highest place t -/
noncomputable def rowN (us : List Nat) (u0 t : Nat) : Option Nat := ((us.map fun x => x ^^^ u0).filter fun v => decide (2 ^ t ≤ v ∧ v < 2 ^ (t + 1))).min?
noncomputable def rowsB (us : List Nat) (u0 : Nat) : Nat → List Nat
  | 0 => []
  | t + 1 => match rowN us u0 t with
    | some r => r :: rowsB us u0 t
    | none => rowsB us u0 t
noncomputable def dbl (l : Nat) : List Nat → List Nat
  | [] => [l]
  | r :: rs => dbl l rs ++ (dbl l rs).map fun x => x ^^^ r
theorem dbl_len (l : Nat) : ∀ rs : List Nat, (dbl l rs).length = 2 ^ rs.length
  | [] => rfl
  | r :: rs => by rw [dbl, List.length_append, List.length_map, dbl_len l rs, List.length_cons, Nat.pow_succ]; omega
theorem dbl_head (l : Nat) : ∀ rs : List Nat, (dbl l rs)[0]? = some l
  | [] => rfl
  | r :: rs => by rw [dbl, List.getElem?_append_left (by rw [dbl_len]; exact Nat.two_pow_pos _)]; exact dbl_head l rs
theorem dbl_last (l : Nat) : ∀ rs : List Nat, (dbl l rs)[2 ^ rs.length - 1]? = some (l ^^^ rs.foldr (fun a b => a ^^^ b) 0)
  | [] => by simp [dbl]
  | r :: rs => by
    have hp := Nat.two_pow_pos rs.length
    rw [dbl, List.getElem?_append_right (by rw [dbl_len, List.length_cons, Nat.pow_succ]; omega), List.getElem?_map, dbl_len, List.length_cons, Nat.pow_succ,
      show 2 ^ rs.length * 2 - 1 - 2 ^ rs.length = 2 ^ rs.length - 1 by omega, dbl_last l rs]
    simp only [Option.map_some, List.foldr_cons]
    rw [Nat.xor_comm r, Nat.xor_assoc]
theorem dbl_mid (l r : Nat) (rs : List Nat) : (dbl l (r :: rs))[2 ^ rs.length]? = some (l ^^^ r) := by
  rw [dbl, List.getElem?_append_right (by rw [dbl_len]; exact Nat.le_refl _), dbl_len, Nat.sub_self, List.getElem?_map, dbl_head]; rfl
theorem dbl_low (l r : Nat) (rs : List Nat) : (dbl l (r :: rs))[2 ^ rs.length - 1]? = some (l ^^^ rs.foldr (fun a b => a ^^^ b) 0) := by
  have hp := Nat.two_pow_pos rs.length
  rw [dbl, List.getElem?_append_left (by rw [dbl_len]; omega), dbl_last]
theorem dbl_mem {l x : Nat} : ∀ rs : List Nat, (∀ r ∈ rs, r < 64) → l < 64 → x ∈ dbl l rs → x < 64
  | [], _, hl, h => by rw [dbl, List.mem_singleton] at h; omega
  | r :: rs, hr, hl, h => by
    rw [dbl, List.mem_append, mem_mapx] at h
    rcases h with h | h
    · exact dbl_mem rs (fun r h => hr r (.tail _ h)) hl h
    · have := x_lo (t := 6) (dbl_mem rs (fun r h => hr r (.tail _ h)) hl h) (hr r (.head _))
      rwa [x_cancel] at this
theorem rowN_some {us : List Nat} {u0 t r : Nat} (h : rowN us u0 t = some r) : r ^^^ u0 ∈ us ∧ (2 ^ t ≤ r ∧ r < 2 ^ (t + 1)) ∧ ∀ v, v ^^^ u0 ∈ us → (2 ^ t ≤ v ∧ v < 2 ^ (t + 1)) → r ≤ v := by
  unfold rowN at h
  rw [List.min?_eq_some_iff] at h
  obtain ⟨h1, h2⟩ := h
  rw [List.mem_filter, mem_mapx, decide_eq_true_eq] at h1
  exact ⟨h1.1, h1.2, fun v a b => h2 v (by rw [List.mem_filter, mem_mapx, decide_eq_true_eq]; exact ⟨a, b⟩)⟩
theorem rowN_none {us : List Nat} {u0 t : Nat} (h : rowN us u0 t = none) : ∀ v, v ^^^ u0 ∈ us → ¬ (2 ^ t ≤ v ∧ v < 2 ^ (t + 1)) := fun v a b => by
  unfold rowN at h
  rw [List.min?_eq_none_iff] at h
  have : v ∈ ((us.map fun x => x ^^^ u0).filter fun v => decide (2 ^ t ≤ v ∧ v < 2 ^ (t + 1))) := by rw [List.mem_filter, mem_mapx, decide_eq_true_eq]; exact ⟨a, b⟩
  rw [h] at this
  cases this
theorem Aff.diff {us : List Nat} (A : Aff us) {u0 a b : Nat} (h0 : u0 ∈ us) (ha : a ∈ us) (hb : b ∈ us) : a ^^^ b ^^^ u0 ∈ us := A.clos a ha b hb u0 h0
theorem Aff.move {us : List Nat} (A : Aff us) {u0 a v : Nat} (h0 : u0 ∈ us) (ha : a ∈ us) (hv : v ^^^ u0 ∈ us) : a ^^^ v ∈ us := by
  have := A.clos a ha (v ^^^ u0) hv u0 h0
  rwa [← Nat.xor_assoc, x_cancel] at this
/-- the doubled list is in rising order and holds the words that part from the least one below place t -/
theorem dbl_rows {us : List Nat} {u0 l : Nat} (A : Aff us) (h0 : u0 ∈ us) (hl : l ∈ us) (hmin : ∀ u ∈ us, l ≤ u) : ∀ t, (dbl l (rowsB us u0 t)).Pairwise (· < ·) ∧ ∀ x, x ∈ dbl l (rowsB us u0 t) ↔ x ∈ us ∧ x ^^^ l < 2 ^ t
  | 0 => ⟨List.pairwise_singleton .., fun x => by
      rw [rowsB, dbl, List.mem_singleton]
      constructor
      · rintro rfl; exact ⟨hl, by rw [Nat.xor_self]; decide⟩
      · rintro ⟨_, h⟩; exact x_zero (by omega)⟩
  | t + 1 => by
    obtain ⟨P, M⟩ := dbl_rows A h0 hl hmin t
    have hp : 2 ^ (t + 1) = 2 ^ t + 2 ^ t := by rw [Nat.pow_succ]; omega
    rw [rowsB]
    split
    · rename_i r hr
      obtain ⟨r1, r2, r3⟩ := rowN_some hr
      refine ⟨?_, fun x => ?_⟩
      · rw [dbl, List.pairwise_append]
        refine ⟨P, ?_, fun a ha b hb => ?_⟩
        · rw [List.pairwise_map]
          refine P.imp_of_mem fun {a b} ha hb hab => x_keep b a b r (Nat.le_refl _) hab ?_
          obtain ⟨ha1, ha2⟩ := (M a).mp ha
          obtain ⟨hb1, hb2⟩ := (M b).mp hb
          have hd : a ^^^ b < 2 ^ t := by
            have := x_lo ha2 hb2
            rwa [← Nat.xor_assoc, x_right a l b, x_cancel] at this
          refine r3 _ ?_ (x_hi r2 hd)
          have := A.clos _ r1 a ha1 b hb1
          rwa [show r ^^^ u0 ^^^ a ^^^ b = r ^^^ (a ^^^ b) ^^^ u0 by ac_rfl] at this
        · rw [mem_mapx] at hb
          obtain ⟨ha1, ha2⟩ := (M a).mp ha
          obtain ⟨hb1, hb2⟩ := (M _).mp hb
          have hb3 : b ∈ us := by have := A.move h0 hb1 r1; rwa [x_cancel] at this
          refine x_ord ha2 ?_ (hmin b hb3)
          have := x_hi r2 hb2
          rw [show r ^^^ (b ^^^ r ^^^ l) = b ^^^ l ^^^ r ^^^ r by ac_rfl, x_cancel] at this
          exact this.1
      · rw [dbl, List.mem_append, mem_mapx, M, M]
        constructor
        · rintro (⟨a1, a2⟩ | ⟨a1, a2⟩)
          · exact ⟨a1, by omega⟩
          · refine ⟨by have := A.move h0 a1 r1; rwa [x_cancel] at this, ?_⟩
            have := (x_hi r2 a2).2
            rwa [Nat.xor_comm r, x_right, x_cancel] at this
        · rintro ⟨a1, a2⟩
          by_cases q : x ^^^ l < 2 ^ t
          · exact .inl ⟨a1, q⟩
          · refine .inr ⟨A.move h0 a1 r1, ?_⟩
            rw [x_right]
            exact x_top ⟨by omega, a2⟩ r2
    · rename_i hr
      refine ⟨P, fun x => ?_⟩
      rw [M]
      constructor
      · rintro ⟨a1, a2⟩; exact ⟨a1, by omega⟩
      · rintro ⟨a1, a2⟩
        refine ⟨a1, Nat.lt_of_not_le fun q => rowN_none hr _ (A.diff h0 a1 hl) ⟨q, a2⟩⟩
theorem rows_lt {us : List Nat} {u0 : Nat} : ∀ t, ∀ r ∈ rowsB us u0 t, r < 2 ^ t
  | 0, r, h => by cases h
  | t + 1, r, h => by
    have hp : 2 ^ (t + 1) = 2 ^ t + 2 ^ t := by rw [Nat.pow_succ]; omega
    rw [rowsB] at h
    split at h
    · rename_i q hq
      rcases List.mem_cons.mp h with rfl | h
      · exact (rowN_some hq).2.1.2
      · have := rows_lt t r h; omega
    · have := rows_lt t r h; omega
/-- in rising order the words are the doubled list -/
theorem dbl_perm {us : List Nat} {u0 l : Nat} (A : Aff us) (h0 : u0 ∈ us) (hl : l ∈ us) (hmin : ∀ u ∈ us, l ≤ u) : (dbl l (rowsB us u0 6)).Pairwise (· < ·) ∧ (dbl l (rowsB us u0 6)).Perm us := by
  obtain ⟨P, M⟩ := dbl_rows A h0 hl hmin 6
  refine ⟨P, perm_mem (P.imp fun h => Nat.ne_of_lt h) A.nodup fun x => ?_⟩
  rw [M]
  exact ⟨fun h => h.1, fun h => ⟨h, x_lo (A.lt _ h) (A.lt _ hl)⟩⟩
end SPL2
section SPL3
open PySem
noncomputable def em (off u : Nat) : Int := (u : Int) - (off : Int)
theorem em_lt {off a b : Nat} : em off a < em off b ↔ a < b := by unfold em; omega
theorem em_le {off a b : Nat} : em off a ≤ em off b ↔ a ≤ b := by unfold em; omega
theorem em_inj {off a b : Nat} (h : em off a = em off b) : a = b := by unfold em at h; omega
theorem bx_nn : ∀ a < 64, ∀ b < 64, Builtin.bitXor (a : Nat) (b : Nat) = ((a ^^^ b : Nat) : Int) := by decide +kernel
theorem bx_mn : ∀ a < 64, ∀ b < 64, Builtin.bitXor (em 64 a) (b : Nat) = em 64 (a ^^^ b) := by decide +kernel
theorem bx_mm : ∀ a < 64, ∀ b < 64, Builtin.bitXor (em 64 a) (em 64 b) = ((a ^^^ b : Nat) : Int) := by decide +kernel
theorem em_zero (a : Nat) : em 0 a = (a : Nat) := by unfold em; omega
/-- the two halves of the words: from 0 on, or from -64 on -/
noncomputable def OffW (off : Nat) : Prop := off = 0 ∨ off = 64
theorem em_xor {off a b : Nat} (ho : OffW off) (ha : a < 64) (hb : b < 64) : Builtin.bitXor (em off a) (b : Nat) = em off (a ^^^ b) := by
  rcases ho with rfl | rfl
  · rw [em_zero, em_zero]; exact bx_nn a ha b hb
  · exact bx_mn a ha b hb
theorem em_xor2 {off a b : Nat} (ho : OffW off) (ha : a < 64) (hb : b < 64) : Builtin.bitXor (em off a) (em off b) = ((a ^^^ b : Nat) : Int) := by
  rcases ho with rfl | rfl
  · rw [em_zero, em_zero]; exact bx_nn a ha b hb
  · exact bx_mm a ha b hb
theorem bits_top : ∀ v < 64, ∀ t < 6, ((Builtin.Int.intBits (v : Nat) : Int) - 1 = (t : Nat)) ↔ (2 ^ t ≤ v ∧ v < 2 ^ (t + 1)) := by decide +kernel
theorem single_iff : ∀ r < 64, ((!((r : Nat) : Int) == 0) && Builtin.bitAnd (r : Nat) (((r : Nat) : Int) - 1) == 0) = true ↔ r ≠ 0 ∧ r = 2 ^ r.log2 := by decide +kernel
end SPL3
section SPL4
open PySem
local macro_rules | `(tactic| omega) => `(tactic| lia)
noncomputable def bt (p x : Nat) : Nat := (x.testBit p).toNat
noncomputable def cn (p : Nat) : List Nat → Nat
  | [] => 0
  | x :: r => bt p x + cn p r
noncomputable def orl : List Nat → Nat
  | [] => 0
  | r :: rs => r ||| orl rs
theorem cn_append (p : Nat) : ∀ a b : List Nat, cn p (a ++ b) = cn p a + cn p b
  | [], b => by simp [cn]
  | x :: r, b => by rw [List.cons_append, cn, cn, cn_append p r b]; omega
theorem cn_map (p r : Nat) : ∀ a : List Nat, cn p (a.map fun x => x ^^^ r) = if r.testBit p = true then a.length - cn p a else cn p a
  | [] => by simp [cn]
  | x :: a => by
    have h := cn_map p r a
    have hle : ∀ a : List Nat, cn p a ≤ a.length := fun a => by
      induction a with
      | nil => exact Nat.le_refl _
      | cons x a ih => rw [cn, List.length_cons]; have : bt p x ≤ 1 := by unfold bt; cases x.testBit p <;> decide
                       omega
    have hl := hle a
    rw [List.map_cons, cn, h, cn, List.length_cons]
    have e : bt p (x ^^^ r) = ((x.testBit p) ^^ (r.testBit p)).toNat := by unfold bt; rw [Nat.testBit_xor]
    rw [e]
    unfold bt
    cases x.testBit p <;> cases r.testBit p <;> simp <;> omega
theorem cn_le (p : Nat) : ∀ a : List Nat, cn p a ≤ a.length
  | [] => Nat.le_refl _
  | x :: a => by
    rw [cn, List.length_cons]
    have : bt p x ≤ 1 := by unfold bt; cases x.testBit p <;> decide
    have := cn_le p a
    omega
/-- of a place that a row moves half of the words have it set; of another all or none -/
theorem cn_dbl (p l : Nat) : ∀ rs : List Nat, 2 * cn p (dbl l rs) = 2 ^ rs.length * (if (orl rs).testBit p = true then 1 else 2 * bt p l)
  | [] => by simp [dbl, cn, orl]
  | r :: rs => by
    have h := cn_dbl p l rs
    have hle := cn_le p (dbl l rs)
    rw [dbl_len] at hle
    rw [dbl, cn_append, cn_map, dbl_len, orl, Nat.testBit_or, List.length_cons, Nat.pow_succ]
    generalize 2 ^ rs.length = n at *
    cases hr : r.testBit p <;> cases ho : (orl rs).testBit p <;> simp only [ho, if_true, if_false, Bool.or_true, Bool.or_false, Bool.true_or, Bool.false_or, Bool.false_eq_true, reduceIte] at h ⊢
    · rw [Nat.mul_comm n 2, Nat.mul_assoc]; omega
    · omega
    · omega
    · omega
theorem six_bits : ∀ x < 64, x = bt 0 x + 2 * bt 1 x + 4 * bt 2 x + 8 * bt 3 x + 16 * bt 4 x + 32 * bt 5 x := by decide +kernel
theorem sum_bits : ∀ a : List Nat, (∀ x ∈ a, x < 64) → a.sum = cn 0 a + 2 * cn 1 a + 4 * cn 2 a + 8 * cn 3 a + 16 * cn 4 a + 32 * cn 5 a
  | [], _ => by simp [cn]
  | x :: a, h => by
    have h1 := sum_bits a fun x hx => h x (.tail _ hx)
    have h2 := six_bits x (h x (.head _))
    simp only [List.sum_cons, cn]
    omega
noncomputable def hb (l m p : Nat) : Nat := if m.testBit p = true then 1 else 2 * bt p l
noncomputable def hsum (l m : Nat) : Nat := hb l m 0 + 2 * hb l m 1 + 4 * hb l m 2 + 8 * hb l m 3 + 16 * hb l m 4 + 32 * hb l m 5
theorem sum_dbl {l : Nat} {rs : List Nat} (hl : l < 64) (hr : ∀ r ∈ rs, r < 64) : 2 * (dbl l rs).sum = 2 ^ rs.length * hsum l (orl rs) := by
  rw [sum_bits _ fun x hx => dbl_mem rs hr hl hx]
  have h0 := cn_dbl 0 l rs
  have h1 := cn_dbl 1 l rs
  have h2 := cn_dbl 2 l rs
  have h3 := cn_dbl 3 l rs
  have h4 := cn_dbl 4 l rs
  have h5 := cn_dbl 5 l rs
  unfold hsum hb
  simp only [Nat.mul_add, Nat.mul_left_comm (2 ^ rs.length)]
  omega
theorem orl_lt {n : Nat} : ∀ rs : List Nat, (∀ r ∈ rs, r < 2 ^ n) → orl rs < 2 ^ n
  | [], _ => Nat.two_pow_pos _
  | r :: rs, h => Nat.or_lt_two_pow (h r (.head _)) (orl_lt rs fun r hr => h r (.tail _ hr))
theorem hs_off0 : ∀ l < 64, ∀ m < 64, 2 * Builtin.bitAnd (em 0 l) (Builtin.bitNot (m : Nat)) + (m : Nat) = (hsum l m : Nat) - 2 * ((0 : Nat) : Int) := by decide +kernel
theorem hs_off64 : ∀ l < 64, ∀ m < 64, 2 * Builtin.bitAnd (em 64 l) (Builtin.bitNot (m : Nat)) + (m : Nat) = (hsum l m : Nat) - 2 * ((64 : Nat) : Int) := by decide +kernel
theorem bo_nn : ∀ a < 64, ∀ b < 64, Builtin.bitOr (a : Nat) (b : Nat) = ((a ||| b : Nat) : Int) := by decide +kernel
theorem sum_em {off : Nat} : ∀ a : List Nat, (a.map (em off)).sum = (a.sum : Int) - (off : Int) * (a.length : Int)
  | [] => by simp
  | x :: a => by
    have h := sum_em (off := off) a
    simp only [List.map_cons, List.sum_cons, h, em, List.length_cons, Int.natCast_add, Int.natCast_one, Int.mul_add, Int.mul_one]
    omega
end SPL4
section SSortC
open PySem PySem.W PyProof.Rows PySem.Calls PySem.Spec
set_option maxRecDepth 100000
theorem keeps_same' {a : Addr} {h h' : Heap} (x : Heap.SameBut a h h') : Keeps [a] h h' := fun b o e n => (x.2 b fun q => n (q ▸ by simp)).trans e
/-- every question is about places below n -/
noncomputable def KInR {α : Type} (n : Nat) : KasT α → Prop
  | .ret _ => True
  | .ask i j k => i < n ∧ j < n ∧ ∀ b, KInR n (k b)
/-- all answers of a tree have P -/
noncomputable def KAll {α : Type} (P : α → Prop) : KasT α → Prop
  | .ret a => P a
  | .ask _ _ k => ∀ b, KAll P (k b)
theorem kinr_bind' {α β : Type} {n : Nat} {f : α → KasT β} {P : α → Prop} (hf : ∀ a, P a → KInR n (f a)) : ∀ (t : KasT α), KInR n t → KAll P t → KInR n (t.bind f)
  | .ret a, _, h => hf a h
  | .ask _ _ k, ⟨h1, h2, h3⟩, h => ⟨h1, h2, fun b => kinr_bind' hf (k b) (h3 b) (h b)⟩
theorem kall_bind {α β : Type} {f : α → KasT β} {P : α → Prop} {P' : β → Prop} (hf : ∀ a, P a → KAll P' (f a)) : ∀ (t : KasT α), KAll P t → KAll P' (t.bind f)
  | .ret a, h => hf a h
  | .ask _ _ k, h => fun b => kall_bind hf (k b) (h b)
theorem kall_true {α : Type} : ∀ (t : KasT α), KAll (fun _ => True) t
  | .ret _ => trivial
  | .ask _ _ k => fun b => kall_true (k b)
noncomputable def ArrLt (n : Nat) (p : Array Nat) : Prop := ∀ x ∈ p.toList, x < n
theorem ArrLt.getD {n : Nat} {p : Array Nat} (h : ArrLt n p) (hn : 0 < n) (k : Nat) : p.getD k 0 < n := by
  by_cases hk : k < p.size
  · have : p.getD k 0 = p[k] := by simp [Array.getD, hk]
    rw [this]
    exact h _ (by simp)
  · have : p.getD k 0 = 0 := by simp [Array.getD, hk]
    rw [this]; exact hn
theorem ArrLt.perm {n : Nat} {p q : Array Nat} (h : ArrLt n p) (hp : q.Perm p) : ArrLt n q := fun x hx => h x ((Array.perm_iff_toList_perm.mp hp).mem_iff.mp hx)
section
variable {n : Nat}
theorem asc_inr (hn : 0 < n) {p : Array Nat} (h : ArrLt n p) : ∀ (f k : Nat), KInR n (kas_asc p f k)
  | 0, _ => trivial
  | f + 1, k => ⟨h.getD hn _, h.getD hn _, fun b => by
    show KInR n (if b = true then KasT.ret k else kas_asc p f (k + 1))
    split
    · trivial
    · exact asc_inr hn h f (k + 1)⟩
theorem desc_inr (hn : 0 < n) : ∀ (f : Nat) {p : Array Nat} (_ : ArrLt n p) (k q : Nat), KInR n (kas_desc f p k q)
  | 0, _, _, _, _ => trivial
  | f + 1, p, h, k, q => ⟨h.getD hn _, h.getD hn _, fun b => by
    dsimp only
    split
    · split
      · exact desc_inr hn f (h.perm (rev_perm _ _ _)) _ _
      · exact desc_inr hn f h _ _
    · refine ⟨h.getD hn _, h.getD hn _, fun d => ?_⟩
      dsimp only
      split
      · trivial
      · exact desc_inr hn f h _ _⟩
theorem desc_all : ∀ (f : Nat) {p : Array Nat} (_ : ArrLt n p) (k q : Nat), KAll (fun r => ArrLt n r.1) (kas_desc f p k q)
  | 0, _, h, _, _ => h
  | f + 1, p, h, k, q => fun b => by
    dsimp only
    split
    · split
      · exact desc_all f (h.perm (rev_perm _ _ _)) _ _
      · exact desc_all f h _ _
    · intro d
      dsimp only
      split
      · exact h
      · exact desc_all f h _ _
theorem tail3_inr (hn : 0 < n) {p : Array Nat} (h : ArrLt n p) (m nrem : Nat) : KInR n (kas_tail3 m nrem p) ∧ KAll (fun r => ArrLt n r.2) (kas_tail3 m nrem p) := by
  have h' := h.perm (rev_perm p 0 m)
  unfold kas_tail3
  refine ⟨kinr_bind' (P := fun _ => True) ?_ _ (asc_inr hn h' _ _) (kall_true _), kall_bind (P := fun _ => True) ?_ _ (kall_true _)⟩
  · exact fun _ _ => trivial
  · exact fun _ _ => h'
theorem descPart_inr (hn : 0 < n) {p : Array Nat} (h : ArrLt n p) (m nrem : Nat) : KInR n (kas_descPart m nrem p) ∧ KAll (fun r => ArrLt n r.2) (kas_descPart m nrem p) := by
  have one : ∀ r : Array Nat × Nat × Nat, ArrLt n r.1 → KInR n (if r.2.2 > 0 then kas_tail3 r.2.1 nrem (kas_rev r.1 (r.2.1 - (r.2.2 + 1)) r.2.1) else kas_tail3 r.2.1 nrem r.1) ∧ KAll (fun r => ArrLt n r.2) (if r.2.2 > 0 then kas_tail3 r.2.1 nrem (kas_rev r.1 (r.2.1 - (r.2.2 + 1)) r.2.1) else kas_tail3 r.2.1 nrem r.1) := fun r hr => by
    split
    · exact tail3_inr hn (hr.perm (rev_perm _ _ _)) _ _
    · exact tail3_inr hn hr _ _
  exact ⟨kinr_bind' (fun r hr => (one r hr).1) _ (desc_inr hn _ h _ _) (desc_all _ h _ _), kall_bind (fun r hr => (one r hr).2) _ (desc_all _ h _ _)⟩
theorem count_inr (hn : 0 < n) {p : Array Nat} (h : ArrLt n p) (nrem : Nat) : KInR n (kas_count nrem p) ∧ KAll (fun r => ArrLt n r.2) (kas_count nrem p) := by
  have one : ∀ m : Nat, KInR n (if (m == nrem) = true then KasT.ret (m, p) else if m > 1 then KasT.ask (p.getD 0 0) (p.getD (m - 1) 0) fun c => if c = true then KasT.ret (m, p) else kas_descPart m nrem (kas_rev p 0 m) else kas_descPart m nrem p) ∧
      KAll (fun r : Nat × Array Nat => ArrLt n r.2) (if (m == nrem) = true then KasT.ret (m, p) else if m > 1 then KasT.ask (p.getD 0 0) (p.getD (m - 1) 0) fun c => if c = true then KasT.ret (m, p) else kas_descPart m nrem (kas_rev p 0 m) else kas_descPart m nrem p) := fun m => by
    split
    · exact ⟨trivial, h⟩
    · split
      · refine ⟨⟨h.getD hn _, h.getD hn _, fun c => ?_⟩, fun c => ?_⟩
        · dsimp only
          split
          · trivial
          · exact (descPart_inr hn (h.perm (rev_perm _ _ _)) _ _).1
        · dsimp only
          split
          · exact h
          · exact (descPart_inr hn (h.perm (rev_perm _ _ _)) _ _).2
      · exact descPart_inr hn h _ _
  exact ⟨kinr_bind' (P := fun _ => True) (fun m _ => (one m).1) _ (asc_inr hn h _ _) (kall_true _), kall_bind (P := fun _ => True) (fun m _ => (one m).2) _ (kall_true _)⟩
theorem place_inr (hn : 0 < n) {p : Array Nat} (h : ArrLt n p) (k : Nat) : ∀ (f l r : Nat), KInR n (kas_place p k f l r)
  | 0, _, _ => trivial
  | f + 1, l, r => by
    show KInR n (if l ≥ r then KasT.ret l else KasT.ask (p.getD k 0) (p.getD ((l + r) / 2) 0) fun c => if c = true then kas_place p k f l ((l + r) / 2) else kas_place p k f ((l + r) / 2 + 1) r)
    split
    · trivial
    · refine ⟨h.getD hn _, h.getD hn _, fun c => ?_⟩
      dsimp only
      split
      · exact place_inr hn h k f _ _
      · exact place_inr hn h k f _ _
theorem bin_inr (hn : 0 < n) : ∀ (f : Nat) {p : Array Nat} (_ : ArrLt n p) (k : Nat), KInR n (kas_bin f p k)
  | 0, _, _, _ => trivial
  | f + 1, p, h, k => kinr_bind' (P := fun _ => True) (fun l _ => bin_inr hn f (h.perm (bubble_perm _ _ _)) (k + 1)) _ (place_inr hn h k _ _ _) (kall_true _)
theorem sort_inr (hn : 0 < n) : KInR n (kas_sort n) := by
  have h : ArrLt n (List.toArray (List.range n)) := fun x hx => by simpa using hx
  refine kinr_bind' (P := fun r => ArrLt n r.2) (fun r hr => ?_) _ (count_inr hn h n).1 (count_inr hn h n).2
  split
  · exact bin_inr hn _ hr _
  · trivial
end
/-- the tree's run, where each question is answered on the spot -/
theorem kasWp_run {α : Type} {n : Nat} {cmp : Nat → Nat → (Bool → Shared → Prop) → Shared → Prop} {r : Nat → Int} {Q : α → Shared → Prop} {s : Shared}
    (hc : ∀ i j C, i < n → j < n → C (decide (r i < r j)) s → cmp i j C s) : ∀ (t : KasT α), KInR n t → Q (kasRun r t) s → t.kasWp cmp Q s
  | .ret _, _, h => h
  | .ask i j k, ⟨h1, h2, h3⟩, h => hc i j _ h1 h2 (kasWp_run hc (k (decide (r i < r j))) (h3 _) h)

section
variable {prog : Program} {w : World} {A : Around} {E : Value → Shared → Prop} {s : Shared}
/-- two pairs of ints compared, as sorted() does: by the first, where these differ -/
theorem pair_lt {a c : Addr} {x y i j : Int} {tx ty ti tj : Tok} {n m : Nat} {Q : Bool → Shared → Prop} (ha : s.heap.get? a = some { cls := .type "tuple", data := .seq #[.int x tx, .int i ti] n }) (hc : s.heap.get? c = some { cls := .type "tuple", data := .seq #[.int y ty, .int j tj] m })
    (hd : x = y → i = j) (h : Q (decide (x < y)) s) : wpAny (model prog w) A (keyLt' (tuples' true) (.ref a) (.ref c)) Q E s := by
  refine kat_lt ha rfl hc rfl ?_
  show KatLex prog w A true (decide (2 < 2)) Q [(.int x tx, .int y ty), (.int i ti, .int j tj)] 0 s
  refine kat_cons (wpAny_eqBool_int ?_)
  by_cases hxy : x = y
  · have hij := hd hxy
    subst hxy hij
    simp only [beq_self_eq_true]
    refine kat_yes (kat_cons (wpAny_eqBool_int ?_))
    simp only [beq_self_eq_true]
    refine kat_yes (kat_nil ?_)
    simpa using h
  · have : (x == y) = false := by simpa using hxy
    rw [this]
    exact kat_no (show wpAny (model prog w) A (oneLt' true (.int x tx) (.int y ty)) Q _ s from oneLt_int h)

theorem pair_snd {x y i j : Int} {tx ty ti tj : Tok} {n m : Nat} (h : ({ cls := .type "tuple", data := .seq #[.int x tx, .int i ti] n } : Obj) = { cls := .type "tuple", data := .seq #[.int y ty, .int j tj] m }) : i = j := by
  have h1 := congrArg Obj.data h
  dsimp only at h1
  injection h1 with h2 _
  have h3 : (Value.int i ti) = .int j tj := by
    have := congrArg (fun a : Array Value => a.getD 1 .none) h2
    simpa using this
  injection h3
/-- the items are references to pairs; the first of the k-th pair is x k -/
noncomputable def PairsIn (h : Heap) (vs : List Value) (x : Nat → Int) : Prop :=
  ∀ i < vs.length, ∃ (a : Addr) (tx tj : Tok) (j : Int) (n : Nat), vs.getD i Value.none = .ref a ∧ h.get? a = some { cls := .type "tuple", data := .seq #[.int (x i) tx, .int j tj] n }
theorem revIdx {α : Type} (b : Bool) (l : List α) (d : α) {i : Nat} (hi : i < l.length) : (katRev b l).getD i d = l.getD (if b = true then l.length - 1 - i else i) d := by
  cases b with
  | false => rfl
  | true =>
    unfold katRev
    simp only [if_true]
    have h1 : l.length - 1 - i < l.length := by omega
    simp [List.getD, List.getElem?_reverse hi]
theorem PairsIn.kats {h : Heap} {vs : List Value} {x : Nat → Int} (P : PairsIn h vs x) : ∃ fs : List Value, fs.length = vs.length ∧ KatTups h vs fs ∧ ∀ f ∈ fs, ∃ n t, f = .int n t := by
  induction vs generalizing x with
  | nil => exact ⟨[], rfl, .nil, fun _ h => nomatch h⟩
  | cons v r ih =>
    obtain ⟨fs, h1, h2, h3⟩ := ih (x := fun i => x (i + 1)) fun i hi => by
      obtain ⟨a, tx, tj, j, n, e1, e2⟩ := P (i + 1) (by simp; omega)
      exact ⟨a, tx, tj, j, n, by simpa using e1, e2⟩
    obtain ⟨a, tx, tj, j, n, e1, e2⟩ := P 0 (by simp)
    have ev : v = .ref a := by simpa using e1
    subst ev
    refine ⟨.int (x 0) tx :: fs, by simp [h1], KatTups.cons e2 rfl rfl (by simp) h2, fun f hf => ?_⟩
    rcases List.mem_cons.mp hf with rfl | hf
    · exact ⟨_, _, rfl⟩
    · exact h3 f hf

theorem list_sort_pairs {a : Addr} {vs : List Value} {n : Nat} {b : Bool} {x : Nat → Int} {P : PySem.Fin → Shared → Prop} (ho : s.heap.get? a = some (seqObj "list" vs.toArray n)) (h64 : vs.length < 64)
    (hP : PairsIn s.heap vs x) (hx : ∀ i j, i < vs.length → j < vs.length → i ≠ j → x i ≠ x j) (hna : ∀ i < vs.length, vs.getD i Value.none ≠ .ref a)
    (h : ∀ (σ : List Nat) (h' : Heap) (c : Nat), σ.Perm (List.range vs.length) → (σ.map x).Pairwise (fun p q => if b = true then q ≤ p else p ≤ q) → Keeps [a] s.heap h' →
      h'.get? a = some (seqObj "list" (List.toArray (σ.map fun i => vs.getD i Value.none)) c) → P (.done (.ret .none)) { s with heap := h' }) :
    wpAny (model prog w) A (Builtin.«list.sort» ⟨[.ref a], [(Str.ofString "reverse", .bool b)]⟩) P E s := by
  rw [list_sort_rev]
  have ha : a < s.heap.objs.size := Heap.lt_size ho
  have s1 := Heap.SameBut.update s.heap a (Obj.mapSeq fun _ => (#[] : Array Value))
  refine wpAny_bind (listItems_at ho rfl ?_)
  refine wpAny_bind (listUpdate_at ho rfl ?_ (by rw [List.size_toArray, sizeLine_eq]; omega) (Nat.zero_le _))
  obtain ⟨e1, ho1⟩ : ∃ e1, (s.heap.update a (Obj.mapSeq fun _ => (#[] : Array Value))).get? a = some (seqObj "list" #[] e1) := ⟨_, get?_update_seq ho (fun _ => #[])⟩
  refine wpAny_bind (seqEpoch_at ho1 rfl ?_)
  refine wpAny_bind (wpAny_newTuple ?_ (by show vs.length ≤ _; rw [sizeLine_eq]; omega))
  refine wpAny_bind (wpAny_newList ?_ (Nat.zero_le _))
  refine wpAny_holding ?_
  show wpAny (model prog w) A _ P E { s with heap := ((s.heap.update a (Obj.mapSeq fun _ => (#[] : Array Value))).push (seqObj "tuple" vs.toArray 0)).push (seqObj "list" #[] 0) }
  generalize hG : ((s.heap.update a (Obj.mapSeq fun _ => (#[] : Array Value))).push (seqObj "tuple" vs.toArray 0)).push (seqObj "list" #[] 0) = G
  have kG : Keeps [a] s.heap G := fun q o e nq => by
    rw [← hG]
    exact Heap.get?_push_of_some _ (Heap.get?_push_of_some _ ((s1.2 q (fun m => nq (m ▸ by simp))).trans e))
  have ho6 : G.get? a = some (seqObj "list" #[] e1) := by
    rw [← hG]
    exact Heap.get?_push_of_some _ (Heap.get?_push_of_some _ ho1)
  have hPG : PairsIn G vs x := fun i hi => by
    obtain ⟨t, tx, tj, j, m, e, ht⟩ := hP i hi
    exact ⟨t, tx, tj, j, m, e, kG _ _ ht fun q => hna i hi (by rw [e]; simpa using q)⟩
  clear hG
  have fin : ∀ σ : List Nat, σ.Perm (List.range vs.length) → (σ.map x).Pairwise (fun p q => if b = true then q ≤ p else p ≤ q) →
      P (.done (.ret .none)) { s with heap := G.update a (Obj.mapSeq fun _ => List.toArray (σ.map fun i => vs.getD i Value.none)) } := fun σ p1 p2 => by
    obtain ⟨c, hc⟩ : ∃ c, (G.update a (Obj.mapSeq fun _ => List.toArray (σ.map fun i => vs.getD i Value.none))).get? a = some (seqObj "list" (List.toArray (σ.map fun i => vs.getD i Value.none)) c) := ⟨_, get?_update_seq ho6 fun _ => List.toArray (σ.map fun i => vs.getD i Value.none)⟩
    exact h σ _ c p1 p2 (kG.trans (keeps_same' (Heap.SameBut.update ..))) hc
  dsimp only
  have step : ∀ t : Sem PySem.Fin, wpAny (model prog w) A t P E { s with heap := G } → wpAny (model prog w) A (if b = true then (do let _ ← rule "list.sort.reverse"; t) else t) P E { s with heap := G } := by
    intro t ht
    split
    · exact wpAny_bind (wpAny_rule ht)
    · exact ht
  refine step _ ?_
  have hsz : vs.toArray.size = vs.length := by simp
  by_cases h2 : vs.toArray.size < 2
  · rw [if_pos h2, if_pos h2]
    refine wpAny_bind (wpAny_pure ?_)
    rw [StateT.run_pure]
    refine wpAny_bind (wpAny_pure ?_)
    dsimp only
    have key : (if b = true then (((arrOf (SortSt.mk' general' (if b = true then (vs.toArray.zip vs.toArray).reverse else vs.toArray.zip vs.toArray) #[] 7 none)).map (·.2))).reverse else (arrOf (SortSt.mk' general' (if b = true then (vs.toArray.zip vs.toArray).reverse else vs.toArray.zip vs.toArray) #[] 7 none)).map (·.2)) = List.toArray ((List.range vs.length).map fun i => vs.getD i Value.none) := by
      have hv : vs = [] ∨ ∃ v, vs = [v] := by
        match vs, hsz, h2 with
        | [], _, _ => exact .inl rfl
        | [v], _, _ => exact .inr ⟨v, rfl⟩
        | _ :: _ :: _, _, h2 => simp at h2; omega
      have ea : ∀ it, arrOf (SortSt.mk' general' it #[] 7 none) = it := fun _ => rfl
      rw [ea]
      rcases hv with rfl | ⟨v, rfl⟩ <;> cases b <;> simp
    refine wpAny_bind (seqEpoch_at ho6 rfl ?_)
    rw [key]
    refine wpAny_bind (listUpdate_at ho6 rfl ?_ (Nat.zero_le _) (by rw [List.size_toArray, List.length_map, List.length_range, sizeLine_eq]; omega))
    simp only [bne_self_eq_false, Bool.false_eq_true, if_false]
    refine wpAny_pure (fin _ (List.Perm.refl _) ?_)
    rw [List.pairwise_iff_getElem]
    intro i j hi hj hij
    simp only [List.length_map, List.length_range] at hi hj
    omega
  · rw [if_neg h2, if_neg h2]
    have hn2 : 2 ≤ vs.length := by omega
    obtain ⟨fs, f1, f2, f3⟩ := hPG.kats
    refine wpAny_bind (kat_kind (s := { s with heap := G }) (T := Value.type "int") f2 (by omega) (fun v hv => ?_) (by decide) ?_)
    · obtain ⟨m, t, rfl⟩ := f3 v hv
      exact Looks.of_pure rfl
    rw [show (Value.type "int" != Value.type "tuple") = true from by decide]
    rw [kat_pairs b rfl]
    have hul : (katRev b vs).length = vs.length := kat_len b vs
    let idx : Nat → Nat := fun i => if b = true then vs.length - 1 - i else i
    have hidx : ∀ i, i < vs.length → idx i < vs.length := fun i hi => by show (if b = true then _ else _) < _; split <;> omega
    obtain ⟨q, q1, q2, q3⟩ := sort_run (n := vs.length) (r := fun i => x (idx i)) hn2 fun i j hi hj hij => hx _ _ (hidx i hi) (hidx j hj) (by
      show (if b = true then _ else _) ≠ (if b = true then _ else _); split <;> omega)
    refine wpAny_bind (wpAny_mono (kat_run (Q := fun st' s' => s' = { s with heap := G } ∧ arrOf st' = q.map (kas_item ((katRev b vs).toArray.zip (katRev b vs).toArray)) ∧ failedOf st' = none) (G := fun p s' => p = q ∧ s' = { s with heap := G })
      rfl (by omega) (by omega) (fun p' st' s' _ a2 a3 a4 => ⟨a4.2, a4.1 ▸ a2, a3⟩) ?_) ?_ fun _ _ e => e)
    · rw [hul]
      refine kasWp_run (r := fun i => x (idx i)) (fun i j C hi hj hC => ?_) _ (sort_inr (by omega)) ⟨q1, rfl⟩
      unfold kas_ask
      obtain ⟨ai, ti, tk, pi, ni, ei, hi'⟩ := hPG _ (hidx i hi)
      obtain ⟨aj, tj, tl, pj, nj, ej, hj'⟩ := hPG _ (hidx j hj)
      rw [revIdx b vs _ hi, revIdx b vs _ hj]
      rw [show vs.getD (if b = true then vs.length - 1 - i else i) Value.none = .ref ai from ei, show vs.getD (if b = true then vs.length - 1 - j else j) Value.none = .ref aj from ej]
      refine pair_lt hi' hj' (fun hxy => ?_) hC
      have hij : idx i = idx j := Classical.byContradiction fun hne => hx _ _ (hidx i hi) (hidx j hj) hne hxy
      have ea : ai = aj := by
        have := ei.symm.trans (hij ▸ ej)
        cases this; rfl
      subst ea
      have hh := hi'.symm.trans hj'
      exact pair_snd (Option.some.inj hh)
    · rintro ⟨⟨⟩, st'⟩ s' ⟨rfl, har, hf⟩
      dsimp only
      refine wpAny_bind (seqEpoch_at ho6 rfl ?_)
      have hout := kat_snds (ks := katRev b vs) (vs := katRev b vs) rfl har
      rw [hout, hf]
      have hmem : ∀ i ∈ q.toList, i < vs.length := fun i hi => by simpa using q2.mem_iff.mp hi
      have hmap : (q.toList.map fun i => (katRev b vs).getD i Value.none) = q.toList.map fun i => vs.getD (idx i) Value.none := List.map_congr_left fun i hi => revIdx b vs _ (hmem i hi)
      rw [hmap]
      have hlen : q.toList.length = vs.length := by rw [q2.length_eq, List.length_range]
      have hσ : (if b = true then (List.toArray (q.toList.map fun i => vs.getD (idx i) Value.none)).reverse else List.toArray (q.toList.map fun i => vs.getD (idx i) Value.none)) = List.toArray ((katRev b (q.toList.map idx)).map fun i => vs.getD i Value.none) := by
        cases b with
        | false => simp [katRev]
        | true => simp [katRev, List.map_reverse]
      rw [hσ]
      refine wpAny_bind (listUpdate_at ho6 rfl ?_ (Nat.zero_le _) (by rw [List.size_toArray, List.length_map, kat_len, List.length_map, hlen, sizeLine_eq]; omega))
      simp only [bne_self_eq_false, Bool.false_eq_true, if_false]
      refine wpAny_pure (fin _ ?_ ?_)
      · have hk : ∀ l : List Nat, (katRev b l).Perm l := fun l => by
          cases b with
          | false => exact List.Perm.refl _
          | true => exact List.reverse_perm _
        have hm : ((List.range vs.length).map idx).Perm (List.range vs.length) := by
          cases hb : b with
          | false =>
            have : ((List.range vs.length).map idx) = List.range vs.length := by
              rw [show idx = fun i => i from funext fun i => by show (if b = true then _ else _) = _; rw [hb]; simp]
              simp
            rw [this]
          | true =>
            have : ((List.range vs.length).map idx) = (List.range vs.length).reverse := by
              rw [show idx = fun i => vs.length - 1 - i from funext fun i => by show (if b = true then _ else _) = _; rw [hb]; simp]
              refine List.ext_getElem (by simp) fun i h1 h2 => ?_
              simp
            rw [this]
            exact List.reverse_perm _
        exact ((hk _).trans (q2.map idx)).trans hm
      · have e3 : (q.toList.map fun i => x (idx i)) = (q.toList.map idx).map x := by rw [List.map_map]; rfl
        rw [e3] at q3
        cases hb : b with
        | false => simpa [katRev] using q3
        | true =>
          have : (katRev true (q.toList.map idx)).map x = ((q.toList.map idx).map x).reverse := by simp [katRev, List.map_reverse]
          rw [this, List.pairwise_reverse]
          simpa using q3
end
end SSortC
open PySem PySem.W PyProof.Rows
/-- a walk stops here -/
noncomputable def Stop (p : Prop) : Prop := p
theorem stop_of {p : Prop} (h : Stop p) : p := h
theorem stop_in {p : Prop} (h : p) : Stop p := h
theorem lsA (a : Nat) : a < a + 1 := Nat.lt_succ_self a
theorem ls {a b : Nat} (h : a < b) : a < b + 1 := Nat.lt_succ_of_lt h
theorem lo1 {a m n : Nat} (h : a + m < n) : a < n := Nat.lt_of_le_of_lt (Nat.le_add_right a m) h
theorem lo2 {a k m n : Nat} (h : a + m < n) (e : Nat.ble k m = true) : a + k < n := Nat.lt_of_le_of_lt (Nat.add_le_add_left (Nat.le_of_ble_eq_true e) a) h
theorem lo3 {a k l m n : Nat} (h : a + m < n) (e : Nat.ble (k + l) m = true) : a + k + l < n := Nat.add_assoc a k l ▸ lo2 h e
theorem lo4 {a k l j m n : Nat} (h : a + m < n) (e : Nat.ble (k + (l + j)) m = true) : a + k + l + j < n := Nat.add_assoc (a + k) l j ▸ lo3 h e
theorem lo5 {a k l j i m n : Nat} (h : a + m < n) (e : Nat.ble (k + (l + (j + i))) m = true) : a + k + l + j + i < n := Nat.add_assoc (a + k + l) j i ▸ lo4 h e
theorem lp2 {m a b : Nat} (h : m < b) (e : a < m) : a < b := Nat.lt_trans e h
theorem lp3 {m a b : Nat} (h : m < b) (e : a ≤ m) : a < b := Nat.lt_of_le_of_lt e h
theorem lp4 {m a b : Nat} (h : m ≤ b) (e : a < m) : a < b := Nat.lt_of_lt_of_le e h
theorem lc1 {a b c : Nat} (h : a < b) (e : Nat.ble b (c + 1) = true) : a ≤ c := Nat.le_of_lt_succ (Nat.lt_of_lt_of_le h (Nat.le_of_ble_eq_true e))
theorem lc2 {a b c : Nat} (h : a < b) (e : Nat.ble b c = true) : a < c := Nat.lt_of_lt_of_le h (Nat.le_of_ble_eq_true e)
theorem lc3 {a b c : Nat} (h : a ≤ b) (e : Nat.ble b c = true) : a ≤ c := Nat.le_trans h (Nat.le_of_ble_eq_true e)
theorem lc4 {a b : Nat} (e : Nat.ble a b = true) : a ≤ b := Nat.le_of_ble_eq_true e
theorem le1 {i k n : Nat} (h : i + (k + 1) = n) : i < n := h ▸ Nat.lt_add_of_pos_right (Nat.succ_pos k)
theorem le2 {a b c : Nat} (h : b = c) (e : a < c) : a < b := h ▸ e
theorem le3 {a b c : Nat} (h : c = b) (e : a < c) : a < b := h ▸ e
theorem lz1 (k : Nat) : ((k + 1 : Nat) : Int) - 1 = (k : Int) := by omega
theorem ntl {g h : Heap} {L : Addr} {a : Addr × Obj} {r : List (Addr × Obj)} (N : News g L h (a :: r)) : News g L h r := fun q hq => N q (.tail _ hq)
theorem nws {g h : Heap} {L : Addr} {a : Addr × Obj} {r l : List (Addr × Obj)} (N : News g L h l) (ha : a ∈ l) (R : News g L h r) : News g L h (a :: r) := List.forall_mem_cons.mpr ⟨N a ha, R⟩
theorem nwc {g h : Heap} {L : Addr} {a : Addr × Obj} {r : List (Addr × Obj)} (z : h.get? a.1 = some a.2 ∧ a.1 ≠ L ∧ g.get? a.1 = none) (R : News g L h r) : News g L h (a :: r) := List.forall_mem_cons.mpr ⟨z, R⟩
theorem aC {α : Type} {P : α → Prop} {a : α} {r : List α} (h : P a) (t : ∀ q ∈ r, P q) : ∀ q ∈ a :: r, P q := List.forall_mem_cons.mpr ⟨h, t⟩
theorem aN {α : Type} {P : α → Prop} : ∀ q ∈ ([] : List α), P q := List.forall_mem_nil _
theorem anE {a b c : Prop} (h : a ∧ b) (f : a → b → c) : c := f h.1 h.2
local macro_rules | `(tactic| obtain ⟨$p:rcasesPat, $q:rcasesPat⟩ := $h) => `(tactic| ((first | refine Exists.elim $h ?_ | refine anE $h ?_); (try clear $h); rintro $p:rcasesPat $q:rcasesPat))
local macro_rules | `(tactic| obtain ⟨$p:rcasesPat, $q, $ps,*⟩ := $h) => `(tactic| ((first | refine Exists.elim $h ?_ | refine anE $h ?_); (try clear $h); rintro $p:rcasesPat hR; obtain ⟨$q, $ps,*⟩ := hR))
local macro_rules | `(tactic| obtain ⟨$p, $ps,*⟩ : $t := $h) => `(tactic| obtain ⟨$p, $ps,*⟩ := ($h : $t))
local macro_rules | `(tactic| walk_at "q0") => `(tactic| with_reducible first
  | assumption
  | (apply And.left; (iterate 15 (first | done | assumption | apply And.right)); done)
  | ((iterate 16 (first | done | assumption | apply And.right)); done))
local macro_rules | `(tactic| walk_at "q1") => `(tactic| first
  | walk_at "q0"
  | ((iterate 5 (first | done | with_reducible exact lsA _ | (with_reducible apply ls; try walk_at "q0"))); done)
  | (with_reducible refine lp2 (by assumption) ?_; first | walk_at "q0" | (with_reducible refine lp2 (by assumption) ?_; walk_at "q0") | (with_reducible refine lp4 (by assumption) ?_; walk_at "q0"))
  | (with_reducible refine lp4 (by assumption) ?_; walk_at "q0")
  | (with_reducible refine lp3 (by assumption) ?_; walk_at "q0"))
local macro_rules | `(tactic| walk_at "qq") => `(tactic| first
  | walk_at "q0"
  | (with_reducible show @Ne Nat _ _; first | (with_reducible refine Nat.ne_of_lt ?_; walk_at "q1") | (with_reducible refine Nat.ne_of_gt ?_; walk_at "q1") | (with_reducible refine Ne.symm ?_; walk_at "q0"))
  | (with_reducible show @LT.lt Nat _ _ _; first
    | walk_at "q1"
    | with_reducible_and_instances first | exact lo1 (by assumption) | exact lo2 (by assumption) rfl | exact lo3 (by assumption) rfl | exact lo4 (by assumption) rfl | exact lo5 (by assumption) rfl | exact le1 (by assumption) | exact lc2 (by assumption) rfl
    | (with_reducible refine le2 (by assumption) ?_; walk_at "q0")
    | (with_reducible refine le3 (by assumption) ?_; walk_at "q0"))
  | (with_reducible show @LE.le Nat _ _ _; with_reducible_and_instances first | exact Nat.le_refl _ | exact Nat.zero_le _ | exact Nat.le_of_lt (by assumption) | exact lc1 (by assumption) rfl | exact lc3 (by assumption) rfl | exact lc4 rfl)
  | with_reducible exact lz1 _)
local macro_rules | `(tactic| omega) => `(tactic| walk_at "qq")
local macro_rules | `(tactic| walk_at "lo") => `(tactic| first | walk_at "qq" | lia | omega)
open PySem PySem.W PyProof.Rows PySem.Calls PySem.Spec
local macro_rules | `(tactic| k_room) => `(tactic| ktr_room)
local macro_rules | `(tactic| k_units) => `(tactic| ktr_units)
local macro_rules | `(tactic| walk_at "call builtin:iter") => `(tactic| (k_here; (with_reducible show wpAny _ _ (call (Value.builtin "iter") [Value.ref _]) _ _ _); k_dflt (refine' Mine.li_iter ?F ?N ?l ?_; (case F => k_asm); (case N => k_asm); (case l => is_list); k_whole); intro D' h' F' N' l1; (try k_lt l1)))
local macro_rules | `(tactic| walk_at "call builtin:next") => `(tactic| (k_here; (with_reducible show wpAny _ _ (call (Value.builtin "next") [Value.ref _]) _ _ _); k_dflt (first
  | (refine' Mine.li_next ?F ?N ?U ?l ?x ?_; (case F => k_asm); (case N => k_asm); (case U => k_updF); (case l => is_list); (case x => assumption); k_whole; intro h' F' N')
  | (refine' Mine.li_end ?F ?N ?U ?l ?x ?hh ?_; (case F => k_asm); (case N => k_asm); (case U => k_updF); (case l => is_list); (case x => assumption); (case hh => rfl); k_whole; intro h1' h' e' F' N' x')); (try dsimp only at N')))
local macro_rules | `(tactic| walk_at "m:so") => `(tactic| with_reducible show wpAny _ _ (noteFrame _ _) (fun _ s₂ => wpAny _ _ (setFlight _ none) (fun _ s₃ => wpAny _ _ (handleBy _ _ (ExceptHandler.ExceptHandler (some (Expr.Name ("StopIteration" : Str) _)) none _ _ :: _)) _ _ s₃) _ s₂) _ _)
local macro_rules | `(tactic| kts_caughtN) => `(tactic| (walk_at "m:so"; k_dflt (refine' caught_SN0 (T' := "StopIteration") ?R ?F ?K ?U ?XB ?TB ?D ?T0 ?ex PyProof.Rows.Boot.«StopIteration» ?hn Mine.stop_isExc Mine.stop_notTuple ?hs ?_; (case R => assumption); (case F => assumption); (case K => assumption); (case U => assumption); (case XB => assumption); (case TB => assumption); (case D => assumption); (case T0 => first | assumption | exact KtsTurn.refl); (case hs => kts_sub); (case ex => k_is); (case hn => decide); k_whole); intro h' g' T' F' N' K' X' P' D'; (try k_lift K'); (try k_sweep)))
local macro_rules | `(tactic| walk_at "noteFrame ref") => `(tactic| (k_here; walk_at "m:so"; (with_reducible rename Heap.NewExc _ _ _ _ => nxX); k_dflt (refine' Mine.caught_new0 (T' := "StopIteration") nxX ?F ?N ?K ?XB ?TB ?D ?T0 ?ex PyProof.Rows.Boot.«StopIteration» ?hn Mine.stop_isExc Mine.stop_notTuple ?hs ?_; (case F => assumption); (case N => assumption); (case K => assumption); (case XB => assumption); (case TB => assumption); (case D => assumption); (case T0 => first | assumption | exact KtsTurn.refl); (case hs => kts_sub); (case ex => k_is); (case hn => decide); k_whole); intro h' g' T' F' N' K' X' P' D'; (try k_lift K'); (try k_sweep)))
section SCountC
open PySem PySem.W PyProof.Rows PySem.Calls PySem.Spec
theorem fresh_CountC : True := by
  w_top off
  trivial
noncomputable abbrev cntObj (d : Addr) (v : Int) (tv : Tok) (f : Bool) (ts : Tok) : Obj := { cls := .ref 222, dict := some d, data := .plain, slots := #[some (.int v tv), some (.bool f), some (.int 1 ts)] }

set_option maxRecDepth 100000 in
set_option maxHeartbeats 4000000 in
theorem count_next_c (w : World) {p : Program} {loose : List Str} {mean : ExcName → Option Value} {mg mb : Str → Option Value}
  (dp un : Nat) (gd : Option (List Code)) (fr : List Env) (base : Heap) (s : Shared) (Q E : Value → Shared → Prop)
  (H : Amid base fr s.heap) (XB : (Mine.hd.heap_39 w.params).In base) (TB : Top p loose mean mg mb base) (hd : dp + 2 < recursionLimit) (hu : un + 20 < cLine)
  {c d : Addr} {v : Int} {tv ts : Tok} {f : Bool} (hW : Loose base fr s.heap [(c, cntObj d v tv f ts), (d, dictOf [] 0)]) (hcd : d ≠ c)
  (ret : ∀ h' tk' tv', Keeps [c] s.heap h' → h'.get? c = some (cntObj d (v + 1) tv' f ts) → Q (.int v tv) { s with heap := h', toks := tk' }) :
  wpAny (model PySem.Challenge.rw_kl0506_01.row.prog w) (kA dp un gd fr) (call (.ref 211) [.ref c]) Q E s := by
  refine wpAny_call ?_
  k_dflt (refine' enterW H XB TB _ hW ?k6 ?k7 ?k8 ?k9 ?kB ?_ ?c2 ?c3 ?c4 ?c5; (case k6 => k_is); (case k7 => k_is); (case k8 => ktr_room); (case k9 => exact BindsTo.of_eq rfl); (case c5 => decide); (case kB => exact locs rfl); (case c2 => exact rfl); (case c3 => exact rfl); (case c4 => exact rfl); k_whole; intro g L' h' kp' bk' wl' F' N' B' X' T' D'; (try dsimp only); (try k_fold))
  have hne := neN hcd
  k_steps
  rename Fr _ _ _ _ => Fx
  rename News _ _ _ _ => Nx
  refine ret _ _ _ (keeps_out kp' Fx.keep fun b hb hn o ho => ?_) (Nx _ (.head _)).1
  simp only [List.map_cons, List.map_nil, List.mem_cons, List.not_mem_nil, or_false] at hb hn
  rcases hb with rfl | rfl
  · exact absurd rfl hn
  · rw [(hW _ (.tail _ (.head _))).1] at ho
    cases ho
    exact (Nx _ (.tail _ (.head _))).1
end SCountC
section SSmallC
open PySem PySem.W PyProof.Rows PySem.Calls PySem.Spec
local macro_rules | `(tactic| walk_at "no line") => `(tactic| fail "no line")
theorem fresh_SmallC : True := by
  w_top off
  trivial
theorem fd2 {k n : Nat} (e : k = n) : ((k : Int).fdiv 2).toNat = n / 2 := by
  subst e
  rw [Int.fdiv_eq_ediv_of_nonneg _ (by decide)]
  walk_at "lo"
theorem fd2o {k n : Nat} (e : k = n) (o : (k : Int).fmod 2 = 1) : ((k : Int).fdiv 2).toNat = (n - 1) / 2 := by
  subst e
  rw [Int.fmod_eq_emod_of_nonneg _ (by decide)] at o
  rw [Int.fdiv_eq_ediv_of_nonneg _ (by decide)]
  walk_at "lo"
theorem fd2e {k n : Nat} (e : k = n) (hn : 0 < n) (o : (k : Int).fmod 2 ≠ 1) : ((k : Int).fdiv 2 - 1).toNat = (n - 1) / 2 := by
  subst e
  rw [Int.fmod_eq_emod_of_nonneg _ (by decide)] at o
  rw [Int.fdiv_eq_ediv_of_nonneg _ (by decide)]
  walk_at "lo"
section
variable (w : World) {p : Program} {loose : List Str} {mean : ExcName → Option Value} {mg mb : Str → Option Value}
  (dp un : Nat) (gd : Option (List Code)) (fr : List Env) (base : Heap)
set_option maxRecDepth 100000 in
set_option maxHeartbeats 4000000 in
theorem median_high_c (s : Shared) (Q E : Value → Shared → Prop)
  (H : Amid base fr s.heap) (XB : (Mine.hd.heap_39 w.params).In base) (TB : Top p loose mean mg mb base) (hd : dp + 1 < recursionLimit) (hu : un + 8 < cLine)
  {l : Addr} {vs : List Value} {ns : List Int} (hl : s.heap.IsList l vs.toArray) (hi : IntsAre vs ns) (hpos : 0 < ns.length) (h64 : ns.length < 64)
  (ret : ∀ (sd : List Int) (i : Nat) (t : Tok) (h' : Heap) (tk' : Nat), Keeps [] s.heap h' → sd.Perm ns → sd.Pairwise (· ≤ ·) → i = ns.length / 2 → Q (.int (sd.getD i 0) t) { s with heap := h', toks := tk' }) :
  wpAny (model PySem.Challenge.rw_kl0506_01.row.prog w) (kA dp un gd fr) (call (.ref 300) [.ref l]) Q E s := by
  refine wpAny_call ?_
  k_dflt (refine' enterP H XB TB ?k6 ?k7 ?k8 ?k9 ?kB ?_ ?c2 ?c3 ?c4 ?c5; (case k6 => k_is); (case k7 => k_is); (case k8 => ktr_room); (case k9 => exact BindsTo.of_eq rfl); (case c5 => decide); (case kB => exact locs rfl); (case c2 => exact rfl); (case c3 => exact rfl); (case c4 => exact rfl); k_whole; intro L' h' F' N' B' X' T' D'; (try dsimp only); (try k_fold))
  k_steps
  · rename List.Perm _ _ => pX
    have := pX.length_eq
    exfalso; walk_at "lo"
  rename Fr _ _ _ _ => Fx
  rename List.Perm _ _ => pX
  rename List.Pairwise _ _ => oX
  exact ret _ _ _ _ _ (fun b o e _ => Fx.keep b o e) pX oX (fd2 pX.length_eq)
set_option maxRecDepth 100000 in
set_option maxHeartbeats 4000000 in
theorem median_low_c (s : Shared) (Q E : Value → Shared → Prop)
  (H : Amid base fr s.heap) (XB : (Mine.hd.heap_39 w.params).In base) (TB : Top p loose mean mg mb base) (hd : dp + 1 < recursionLimit) (hu : un + 8 < cLine)
  {l : Addr} {vs : List Value} {ns : List Int} (hl : s.heap.IsList l vs.toArray) (hi : IntsAre vs ns) (hpos : 0 < ns.length) (h64 : ns.length < 64)
  (ret : ∀ (sd : List Int) (i : Nat) (t : Tok) (h' : Heap) (tk' : Nat), Keeps [] s.heap h' → sd.Perm ns → sd.Pairwise (· ≤ ·) → i = (ns.length - 1) / 2 → Q (.int (sd.getD i 0) t) { s with heap := h', toks := tk' }) :
  wpAny (model PySem.Challenge.rw_kl0506_01.row.prog w) (kA dp un gd fr) (call (.ref 293) [.ref l]) Q E s := by
  refine wpAny_call ?_
  k_dflt (refine' enterP H XB TB ?k6 ?k7 ?k8 ?k9 ?kB ?_ ?c2 ?c3 ?c4 ?c5; (case k6 => k_is); (case k7 => k_is); (case k8 => ktr_room); (case k9 => exact BindsTo.of_eq rfl); (case c5 => decide); (case kB => exact locs rfl); (case c2 => exact rfl); (case c3 => exact rfl); (case c4 => exact rfl); k_whole; intro L' h' F' N' B' X' T' D'; (try dsimp only); (try k_fold))
  k_steps
  · rename List.Perm _ _ => pX
    have := pX.length_eq
    exfalso; walk_at "lo"
  · rename Fr _ _ _ _ => Fx
    rename List.Perm _ _ => pX
    rename List.Pairwise _ _ => oX
    exact ret _ _ _ _ _ (fun b o e _ => Fx.keep b o e) pX oX (fd2o pX.length_eq (by assumption))
  · rename Fr _ _ _ _ => Fx
    rename List.Perm _ _ => pX
    rename List.Pairwise _ _ => oX
    exact ret _ _ _ _ _ (fun b o e _ => Fx.keep b o e) pX oX (fd2e pX.length_eq hpos (by assumption))
set_option maxRecDepth 100000 in
set_option maxHeartbeats 4000000 in
theorem high_bit_c (s : Shared) (Q E : Value → Shared → Prop)
  (H : Amid base fr s.heap) (XB : (Mine.hd.heap_39 w.params).In base) (TB : Top p loose mean mg mb base) (hd : dp + 1 < recursionLimit) (hu : un + 8 < cLine) {n : Int} {t : Tok}
  (ret : ∀ (t : Tok) (h' : Heap) (tk' : Nat), Keeps [] s.heap h' → Q (.int ((Builtin.Int.intBits n : Nat) - 1 : Int) t) { s with heap := h', toks := tk' }) :
  wpAny (model PySem.Challenge.rw_kl0506_01.row.prog w) (kA dp un gd fr) (call (.ref 314) [.int n t]) Q E s := by
  refine wpAny_call ?_
  k_dflt (refine' enterP H XB TB ?k6 ?k7 ?k8 ?k9 ?kB ?_ ?c2 ?c3 ?c4 ?c5; (case k6 => k_is); (case k7 => k_is); (case k8 => ktr_room); (case k9 => exact BindsTo.of_eq rfl); (case c5 => decide); (case kB => exact locs rfl); (case c2 => exact rfl); (case c3 => exact rfl); (case c4 => exact rfl); k_whole; intro L' h' F' N' B' X' T' D'; (try dsimp only); (try k_fold))
  k_steps
  rename Fr _ _ _ _ => Fx
  exact ret _ _ _ (fun b o e _ => Fx.keep b o e)
set_option maxRecDepth 100000 in
set_option maxHeartbeats 4000000 in
theorem single_bit_c (s : Shared) (Q E : Value → Shared → Prop)
  (H : Amid base fr s.heap) (XB : (Mine.hd.heap_39 w.params).In base) (TB : Top p loose mean mg mb base) (hd : dp + 1 < recursionLimit) (hu : un + 8 < cLine) {n : Int} {t : Tok}
  (ret : ∀ (b : Bool) (h' : Heap) (tk' : Nat), b = (!(n == 0) && (Builtin.bitAnd n (n - 1) == 0)) → Keeps [] s.heap h' → Q (.bool b) { s with heap := h', toks := tk' }) :
  wpAny (model PySem.Challenge.rw_kl0506_01.row.prog w) (kA dp un gd fr) (call (.ref 307) [.int n t]) Q E s := by
  refine wpAny_call ?_
  k_dflt (refine' enterP H XB TB ?k6 ?k7 ?k8 ?k9 ?kB ?_ ?c2 ?c3 ?c4 ?c5; (case k6 => k_is); (case k7 => k_is); (case k8 => ktr_room); (case k9 => exact BindsTo.of_eq rfl); (case c5 => decide); (case kB => exact locs rfl); (case c2 => exact rfl); (case c3 => exact rfl); (case c4 => exact rfl); k_whole; intro L' h' F' N' B' X' T' D'; (try dsimp only); (try k_fold))
  k_steps
  · rename Fr _ _ _ _ => Fx
    rename n = 0 => e0
    exact ret false _ _ (by rw [e0]; rfl) (fun b o e _ => Fx.keep b o e)
  · rename Fr _ _ _ _ => Fx
    rename n ≠ 0 => e0
    exact ret _ _ _ (by rw [beq_false_of_ne e0]; rfl) (fun b o e _ => Fx.keep b o e)
end
end SSmallC
open PySem PySem.W PyProof.Rows PySem.Calls PySem.Spec
local macro_rules | `(tactic| walk_at "m:0") => `(tactic| (k_here; (with_reducible refine stop_of ?_)))
section SFMean
open PySem PySem.W PyProof.Rows PySem.Calls PySem.Spec
theorem fresh_FMean : True := by
  w_top off
  trivial
local macro_rules | `(tactic| walk_at "exec Try") => `(tactic| (k_here; refine wpAny_Try_except ?_))
theorem fsum_led {prog : Program} {w : World} {A : Around} (hh : A.handled = none) {s : Shared} {h₀ : Heap} {L l : Addr} {m : Str → Option Value} {news : List (Addr × Obj)} {vs : List Value} {ns : List Int} {Q E : Value → Shared → Prop} (F : Fr h₀ L s.heap m) (N : News h₀ L s.heap news) (hl : s.heap.IsList l vs.toArray) (hi : IntsAre vs ns) (hb : ∀ z ∈ ns, z.natAbs < 1000) (h64 : ns.length < 64)
    (h : ∀ h' tk' x t, HV x (2 * ns.sum) → Fr h₀ L h' m → News h₀ L h' news → Q (.float x t) { s with heap := h', toks := tk' }) : wpAny (model prog w) A (call (.builtin "math.fsum") [.ref l]) Q E s :=
  call_fsum hh hl hi hb h64 fun h' tk' x t hx hk => h h' tk' x t hx (F.keeps hk) (N.grown hk)
theorem truthy_pos {prog : Program} {w : World} {A : Around} {E : Value → Shared → Prop} {s : Shared} {a : Int} {t : Tok} {Q : Bool → Shared → Prop} (h0 : a ≠ 0) (h : Q true s) : wpAny (model prog w) A (truthy (.int a t)) Q E s :=
  PySem.P.truthy_int (by rw [show (a != 0) = true by simp [h0]]; exact h)
local macro_rules | `(tactic| walk_at "truthy int") => `(tactic| (k_here; (refine Mine.truthy_pos (by omega) ?_)))
local macro_rules | `(tactic| walk_at "call builtin:math.fsum") => `(tactic| walk_at "m:0")
section
variable (w : World) {p : Program} {loose : List Str} {mean : ExcName → Option Value} {mg mb : Str → Option Value}
  (dp un : Nat) (gd : Option (List Code)) (fr : List Env) (base : Heap)
set_option maxRecDepth 100000 in
set_option maxHeartbeats 4000000 in
theorem fmean_c (s : Shared) (Q E : Value → Shared → Prop)
  (H : Amid base fr s.heap) (XB : (Mine.hd.heap_39 w.params).In base) (TB : Top p loose mean mg mb base) (hd : dp + 1 < recursionLimit) (hu : un + 8 < cLine)
  {l : Addr} {vs : List Value} {ns : List Int} (hl : s.heap.IsList l vs.toArray) (hi : IntsAre vs ns) (hpos : 0 < ns.length) (h64 : ns.length < 64) (hb : ∀ z ∈ ns, z.natAbs < 1000)
  (ret : ∀ x y t (h' : Heap) (tk' : Nat), Keeps [] s.heap h' → HV x (2 * ns.sum) → y = Float64.div x (Float64.ofInt ns.length) → Q (.float y t) { s with heap := h', toks := tk' }) :
  wpAny (model PySem.Challenge.rw_kl0506_01.row.prog w) (kA dp un gd fr) (call (.ref 286) [.ref l]) Q E s := by
  refine wpAny_call ?_
  k_dflt (refine' enterC H XB TB ?k6 ?k7 ?k8 ?k9 ?kB ?kD ?_ ?c2 ?c3 ?c4; (case k6 => k_is); (case k7 => k_is); (case k8 => ktr_room); (case k9 => first | exact BindsTo.of_eq rfl | exact binds_K (XB.keeps H.stays) rfl (by k_is) rfl rfl rfl); (case kB => exact rfl); (case kD => decide +kernel); (case c2 => exact rfl); (case c3 => exact rfl); (case c4 => exact rfl); k_whole; intro L' h' tk' cells' F' N' Y' B' X' T' D'; k_cells Y'; (try dsimp only); (try k_fold))
  k_steps
  refine stop_in ?_
  k_dflt (refine' Mine.fsum_led ?hh ?F ?N ?l ?i ?b ?n ?_; (case hh => rfl); (case F => k_asm); (case N => k_asm); (case l => is_list); (case i => assumption); (case b => assumption); (case n => assumption); k_whole)
  intro h' tk' x' t' hv' F' N'
  k_steps
  rename Fr _ _ _ _ => Fx
  rename HV _ _ => hv
  exact ret _ _ _ _ _ (fun b o e _ => Fx.keep b o e) hv rfl
end
end SFMean
section SOwnIt
open PySem PySem.W PyProof.Rows PySem.Calls PySem.Spec
section
variable {M : Model} {A : Around} {E : Value → Shared → Prop} {s : Shared} {K : Frag} {x C f : Addr} {ox : Obj} {od : Option Obj}
/-- one step of an iterator of the text's own -/
theorem own_next {Q : Option Value → Shared → Prop} (X : K.In s.heap) (I : InstAt s.heap x ox C od) (hs : findIn K (.ref C) "__next__" = some (some (.ref f))) (hf : isFn K (.ref f) = true)
    (h : wpAny M A (call (.ref f) [.ref x]) (fun v s' => Q (some v) s') (OwitStop M A Q E) s) : wpAny M A (pyNext (.ref x)) Q E s := by
  unfold pyNext
  refine wpAny_bind (wpAny_attempt (special_fn (name := "__next__") (args := []) X I hs (beq_iff_eq.mp hf) (wpAny_mono h (fun v s' hq => ?_) (fun e s' he => ?_))))
  · exact wpAny_pure hq
  · refine wpAny_bind (wpAny_mono he (fun b s₂ hb => ?_) fun _ _ z => z)
    cases b with
    | true => exact wpAny_pure hb
    | false => exact wpAny_throw hb
/-- iter() of an object that hands itself out -/
theorem own_iter {Q : Value → Shared → Prop} {g : Value} (X : K.In s.heap) (I : InstAt s.heap x ox C od) (hs : findIn K (.ref C) "__iter__" = some (some (.ref f))) (hf : isFn K (.ref f) = true)
    (hn : findIn K (.ref C) "__next__" = some (some g))
    (h : wpAny M A (call (.ref f) [.ref x]) (fun v s' => v = .ref x ∧ K.In s'.heap ∧ InstAt s'.heap x ox C od ∧ Q (.ref x) s') E s) : wpAny M A (pyIter (.ref x)) Q E s := by
  have fin : wpAny M A (call (.ref f) [.ref x] >>= fun v => pure (some v)) (fun r s' => r = some (.ref x) ∧ K.In s'.heap ∧ InstAt s'.heap x ox C od ∧ Q (.ref x) s') E s :=
    wpAny_bind (wpAny_mono h (fun v s' h' => wpAny_pure ⟨by rw [h'.1], h'.2⟩) fun _ _ z => z)
  have one : ∀ refuse : Sem Value, wpAny M A (callSpecialIfBoundUnlessNone? (.ref x) "__iter__" refuse) (fun r s' => r = some (.ref x) ∧ K.In s'.heap ∧ InstAt s'.heap x ox C od ∧ Q (.ref x) s') E s := by
    intro refuse
    simp only [callSpecialIfBoundUnlessNone?, bindSpecialIfBound?]
    refine wpAny_holding (wpAny_bind (wpAny_bind (wpAny_bind (I.type.here ((looks_findIn X hs).here ?_)))))
    refine wpAny_bind (wpAny_askSetting (wpAny_ite ?_))
    have fin2 : wpAny M A (if (Value.ref f == Value.none) = true then (refuse >>= fun v => pure (some v)) else (call (.ref f) [.ref x] >>= fun v => pure (some v))) (fun r s' => r = some (.ref x) ∧ K.In s'.heap ∧ InstAt s'.heap x ox C od ∧ Q (.ref x) s') E s := by
      rw [if_neg (show ¬ ((Value.ref f == Value.none) = true) from Bool.false_ne_true)]
      exact fin
    split
    · exact wpAny_bind ((bind_fn X _ (beq_iff_eq.mp hf)).here (wpAny_pure (by exact fin2)))
    · exact wpAny_tryCatch (wpAny_bind ((bind_fn X _ (beq_iff_eq.mp hf)).here (wpAny_pure (by exact fin2))))
  unfold pyIter
  refine wpAny_bind (wpAny_bind (I.type.here ((looks_findIn X hs).here ?_)))
  show wpAny M A (callSpecialIfBoundUnlessNone? (.ref x) "__iter__" _ >>= _) Q E s
  refine wpAny_bind (wpAny_mono (one _) (fun r s' hr => ?_) fun _ _ z => z)
  obtain ⟨rfl, X', I', hq⟩ := hr
  exact wpAny_bind (wpAny_bind (I'.type.here ((looks_findIn X' hn).here (wpAny_pure hq))))
end
section
variable {prog : Program} {w : World} {A : Around} {E : Value → Shared → Prop} {s : Shared}
/-- what iter(c) does, told once for zip -/
noncomputable def ItsSelf (prog : Program) (w : World) (A : Around) (c : Addr) (s : Shared) : Prop :=
  ∀ (Q : Value → Shared → Prop) (E : Value → Shared → Prop), (∀ h' tk', Keeps [] s.heap h' → Q (.ref c) { s with heap := h', toks := tk' }) → wpAny (model prog w) A (pyIter (.ref c)) Q E s
noncomputable abbrev zTI (h₁ : Heap) (i c : Addr) : Heap := h₁.push { cls := .type "tuple", data := .seq #[.ref i, .ref c] }
noncomputable abbrev zTO (h₁ : Heap) (i c : Addr) : Heap := (zTI h₁ i c).push { cls := .type "tuple", data := .seq #[.none, .none] }
noncomputable abbrev zZ (h₁ : Heap) (i c : Addr) : Heap := (zTO h₁ i c).push { cls := .type "zip", data := .fields #[.none, .bool false, .bool false, .ref h₁.objs.size, .ref (zTI h₁ i c).objs.size] }

set_option maxHeartbeats 4000000 in
theorem zip_new_own (l c : Addr) (xs : Array Value) :
    MeetsIn prog w (Builtin.«zip.__new__» ⟨[.type "zip", .ref l, .ref c], []⟩) (fun A R s => s.heap.IsList l xs ∧ ItsSelf prog w A.in1 c { s with heap := s.heap.push (liObj l 0) } ∧
      ∀ h₁ tk, Keeps [] (s.heap.push (liObj l 0)) h₁ → R (.ok (.ret (.ref (zTO h₁ s.heap.objs.size c).objs.size))) { s with heap := zZ h₁ s.heap.objs.size c, toks := tk }) :=
  .of_wp fun A R s h => by
    obtain ⟨hp, g, d, tk, os⟩ := s
    obtain ⟨hl, hc, hR⟩ := h
    have hsub := sub_zip
    have hL : Heap.IsList (Shared.heap ⟨hp, g, d, tk, os⟩) l xs := hl
    have hc' : ∀ (Q : Value → Shared → Prop) (E : Value → Shared → Prop), (∀ h' tk', Keeps [] (hp.push { cls := .type "list_iterator", data := .fields #[.ref l, .int 0 0] }) h' → Q (.ref c) ⟨h', g, d, tk', os⟩) →
      wpAny (model prog w) A.in1 (pyIter (.ref c)) Q E ⟨hp.push { cls := .type "list_iterator", data := .fields #[.ref l, .int 0 0] }, g, d, tk, os⟩ := hc
    wp_walk using wpAny_pyIter_list hL, hc'
    intro h₁ tk₁ k
    wp_walk
    exact ⟨_, rfl, hR h₁ tk₁ k⟩

theorem zip_own {l c : Addr} {xs : Array Value} {Q : Value → Shared → Prop} (hl : s.heap.IsList l xs) (hc : ItsSelf prog w A.in1.in1 c { s with heap := s.heap.push (liObj l 0) })
    (h : ∀ z TI TO h' tk', Keeps [] s.heap h' → s.heap.objs.size < TI → TI < TO → TO < z → IsZip h' z TI TO .none → IsPair h' TI (.ref s.heap.objs.size) (.ref c) → IsPair h' TO .none .none → h'.get? s.heap.objs.size = some (liObj l 0) → Q (.ref z) { s with heap := h', toks := tk' }) :
    wpAny (model prog w) A (call (.type "zip") [.ref l, .ref c]) Q E s := by
  refine callType_newIn F.called_zip (by decide) (F.typeCall_zip_2 _ _) (F.newCall_zip_2 _ _) (fun obj => F.args_object_init_3 obj _ _) F.entry_zip_new (zip_new_own l c xs) ⟨hl, hc, fun h₁ tk k => ?_⟩
  have hI : h₁.get? s.heap.objs.size = some (liObj l 0) := k _ _ (Heap.get?_push_size _ rfl) (by simp)
  have hlt := Heap.lt_size hI
  have z1 : (zTI h₁ s.heap.objs.size c).objs.size = h₁.objs.size + 1 := Heap.size_push ..
  have z2 : (zTO h₁ s.heap.objs.size c).objs.size = h₁.objs.size + 2 := by rw [Heap.size_push, z1]
  have g3 : (zZ h₁ s.heap.objs.size c).get? (zTO h₁ s.heap.objs.size c).objs.size = some _ := Heap.get?_push_size _ rfl
  have g2 : (zZ h₁ s.heap.objs.size c).get? (zTI h₁ s.heap.objs.size c).objs.size = some _ := Heap.get?_push_of_some _ (Heap.get?_push_size _ rfl)
  have g1 : (zZ h₁ s.heap.objs.size c).get? h₁.objs.size = some _ := Heap.get?_push_of_some _ (Heap.get?_push_of_some _ (Heap.get?_push_size _ rfl))
  exact ⟨⟨_, g3, rfl⟩, h _ _ _ _ _ (fun b o e n => Heap.get?_push_of_some _ (Heap.get?_push_of_some _ (Heap.get?_push_of_some _ (k _ _ (Heap.get?_push_of_some _ e) n)))) hlt (by rw [z1]; exact Nat.lt_succ_self _) (by rw [z1, z2]; exact Nat.lt_succ_self _) g3
    g1 g2 (Heap.get?_push_of_some _ (Heap.get?_push_of_some _ (Heap.get?_push_of_some _ hI)))⟩
end
end SOwnIt
section SZipC
open PySem PySem.W PyProof.Rows PySem.Calls PySem.Spec
theorem ni1 {a b : Addr} (h : @Ne Nat a b) : a ∉ [b] := fun m => h (List.mem_singleton.mp m)
theorem ni4 {a b c d e : Addr} (h1 : @Ne Nat a b) (h2 : @Ne Nat a c) (h3 : @Ne Nat a d) (h4 : @Ne Nat a e) : a ∉ [b, c, d, e] := fun m => by
  simp only [List.mem_cons, List.not_mem_nil, or_false] at m
  exact m.elim h1 fun m => m.elim h2 fun m => m.elim h3 h4
theorem wpAny_loadIfAlive_some {M : Model} {A : Around} {E : Value → Shared → Prop} {s : Shared} {a : Addr} {o : Obj} {Q : Option Obj → Shared → Prop} (ho : s.heap.get? a = some o) (h : Q (some o) s) : wpAny M A (loadIfAlive a) Q E s := fun Γ p _ => by
  show PySem.Sem.wp M Γ (.loadIfAlive a .pure) _ _ p s
  rw [PySem.Sem.wp_loadIfAlive, ho]
  exact h
theorem fresh_of {W : List Addr} {h h' : Heap} (k : Keeps W h h') (hW : ∀ b ∈ W, b < h'.objs.size) : h.get? h'.objs.size = none := by
  cases q : h.get? h'.objs.size with
  | none => rfl
  | some o =>
    have := k _ _ q fun m => Nat.lt_irrefl _ (hW _ m)
    rw [Heap.get?_none_of_le (Nat.le_refl _)] at this
    cases this
theorem notFree {prog : Program} {w : World} {A : Around} {E : Value → Shared → Prop} {s : Shared} {z TI TO T1 : Addr} {b1 : Bool} {o1 : Obj}
    (hz : s.heap.get? z = some { cls := .type "zip", dict := none, data := .fields #[rawInt T1, .bool b1, .bool false, .ref TI, .ref TO], slots := #[] }) (hT : s.heap.get? T1 = some o1) :
    wpAny (model prog w) A (Builtin.SmallTypes.ownedTupleIsFree (.ref z)) (fun r s' => r = false ∧ ∃ h₁, s' = { s with heap := h₁ } ∧ Heap.SameBut z s.heap h₁ ∧
      h₁.get? z = some { cls := .type "zip", dict := none, data := .fields #[rawInt T1, .bool true, .bool false, .ref TI, .ref TO], slots := #[] }) E s := by
  unfold Builtin.SmallTypes.ownedTupleIsFree
  refine wpAny_bind (wpAny_field hz rfl (x := rawInt T1) rfl ?_)
  show wpAny _ _ (loadIfAlive (Int.toNat (T1 : Int)) >>= _) _ _ _
  rw [Int.toNat_natCast]
  refine wpAny_bind (wpAny_loadIfAlive_some hT ?_)
  simp only [Option.isNone_some, Bool.false_eq_true, if_false]
  refine wpAny_bind (wpAny_field hz rfl (x := .bool b1) rfl ?_)
  cases b1 with
  | true =>
    rw [if_neg (by decide)]
    exact wpAny_pure ⟨rfl, s.heap, rfl, ⟨rfl, fun _ _ => rfl⟩, hz⟩
  | false =>
    rw [if_pos (by decide)]
    exact wpAny_bind (wpAny_setField_rec hz (by simp) fun h₁ hz₁ hs₁ => wpAny_pure ⟨rfl, h₁, rfl, hs₁, hz₁⟩)
theorem nextOf_li {prog : Program} {w : World} {A : Around} {E : Value → Shared → Prop} {s : Shared} {it l : Addr} {i : Nat} {items : Array Value} {x : Value} {Q : Value → Shared → Prop} (hit : s.heap.get? it = some (liObj l i))
    (hl : s.heap.IsList l items) (hx : items[i]? = some x) (hQ : ∀ h', h'.get? it = some (liObj l (i + 1)) → Heap.SameBut it s.heap h' → Q x { s with heap := h' }) :
    wpAny (model prog w) A (Builtin.SmallTypes.nextOf (.ref it)) Q E s := by
  have hT : s.heap.IsListIter it l i := ⟨_, hit, rfl, rfl⟩
  obtain ⟨ol, hol, _, nl, hdl⟩ := hl
  unfold Builtin.SmallTypes.nextOf
  refine wpAny_bind (wpAny_callSpecial?_slot (name := Str.ofString "__next__") hT.typeIs slot_listiter_next
    (wpAny_call_entry slot_listiter_next hT.typeIs entry_listiter_next ?_ (args_listiter_next _)))
  show wpAny _ _ (field (.ref it) 0 >>= _) _ _ s
  refine wpAny_bind (wpAny_field hit rfl (x := .ref l) rfl ?_)
  show wpAny _ _ (if (Value.ref l == Value.none) = true then _ else _) _ _ s
  rw [if_neg (show ¬ ((Value.ref l == Value.none) = true) from Bool.false_ne_true)]
  show wpAny _ _ (field (.ref it) 1 >>= _) _ _ s
  refine wpAny_bind (wpAny_field hit rfl (x := .int i 0) rfl ?_)
  show wpAny _ _ (seqItems? (.ref l) >>= _) _ _ s
  refine wpAny_bind (wpAny_seqItems hol hdl ?_)
  simp only [Int.toNat_natCast, hx]
  refine wpAny_bind (wpAny_setField hit rfl (by simp) (wpAny_pure ⟨x, rfl, wpAny_pure (hQ _ ?_ (Heap.SameBut.update ..))⟩))
  rw [Heap.get?_update_self _ hit rfl]
  simp [Obj.mapFields, liObj, rawInt]
theorem keeps_same {a : Addr} {W : List Addr} {h h' : Heap} (x : Heap.SameBut a h h') (ha : a ∈ W) : Keeps W h h' := fun b o e n => (x.2 b fun q => n (q ▸ ha)).trans e

/-- the zip of a list and a counter, k steps on -/
structure ZAt (h : Heap) (z TI TO i1 c d l : Addr) (f0 f1 : Value) (k : Nat) (xs : Array Value) (f : Bool) (ts : Tok) : Prop where
  hz : h.get? z = some { cls := .type "zip", dict := none, data := .fields #[f0, f1, .bool false, .ref TI, .ref TO], slots := #[] }
  hTI : IsPair h TI (.ref i1) (.ref c)
  hTO : ∃ a b, IsPair h TO a b
  hi : h.get? i1 = some (liObj l k)
  hc : ∃ tv, h.get? c = some (cntObj d (k : Int) tv f ts)
  hd : h.get? d = some (dictOf [] 0)
  hl : h.IsList l xs
structure ZApart (z TI TO i1 c d l : Addr) : Prop where
  TIz : TI ≠ z
  TITO : TI ≠ TO
  TIi : TI ≠ i1
  TIc : TI ≠ c
  dz : d ≠ z
  dTO : d ≠ TO
  di : d ≠ i1
  dc : d ≠ c
  lz : l ≠ z
  lTO : l ≠ TO
  li : l ≠ i1
  lc : l ≠ c
  zTO : z ≠ TO
  zi : z ≠ i1
  zc : z ≠ c
  TOi : TO ≠ i1
  TOc : TO ≠ c
  ic : i1 ≠ c

section
variable (w : World) {p : Program} {loose : List Str} {mean : ExcName → Option Value} {mg mb : Str → Option Value}
  (dp un : Nat) (gd : Option (List Code)) (fr : List Env) (base : Heap)
set_option maxRecDepth 100000 in
set_option maxHeartbeats 4000000 in
theorem nextOf_count (s : Shared) (Q E : Value → Shared → Prop)
  (H : Amid base fr s.heap) (XB : (Mine.hd.heap_39 w.params).In base) (TB : Top p loose mean mg mb base) (hd : dp + 2 < recursionLimit) (hu : un + 20 < cLine)
  {c d : Addr} {v : Int} {tv ts : Tok} {f : Bool} (hW : Loose base fr s.heap [(c, cntObj d v tv f ts), (d, dictOf [] 0)]) (hcd : d ≠ c)
  (ret : ∀ h' tk' tv', Keeps [c] s.heap h' → h'.get? c = some (cntObj d (v + 1) tv' f ts) → Q (.int v tv) { s with heap := h', toks := tk' }) :
  wpAny (model PySem.Challenge.rw_kl0506_01.row.prog w) (kA dp un gd fr) (Builtin.SmallTypes.nextOf (.ref c)) Q E s := by
  have X : (Mine.hd.heap_39 w.params).In s.heap := XB.keeps H.stays
  have I : InstAt s.heap c (cntObj d v tv f ts) 222 (some (dictOf [] 0)) := ⟨(hW _ (.head _)).1, rfl, rfl, (hW _ (.tail _ (.head _))).1⟩
  unfold Builtin.SmallTypes.nextOf
  refine wpAny_bind (special_fn (f := 211) (args := []) X I (by k_is) (by k_is) ?_)
  exact count_next_c w dp un gd fr base s _ E H XB TB hd hu hW hcd fun h' tk' tv' k e => wpAny_pure (ret h' tk' tv' k e)

theorem updateSeq_pair {prog : Program} {A : Around} {E : Value → Shared → Prop} {s : Shared} {T : Addr} {a b x : Value} {k : Nat} {Q : Unit → Shared → Prop} (hT : IsPair s.heap T a b) (hk : k = 0 ∨ k = 1)
    (h : ∀ h', IsPair h' T (if k = 0 then x else a) (if k = 0 then b else x) → Heap.SameBut T s.heap h' → Q () { s with heap := h' }) :
    wpAny (model prog w) A (updateSeq T (·.setIfInBounds k x)) Q E s :=
  wpAny_updateSeq_pair hT fun h' e hs => h h' (by rcases hk with rfl | rfl <;> exact e) hs

theorem li_is {h : Heap} {it l : Addr} {k : Nat} (e : h.get? it = some (liObj l k)) : h.IsListIter it l k := ⟨_, e, rfl, rfl⟩

set_option maxRecDepth 100000 in
set_option maxHeartbeats 4000000 in
/-- the first pull of the zip -/
theorem zip_first (s : Shared) (Q : Value → Shared → Prop) (E : Value → Shared → Prop)
  (H : Amid base fr s.heap) (XB : (Mine.hd.heap_39 w.params).In base) (TB : Top p loose mean mg mb base) (hd : dp + 2 < recursionLimit) (hu : un + 20 < cLine)
  {z TI TO i1 c d l : Addr} {xs : Array Value} {f : Bool} {ts : Tok} {x : Value} (D : ZApart z TI TO i1 c d l)
  (Z : ZAt s.heap z TI TO i1 c d l .none (.bool false) 0 xs f ts) (hx : xs[0]? = some x)
  (hW : ∀ b ∈ [z, TO, i1, c, d], base.get? b = none ∧ b ∉ fr.filterMap (·.frame))
  (ret : ∀ T h' tk' tv, Keeps [z, TO, i1, c] s.heap h' → s.heap.get? T = none → IsPair h' T x (.int 0 tv) → ZAt h' z TI TO i1 c d l (rawInt T) (.bool false) 1 xs f ts → Q (.ref T) { s with heap := h', toks := tk' }) :
  wpAny (model PySem.Challenge.rw_kl0506_01.row.prog w) (kA dp un gd fr) (Builtin.«zip.__next__» ⟨[.ref z], []⟩) (fun fin s' => ∃ v, fin = .done (.ret v) ∧ Q v s') E s := by
  obtain ⟨hz, hTI, ⟨a, b, hTO⟩, hi, ⟨tv, hc⟩, hdd, hl⟩ := Z
  show wpAny _ _ (field (.ref z) 2 >>= _) _ _ _
  refine wpAny_bind (wpAny_field hz rfl (x := .bool false) rfl ?_)
  show wpAny _ _ (field (.ref z) 3 >>= _) _ _ _
  refine wpAny_bind (wpAny_field hz rfl (x := .ref TI) rfl ?_)
  refine wpAny_bind (wpAny_seqItems hTI rfl ?_)
  show wpAny _ _ (Builtin.SmallTypes.ownedTupleIsFree (.ref z) >>= _) _ _ _
  refine wpAny_bind ?_
  unfold Builtin.SmallTypes.ownedTupleIsFree
  refine wpAny_bind (wpAny_field hz rfl (x := .none) rfl (wpAny_pure ?_))
  simp only [if_true]
  refine wpAny_bind (wpAny_rule ?_)
  refine wpAny_bind (wpAny_field hz rfl (x := .ref TO) rfl ?_)
  refine wpAny_bind (wpAny_setField_rec hz (by simp) fun h₁ hz₁ hs₁ => ?_)
  replace hz₁ : IsZip h₁ z TI TO .ellipsis := hz₁
  refine wpAny_bind ?_
  simp only [List.zipIdx_cons, List.zipIdx_nil, List.forIn_cons, List.forIn_nil]
  refine wpAny_bind (wpAny_bind (wpAny_onRaise ?_))
  show wpAny _ _ (Builtin.SmallTypes.nextOf (.ref i1) >>= _) _ _ _
  have hi₁ : h₁.get? i1 = some (liObj l 0) := (hs₁.2 _ D.zi.symm).trans hi
  refine wpAny_bind (nextOf_li hi₁ (hl.extBut hs₁.extBut D.lz) hx fun h₂ hi₂ hs₂ => wpAny_pure ?_)
  have hTO₂ : IsPair h₂ TO a b := (hs₂.2 _ D.TOi).trans ((hs₁.2 _ D.zTO.symm).trans hTO)
  refine wpAny_bind (wpAny_seqItems hTO₂ rfl ?_)
  refine wpAny_bind (wpAny_updateSeq_pair hTO₂ fun h₃ hTO₃ hs₃ => ?_)
  replace hTO₃ : IsPair h₃ TO x b := hTO₃
  refine wpAny_bind (wpAny_letGo (wpAny_pure ?_))
  refine wpAny_bind (wpAny_bind (wpAny_onRaise ?_))
  show wpAny _ _ (Builtin.SmallTypes.nextOf (.ref c) >>= _) _ _ _
  have k₃ : Keeps [z, TO, i1, c] s.heap h₃ := ((keeps_same hs₁ (by simp)).trans (keeps_same hs₂ (by simp))).trans (keeps_same hs₃ (by simp))
  have hW4 : ∀ b ∈ [z, TO, i1, c], base.get? b = none ∧ b ∉ fr.filterMap (·.frame) := fun b hb => hW b (List.mem_append_left [d] hb)
  have hc₃ : h₃.get? c = some (cntObj d (0 : Int) tv f ts) := (hs₃.2 _ D.TOc.symm).trans ((hs₂.2 _ D.ic.symm).trans ((hs₁.2 _ D.zc.symm).trans hc))
  have hd₃ : h₃.get? d = some (dictOf [] 0) := k₃ _ _ hdd (ni4 D.dz D.dTO D.di D.dc)
  refine wpAny_bind (nextOf_count w dp un gd fr base _ _ _ (H.keeps k₃ hW4) XB TB hd hu (c := c) (d := d) (v := 0) (tv := tv) (f := f) (ts := ts) (fun q hq => ?_) D.dc fun h₄ tk₄ tv₄ k₄ hc₄ => wpAny_pure ?_)
  · rcases List.mem_cons.mp hq with rfl | hq
    · exact ⟨hc₃, hW c (by simp)⟩
    · rw [List.mem_singleton.mp hq]; exact ⟨hd₃, hW d (by simp)⟩
  have hTO₄ : IsPair h₄ TO x b := k₄ _ _ hTO₃ (ni1 D.TOc)
  refine wpAny_bind (wpAny_seqItems hTO₄ rfl ?_)
  refine wpAny_bind (wpAny_updateSeq_pair hTO₄ fun h₅ hTO₅ hs₅ => ?_)
  replace hTO₅ : IsPair h₅ TO x (.int 0 tv) := hTO₅
  refine wpAny_bind (wpAny_letGo (wpAny_pure (wpAny_pure ?_)))
  refine wpAny_bind (wpAny_seqItems hTO₅ rfl ?_)
  refine wpAny_bind (wpAny_newTuple ?_)
  have k₅ : Keeps [z, TO, i1, c] s.heap h₅ := (k₃.trans (k₄.mono (by simp))).trans (keeps_same hs₅ (by simp))
  have hz₅ : IsZip h₅ z TI TO .ellipsis := (hs₅.2 _ D.zTO).trans (k₄ _ _ ((hs₃.2 _ D.zTO).trans ((hs₂.2 _ D.zi).trans hz₁)) (ni1 D.zc))
  show wpAny _ _ (Builtin.SmallTypes.ownedTupleHandOut (.ref z) (.ref h₅.objs.size) >>= _) _ _ _
  refine wpAny_bind ?_
  unfold Builtin.SmallTypes.ownedTupleHandOut
  have hz₆ : IsZip (h₅.push { cls := .type "tuple", data := .seq #[x, .int 0 tv] }) z TI TO .ellipsis := Heap.get?_push_of_some _ hz₅
  refine wpAny_bind (wpAny_setField_rec hz₆ (by simp) fun h₇ hz₇ hs₇ => ?_)
  replace hz₇ : IsZip h₇ z TI TO (rawInt h₅.objs.size) := hz₇
  refine wpAny_setField_rec hz₇ (by simp) fun h₈ hz₈ hs₈ => ?_
  replace hz₈ : IsZip h₈ z TI TO (rawInt h₅.objs.size) := hz₈
  have up : ∀ q o, q ≠ z → h₅.get? q = some o → h₈.get? q = some o := fun q o c1 e => hs₈.extBut _ _ c1 (hs₇.extBut _ _ c1 (Heap.get?_push_of_some _ e))
  have hzlt := Heap.lt_size hz₅
  have hT₈ : IsPair h₈ h₅.objs.size x (.int 0 tv) := hs₈.extBut _ _ (Nat.ne_of_gt hzlt) (hs₇.extBut _ _ (Nat.ne_of_gt hzlt) (Heap.get?_push_size _ rfl))
  have k₈ : Keeps [z, TO, i1, c] s.heap h₈ := fun q o e n => up q o (fun m => n (m ▸ by simp)) (k₅ q o e n)
  refine wpAny_pure ⟨_, rfl, ?_⟩
  refine ret h₅.objs.size h₈ _ tv k₈ ?_ hT₈ ⟨hz₈, k₈ _ _ hTI (ni4 D.TIz D.TITO D.TIi D.TIc), ⟨_, _, up _ _ D.zTO.symm hTO₅⟩, ?_, ⟨tv₄, ?_⟩, k₈ _ _ hdd (ni4 D.dz D.dTO D.di D.dc), k₈.list hl (ni4 D.lz D.lTO D.li D.lc)⟩
  · refine fresh_of k₅ ?_
    repeat' (first | exact aN | refine aC ?_ ?_)
    · exact Heap.lt_size hz₅
    · exact Heap.lt_size hTO₅
    · exact Heap.lt_size ((hs₅.2 _ D.TOi.symm).trans (k₄ _ _ ((hs₃.2 _ D.TOi.symm).trans hi₂) (ni1 D.ic)))
    · exact Heap.lt_size ((hs₅.2 _ D.TOc.symm).trans hc₄)
  · exact up _ _ D.zi.symm ((hs₅.2 _ D.TOi.symm).trans (k₄ _ _ ((hs₃.2 _ D.TOi.symm).trans hi₂) (ni1 D.ic)))
  · exact up _ _ D.zc.symm ((hs₅.2 _ D.TOc.symm).trans hc₄)

set_option maxRecDepth 100000 in
set_option maxHeartbeats 4000000 in
/-- a later pull: the tuple that was handed out first lives on -/
theorem zip_later (s : Shared) (Q : Value → Shared → Prop) (E : Value → Shared → Prop)
  (H : Amid base fr s.heap) (XB : (Mine.hd.heap_39 w.params).In base) (TB : Top p loose mean mg mb base) (hd : dp + 2 < recursionLimit) (hu : un + 20 < cLine)
  {z TI TO i1 c d l T1 : Addr} {xs : Array Value} {f b1 : Bool} {ts : Tok} {x : Value} {k : Nat} {o1 : Obj} (D : ZApart z TI TO i1 c d l)
  (Z : ZAt s.heap z TI TO i1 c d l (rawInt T1) (.bool b1) k xs f ts) (hx : xs[k]? = some x) (hT1 : s.heap.get? T1 = some o1)
  (hW : ∀ b ∈ [z, TO, i1, c, d], base.get? b = none ∧ b ∉ fr.filterMap (·.frame))
  (ret : ∀ T h' tk' tv, Keeps [z, TO, i1, c] s.heap h' → s.heap.get? T = none → IsPair h' T x (.int k tv) → ZAt h' z TI TO i1 c d l (rawInt T1) (.bool true) (k + 1) xs f ts → Q (.ref T) { s with heap := h', toks := tk' }) :
  wpAny (model PySem.Challenge.rw_kl0506_01.row.prog w) (kA dp un gd fr) (Builtin.«zip.__next__» ⟨[.ref z], []⟩) (fun fin s' => ∃ v, fin = .done (.ret v) ∧ Q v s') E s := by
  obtain ⟨hz, hTI, ⟨a, b, hTO⟩, hi, ⟨tv, hc⟩, hdd, hl⟩ := Z
  show wpAny _ _ (field (.ref z) 2 >>= _) _ _ _
  refine wpAny_bind (wpAny_field hz rfl (x := .bool false) rfl ?_)
  show wpAny _ _ (field (.ref z) 3 >>= _) _ _ _
  refine wpAny_bind (wpAny_field hz rfl (x := .ref TI) rfl ?_)
  refine wpAny_bind (wpAny_seqItems hTI rfl ?_)
  show wpAny _ _ (Builtin.SmallTypes.ownedTupleIsFree (.ref z) >>= _) _ _ _
  refine wpAny_bind (wpAny_mono (notFree hz hT1) (fun r s' hr => ?_) fun _ _ e => e)
  obtain ⟨rfl, h₁, rfl, hs₁, hz₁⟩ := hr
  simp only [Bool.false_eq_true, if_false]
  rw [← Array.forIn_toList]
  simp only [List.forIn_cons, List.forIn_nil]
  refine wpAny_bind (wpAny_bind (wpAny_bind (wpAny_holding ?_)))
  show wpAny _ _ (Builtin.SmallTypes.nextOf (.ref i1) >>= _) _ _ _
  have hi₁ : h₁.get? i1 = some (liObj l k) := (hs₁.2 _ D.zi.symm).trans hi
  refine wpAny_bind (nextOf_li hi₁ (hl.extBut hs₁.extBut D.lz) hx fun h₂ hi₂ hs₂ => wpAny_pure ?_)
  refine wpAny_pure ?_
  refine wpAny_bind (wpAny_bind (wpAny_holding ?_))
  show wpAny _ _ (Builtin.SmallTypes.nextOf (.ref c) >>= _) _ _ _
  have k₃ : Keeps [z, TO, i1, c] s.heap h₂ := (keeps_same hs₁ (by simp)).trans (keeps_same hs₂ (by simp))
  have hW4 : ∀ b ∈ [z, TO, i1, c], base.get? b = none ∧ b ∉ fr.filterMap (·.frame) := fun b hb => hW b (List.mem_append_left [d] hb)
  have hc₃ : h₂.get? c = some (cntObj d (k : Int) tv f ts) := (hs₂.2 _ D.ic.symm).trans ((hs₁.2 _ D.zc.symm).trans hc)
  have hd₃ : h₂.get? d = some (dictOf [] 0) := k₃ _ _ hdd (ni4 D.dz D.dTO D.di D.dc)
  refine wpAny_bind (nextOf_count w dp un gd fr base _ _ _ (H.keeps k₃ hW4) XB TB hd hu (c := c) (d := d) (v := k) (tv := tv) (f := f) (ts := ts) (fun q hq => ?_) D.dc fun h₄ tk₄ tv₄ k₄ hc₄ => wpAny_pure ?_)
  · rcases List.mem_cons.mp hq with rfl | hq
    · exact ⟨hc₃, hW c (by simp)⟩
    · rw [List.mem_singleton.mp hq]; exact ⟨hd₃, hW d (by simp)⟩
  refine wpAny_pure (wpAny_pure ?_)
  refine wpAny_bind (wpAny_newTuple ?_ (by show 2 ≤ sizeLine; rw [sizeLine_eq]; walk_at "lo"))
  have k₅ : Keeps [z, TO, i1, c] s.heap h₄ := k₃.trans (k₄.mono (by simp))
  have hz₄ := k₄ _ _ ((hs₂.2 _ D.zi).trans hz₁) (ni1 D.zc)
  have hi₄ := k₄ _ _ hi₂ (ni1 D.ic)
  have hTO₄ := k₄ _ _ ((hs₂.2 _ D.TOi).trans ((hs₁.2 _ D.zTO.symm).trans hTO)) (ni1 D.TOc)
  have up : ∀ q o, h₄.get? q = some o → (h₄.push { cls := .type "tuple", data := .seq #[x, .int k tv] }).get? q = some o := fun q o e => Heap.get?_push_of_some _ e
  have k₈ : Keeps [z, TO, i1, c] s.heap (h₄.push { cls := .type "tuple", data := .seq #[x, .int k tv] }) := fun q o e n => up q o (k₅ q o e n)
  refine wpAny_pure ⟨_, rfl, ?_⟩
  refine ret h₄.objs.size _ _ tv k₈ ?_ (Heap.get?_push_size _ rfl) ⟨up _ _ hz₄, k₈ _ _ hTI (ni4 D.TIz D.TITO D.TIi D.TIc), ⟨_, _, up _ _ hTO₄⟩, up _ _ hi₄, ⟨tv₄, up _ _ hc₄⟩, k₈ _ _ hdd (ni4 D.dz D.dTO D.di D.dc), k₈.list hl (ni4 D.lz D.lTO D.li D.lc)⟩
  refine fresh_of k₅ ?_
  repeat' (first | exact aN | refine aC ?_ ?_)
  · exact Heap.lt_size hz₄
  · exact Heap.lt_size hTO₄
  · exact Heap.lt_size hi₄
  · exact Heap.lt_size hc₄

/-- the end: the list has no more -/
theorem zip_over (s : Shared) (Q : PySem.Fin → Shared → Prop) (E : Value → Shared → Prop)
  {z TI TO i1 c d l T1 : Addr} {xs : Array Value} {f b1 : Bool} {ts : Tok} {k : Nat} {o1 : Obj} (D : ZApart z TI TO i1 c d l)
  (Z : ZAt s.heap z TI TO i1 c d l (rawInt T1) (.bool b1) k xs f ts) (hx : xs[k]? = none) (hT1 : s.heap.get? T1 = some o1)
  (hE : ∀ h' e, Keeps [z, TO, i1, c] s.heap h' → (∃ o, h'.get? e = some o ∧ o.cls = .type "StopIteration") → E (.ref e) { s with heap := h' }) :
  wpAny (model PySem.Challenge.rw_kl0506_01.row.prog w) (kA dp un gd fr) (Builtin.«zip.__next__» ⟨[.ref z], []⟩) Q E s := by
  obtain ⟨hz, hTI, ⟨a, b, hTO⟩, hi, ⟨tv, hc⟩, hdd, hl⟩ := Z
  show wpAny _ _ (field (.ref z) 2 >>= _) _ _ _
  refine wpAny_bind (wpAny_field hz rfl (x := .bool false) rfl ?_)
  show wpAny _ _ (field (.ref z) 3 >>= _) _ _ _
  refine wpAny_bind (wpAny_field hz rfl (x := .ref TI) rfl ?_)
  refine wpAny_bind (wpAny_seqItems hTI rfl ?_)
  show wpAny _ _ (Builtin.SmallTypes.ownedTupleIsFree (.ref z) >>= _) _ _ _
  refine wpAny_bind (wpAny_mono (notFree hz hT1) (fun r s' hr => ?_) fun _ _ e => e)
  obtain ⟨rfl, h₁, rfl, hs₁, hz₁⟩ := hr
  simp only [Bool.false_eq_true, if_false]
  rw [← Array.forIn_toList]
  simp only [List.forIn_cons, List.forIn_nil]
  refine wpAny_bind (wpAny_bind (wpAny_bind (wpAny_holding ?_)))
  show wpAny _ _ (Builtin.SmallTypes.nextOf (.ref i1) >>= _) _ _ _
  have hi₁ : h₁.get? i1 = some (liObj l k) := (hs₁.2 _ D.zi.symm).trans hi
  refine wpAny_bind (wpAny_nextOf_list_end rfl (li_is hi₁) (hl.extBut hs₁.extBut D.lz) hx fun h₂ e hs₂ he => ?_)
  exact hE h₂ e ((keeps_same hs₁ (by simp)).trans fun q o eq n => hs₂ q o (fun m => n (m ▸ by simp)) eq) he
end
end SZipC
section SSZip
open PySem PySem.W PyProof.Rows PySem.Calls PySem.Spec
set_option maxRecDepth 100000
theorem zip_nolen : typeLookup (.type "zip") "__len__" = pure none := by rw [typeLookup_type, builtinLookup_eq_fast]; kernel_rfl
theorem zip_nohint : typeLookup (.type "zip") "__length_hint__" = pure none := by rw [typeLookup_type, builtinLookup_eq_fast]; kernel_rfl

/-- between two pulls -/
inductive ZSt (s : Shared) (vs : List Value) (z TI TO i1 c d l : Addr) (f : Bool) (ts : Tok) (acc : List Value) (s₁ : Shared) : Prop
  | mk (h : Heap) (tk : Nat) (e : s₁ = { s with heap := h, toks := tk }) (k : Keeps [z, TO, i1, c] s.heap h) (as : List Addr) (ha : acc = as.map .ref) (n1 : as.Nodup) (n2 : ∀ t ∈ as, s.heap.get? t = none ∧ t ≠ s.heap.objs.size)
    (n3 : ∀ i t, as[i]? = some t → ∃ tj, IsPair h t (vs.getD i Value.none) (.int i tj)) (f0 f1 : Value) (Z : ZAt h z TI TO i1 c d l f0 f1 acc.length vs.toArray f ts)
    (hf : (as = [] ∧ f0 = .none ∧ f1 = .bool false) ∨ ∃ t1 r b, as = t1 :: r ∧ f0 = rawInt t1 ∧ f1 = .bool b) : ZSt s vs z TI TO i1 c d l f ts acc s₁
inductive ZFin (s : Shared) (vs : List Value) (z TO i1 c : Addr) (acc : List Value) (s₁ : Shared) : Prop
  | mk (h : Heap) (tk : Nat) (e : s₁ = { s with heap := h, toks := tk }) (k : Keeps [z, TO, i1, c] s.heap h) (as : List Addr) (ha : acc = as.map .ref) (n1 : as.Nodup) (n2 : ∀ t ∈ as, s.heap.get? t = none ∧ t ≠ s.heap.objs.size)
    (n3 : ∀ i t, as[i]? = some t → ∃ tj, IsPair h t (vs.getD i Value.none) (.int i tj)) : ZFin s vs z TO i1 c acc s₁

theorem ZAt.same {h h' : Heap} {z TI TO i1 c d l S : Addr} {f0 f1 : Value} {k : Nat} {xs : Array Value} {f : Bool} {ts : Tok} (Z : ZAt h z TI TO i1 c d l f0 f1 k xs f ts) (x : Heap.SameBut S h h')
    (hS : ∀ b ∈ [z, TI, TO, i1, c, d, l], b ≠ S) : ZAt h' z TI TO i1 c d l f0 f1 k xs f ts := by
  have e : ∀ b ∈ [z, TI, TO, i1, c, d, l], h'.get? b = h.get? b := fun b hb => x.2 b (hS b hb)
  obtain ⟨a1, a2, ⟨a, b, a3⟩, a4, ⟨tv, a5⟩, a6, o, a7, a8⟩ := Z
  exact ⟨(e z (by k_mem)).trans a1, (e TI (by k_mem)).trans a2, ⟨a, b, (e TO (by k_mem)).trans a3⟩, (e i1 (by k_mem)).trans a4, ⟨tv, (e c (by k_mem)).trans a5⟩, (e d (by k_mem)).trans a6, o, (e l (by k_mem)).trans a7, a8⟩

section
variable (w : World) {p : Program} {loose : List Str} {mean : ExcName → Option Value} {mg mb : Str → Option Value}
  (dp un : Nat) (gd : Option (List Code)) (fr : List Env) (base : Heap)
set_option maxHeartbeats 4000000 in
theorem zip_pulls (s : Shared) (H : Amid base fr s.heap) (XB : (Mine.hd.heap_39 w.params).In base) (TB : Top p loose mean mg mb base) (hd : dp + 2 < recursionLimit) (hu : un + 30 < cLine)
  {z TI TO i1 c d l : Addr} {vs : List Value} {f : Bool} {ts : Tok} (hpos : vs.length ≠ 0) (D : ZApart z TI TO i1 c d l)
  (hE : ∀ b ∈ [z, TI, TO, i1, c, d, l], ∃ o, s.heap.get? b = some o)
  (hW : ∀ b ∈ [z, TO, i1, c, d], base.get? b = none ∧ b ∉ fr.filterMap (·.frame)) :
  Pulls PySem.Challenge.rw_kl0506_01.row.prog w (kA dp un gd fr) z s.heap.objs.size vs.length (.type "zip") (ZSt s vs z TI TO i1 c d l f ts) (ZFin s vs z TO i1 c) where
  notList := by decide
  notTup := by decide
  stable := by
    intro acc s₁ h' hz; obtain ⟨h, tk, rfl, k, as, rfl, n1, n2, n3, f0, f1, Z, hf⟩ := hz; rintro x
    have hne : ∀ b ∈ [z, TI, TO, i1, c, d, l], b ≠ s.heap.objs.size := fun b hb => by
      obtain ⟨o, e⟩ := hE b hb
      exact Nat.ne_of_lt (Heap.lt_size e)
    refine ⟨h', tk, rfl, fun q o e nq => (x.2 q (Nat.ne_of_lt (Heap.lt_size e))).trans (k q o e nq), as, rfl, n1, n2, fun i t ht => ?_, f0, f1, Z.same x hne, hf⟩
    obtain ⟨tj, e⟩ := n3 i t ht
    exact ⟨tj, (x.2 t (n2 t (List.mem_of_getElem? ht)).2).trans e⟩
  ty := by
    intro s₁ Q E hz; obtain ⟨h, tk, rfl, k, as, ha, n1, n2, n3, f0, f1, Z, hf⟩ := hz; rintro hq
    exact wpAny_typeOf ⟨_, Z.hz, rfl⟩ hq
  len := by
    intro s₁ Q E hz; obtain ⟨h, tk, rfl, k, as, ha, n1, n2, n3, f0, f1, Z, hf⟩ := hz; rintro hq
    exact wpAny_specialOf (s := { s with heap := h, toks := tk }) (T := "zip") ⟨_, Z.hz, rfl⟩ zip_nolen hq
  hint := by
    intro s₁ Q E hz; obtain ⟨h, tk, rfl, k, as, ha, n1, n2, n3, f0, f1, Z, hf⟩ := hz; rintro hq
    exact wpAny_specialOf (s := { s with heap := h, toks := tk }) (T := "zip") ⟨_, Z.hz, rfl⟩ zip_nohint hq
  self := by
    intro s₁ E hz; obtain ⟨h, tk, rfl, k, as, ha, n1, n2, n3, f0, f1, Z, hf⟩ := hz
    have has : as = [] := by simpa using ha.symm
    rcases hf with ⟨_, rfl, rfl⟩ | ⟨t1, r, b, e, _⟩
    · exact wpAny_pyIter_zip (s := { s with heap := h, toks := tk }) (TI := TI) (TO := TO) Z.hz ⟨rfl, ⟨h, tk, rfl, k, as, ha, n1, n2, n3, _, _, Z, .inl ⟨has, rfl, rfl⟩⟩, fun _ e => e⟩
    · rw [has] at e; cases e
  item := by
    intro acc s₁ E hlt hz; obtain ⟨h, tk, rfl, k, as, rfl, n1, n2, n3, f0, f1, Z, hf⟩ := hz; rintro ⟨oS, hoS⟩
    have hlen : (as.map Value.ref).length = as.length := List.length_map _
    have hlt' : as.length < vs.length := by rw [hlen] at hlt; exact hlt
    have hW4 : ∀ b ∈ [z, TO, i1, c], base.get? b = none ∧ b ∉ fr.filterMap (·.frame) := fun b hb => hW b (List.mem_append_left [d] hb)
    have hx : vs.toArray[as.length]? = some (vs.getD as.length Value.none) := by simp [List.getD, hlt']
    have hT : ({ s with heap := h, toks := tk } : Shared).TypeIs (.ref z) "zip" := ⟨_, Z.hz, rfl⟩
    have hE4 : ∀ b ∈ [z, TO, i1, c], ∃ o, s.heap.get? b = some o := aC (hE z (by k_mem)) (aC (hE TO (by k_mem)) (aC (hE i1 (by k_mem)) (aC (hE c (by k_mem)) aN)))
    have hSn : s.heap.objs.size ∉ [z, TO, i1, c] := fun m => by
      obtain ⟨o, e⟩ := hE4 _ m
      exact Nat.lt_irrefl _ (Heap.lt_size e)
    have fin : ∀ T h' tk' tv fa fb, Keeps [z, TO, i1, c] h h' → h.get? T = none → IsPair h' T (vs.getD as.length Value.none) (.int as.length tv) → ZAt h' z TI TO i1 c d l fa fb (as.length + 1) vs.toArray f ts →
        (∃ t1 r b, as ++ [T] = t1 :: r ∧ fa = rawInt t1 ∧ fb = .bool b) →
        ∃ v, some (Value.ref T) = some v ∧ ZSt s vs z TI TO i1 c d l f ts (as.map Value.ref ++ [v]) { s with heap := h', toks := tk' } ∧ ∀ o, h.get? s.heap.objs.size = some o → h'.get? s.heap.objs.size = some o := by
      intro T h' tk' tv fa fb k' hTn hp Z' hff
      refine ⟨_, rfl, ⟨h', tk', rfl, k.trans k', as ++ [T], by simp, ?_, ?_, ?_, fa, fb, by simpa using Z', .inr hff⟩, fun o e => k' _ _ e hSn⟩
      · refine List.nodup_append.mpr ⟨n1, by simp, fun a ha b hb => ?_⟩
        rw [List.mem_singleton.mp hb]
        rintro rfl
        obtain ⟨i, hi⟩ := List.getElem?_of_mem ha
        obtain ⟨tj, e⟩ := n3 i a hi
        have e' : h.get? a = some _ := e
        rw [hTn] at e'; cases e'
      · intro t ht
        rcases List.mem_append.mp ht with ht | ht
        · exact n2 t ht
        · rw [List.mem_singleton.mp ht]
          refine ⟨?_, fun q => ?_⟩
          · cases e : s.heap.get? T with
            | none => rfl
            | some o =>
              by_cases m : T ∈ [z, TO, i1, c]
              · simp only [List.mem_cons, List.not_mem_nil, or_false] at m
                obtain ⟨a1, a2, ⟨a, b, a3⟩, a4, ⟨tv, a5⟩, a6, a7⟩ := Z
                rcases m with rfl | rfl | rfl | rfl
                · rw [hTn] at a1; cases a1
                · have a3' : h.get? T = some _ := a3
                  rw [hTn] at a3'; cases a3'
                · rw [hTn] at a4; cases a4
                · rw [hTn] at a5; cases a5
              · have := k _ _ e m
                rw [hTn] at this; cases this
          · have hoS' : h.get? s.heap.objs.size = some oS := hoS
            rw [← q, hTn] at hoS'; cases hoS'
      · intro i t hi
        rcases Nat.lt_trichotomy i as.length with h1 | h1 | h1
        · rw [List.getElem?_append_left h1] at hi
          obtain ⟨tj, e⟩ := n3 i t hi
          refine ⟨tj, k' _ _ e fun m => ?_⟩
          obtain ⟨o, e2⟩ := hE4 t m
          rw [(n2 t (List.mem_of_getElem? hi)).1] at e2; cases e2
        · subst h1
          simp at hi
          subst hi
          exact ⟨tv, hp⟩
        · rw [List.getElem?_eq_none (by simp; walk_at "lo")] at hi; cases hi
    have H' : Amid base fr h := H.keeps k hW4
    unfold pyNext
    rcases hf with ⟨rfl, rfl, rfl⟩ | ⟨t1, r, b, has, rfl, rfl⟩
    · refine wpAny_bind (wpAny_attempt (wpAny_callSpecial?_slot (name := Str.ofString "__next__") hT F.slot_zip_next (wpAny_call_entry F.slot_zip_next hT F.entry_zip_next
        (zip_first w dp (un + 1) gd fr base { s with heap := h, toks := tk } _ _ H' XB TB hd (by walk_at "lo") D Z hx hW fun T h' tk' tv k' hT hp Z' => wpAny_pure ?_) (F.args_zip_next_1 _))))
      exact fin T h' tk' tv _ _ k' hT hp Z' ⟨T, [], false, rfl, rfl, rfl⟩
    · have ht1 : as[0]? = some t1 := by rw [has]; rfl
      obtain ⟨tj, e1⟩ := n3 0 t1 ht1
      have Z2 : ZAt h z TI TO i1 c d l (rawInt t1) (.bool b) as.length vs.toArray f ts := by rw [hlen] at Z; exact Z
      refine wpAny_bind (wpAny_attempt (wpAny_callSpecial?_slot (name := Str.ofString "__next__") hT F.slot_zip_next (wpAny_call_entry F.slot_zip_next hT F.entry_zip_next
        (zip_later w dp (un + 1) gd fr base { s with heap := h, toks := tk } _ _ H' XB TB hd (by walk_at "lo") D Z2 hx e1 hW fun T h' tk' tv k' hT hp Z' => wpAny_pure ?_) (F.args_zip_next_1 _))))
      exact fin T h' tk' tv _ _ k' hT hp Z' ⟨t1, r ++ [T], true, by rw [has]; rfl, rfl, rfl⟩
  done := by
    intro acc s₁ E hlt hz; obtain ⟨h, tk, rfl, k, as, rfl, n1, n2, n3, f0, f1, Z, hf⟩ := hz; rintro ⟨oS, hoS⟩
    have hlen : (as.map Value.ref).length = as.length := List.length_map _
    have hlt' : as.length = vs.length := by rw [hlen] at hlt; exact hlt
    have hE4 : ∀ b ∈ [z, TO, i1, c], ∃ o, s.heap.get? b = some o := aC (hE z (by k_mem)) (aC (hE TO (by k_mem)) (aC (hE i1 (by k_mem)) (aC (hE c (by k_mem)) aN)))
    have hSn : s.heap.objs.size ∉ [z, TO, i1, c] := fun m => by
      obtain ⟨o, e⟩ := hE4 _ m
      exact Nat.lt_irrefl _ (Heap.lt_size e)
    have hx : vs.toArray[as.length]? = none := by simp [hlt']
    have hT : ({ s with heap := h, toks := tk } : Shared).TypeIs (.ref z) "zip" := ⟨_, Z.hz, rfl⟩
    unfold pyNext
    rcases hf with ⟨rfl, rfl, rfl⟩ | ⟨t1, r, b, has, rfl, rfl⟩
    · exact absurd hlt' (by simp; intro q; exact hpos (by simp [← q]))
    · have ht1 : as[0]? = some t1 := by rw [has]; rfl
      obtain ⟨tj, e1⟩ := n3 0 t1 ht1
      have Z2 : ZAt h z TI TO i1 c d l (rawInt t1) (.bool b) as.length vs.toArray f ts := by rw [hlen] at Z; exact Z
      refine wpAny_bind (wpAny_attempt (wpAny_callSpecial?_slot (name := Str.ofString "__next__") hT F.slot_zip_next (wpAny_call_entry F.slot_zip_next hT F.entry_zip_next
        (zip_over w dp (un + 1) gd fr { s with heap := h, toks := tk } _ _ D Z2 hx e1 fun h' e k' he => ?_) (F.args_zip_next_1 _))))
      obtain ⟨o, ho, hc⟩ := he
      refine wpAny_bind (wpAny_isInstance (T := "StopIteration") (b := true) ⟨o, ho, hc⟩ isSubtype_stop ?_)
      refine wpAny_pure ⟨rfl, ⟨h', tk, rfl, k.trans k', as, rfl, n1, n2, fun i t hi => ?_⟩, fun o e => k' _ _ e hSn⟩
      obtain ⟨tj, e⟩ := n3 i t hi
      refine ⟨tj, k' _ _ e fun m => ?_⟩
      obtain ⟨o, e2⟩ := hE4 t m
      rw [(n2 t (List.mem_of_getElem? hi)).1] at e2; cases e2

set_option maxHeartbeats 4000000 in
theorem sorted_zip (s : Shared) (Q E : Value → Shared → Prop) (H : Amid base fr s.heap) (XB : (Mine.hd.heap_39 w.params).In base) (TB : Top p loose mean mg mb base) (hd : dp + 2 < recursionLimit) (hu : un + 40 < cLine)
  {z TI TO i1 c d l : Addr} {vs : List Value} {f : Bool} {ts : Tok} (hpos : vs.length ≠ 0) (h64 : vs.length < 64) (D : ZApart z TI TO i1 c d l)
  (Z : ZAt s.heap z TI TO i1 c d l .none (.bool false) 0 vs.toArray f ts)
  (hW : ∀ b ∈ [z, TO, i1, c, d], base.get? b = none ∧ b ∉ fr.filterMap (·.frame))
  {X : Nat → Int} {Tk : Nat → Tok} (hv : ∀ i < vs.length, vs.getD i Value.none = .int (X i) (Tk i)) (hX : ∀ i j, i < vs.length → j < vs.length → i ≠ j → X i ≠ X j) (b : Bool)
  (ret : ∀ (Dd : Addr) (c' : Nat) (as : Nat → Addr) (tj : Nat → Tok) (σ : List Nat) h' tk', Keeps [z, TO, i1, c] s.heap h' → h'.get? Dd = some (seqObj "list" (List.toArray (σ.map fun i => Value.ref (as i))) c') →
    (∀ i < vs.length, IsPair h' (as i) (.int (X i) (Tk i)) (.int i (tj i))) → σ.Perm (List.range vs.length) → (σ.map X).Pairwise (fun p q => if b = true then q ≤ p else p ≤ q) →
    s.heap.get? Dd = none → (∀ i < vs.length, s.heap.get? (as i) = none ∧ as i ≠ Dd) → (∀ i j, i < vs.length → j < vs.length → as i = as j → i = j) → Q (.ref Dd) { s with heap := h', toks := tk' }) :
  wpAny (model PySem.Challenge.rw_kl0506_01.row.prog w) (kA dp un gd fr) (call (.builtin "sorted") [.ref z] [(Str.ofString "reverse", .bool b)]) Q E s := by
  have hE : ∀ b ∈ [z, TI, TO, i1, c, d, l], ∃ o, s.heap.get? b = some o := by
    obtain ⟨a1, a2, ⟨a, b, a3⟩, a4, ⟨tv, a5⟩, a6, o, a7, a8⟩ := Z
    repeat' (first | exact aN | refine aC ?_ ?_)
    · exact ⟨_, a1⟩
    · exact ⟨_, a2⟩
    · exact ⟨_, a3⟩
    · exact ⟨_, a4⟩
    · exact ⟨_, a5⟩
    · exact ⟨_, a6⟩
    · exact ⟨_, a7⟩
  have hE4 : ∀ b ∈ [z, TO, i1, c], ∃ o, s.heap.get? b = some o := aC (hE z (by k_mem)) (aC (hE TO (by k_mem)) (aC (hE i1 (by k_mem)) (aC (hE c (by k_mem)) aN)))
  refine call_function_entry_kw kind_sorted plain_sorted entry_sorted (args_sorted_rev _ _) ?_
  unfold Builtin.«sorted»
  refine wpAny_bind (m := checkCount "sorted" 1 1 _) (wpAny_pure ?_)
  refine wpAny_bind (pulls_collect (zip_pulls w dp (un + 2) gd fr base s H XB TB hd (by walk_at "lo") hpos D hE hW (f := f) (ts := ts)) (by rw [sizeLine_eq]; walk_at "lo") (fun q => ?_) ?_ fun acc s₁ hlen hfin hSS => ?_)
  · obtain ⟨o, e⟩ := hE z (by k_mem)
    exact Nat.lt_irrefl _ (q ▸ Heap.lt_size e)
  · have k0 : Keeps [z, TO, i1, c] s.heap (s.heap.push (seqL [] 0)) := fun q o e _ => Heap.get?_push_of_some _ e
    have Z0 : ZAt (s.heap.push (seqL [] 0)) z TI TO i1 c d l .none (.bool false) 0 vs.toArray f ts := by
      obtain ⟨a1, a2, ⟨a, b, a3⟩, a4, ⟨tv, a5⟩, a6, o, a7, a8⟩ := Z
      exact ⟨Heap.get?_push_of_some _ a1, Heap.get?_push_of_some _ a2, ⟨a, b, Heap.get?_push_of_some _ a3⟩, Heap.get?_push_of_some _ a4, ⟨tv, Heap.get?_push_of_some _ a5⟩, Heap.get?_push_of_some _ a6, o, Heap.get?_push_of_some _ a7, a8⟩
    exact ⟨_, s.toks, rfl, k0, [], rfl, List.nodup_nil, (fun _ h => nomatch h), (fun i t h => by simp at h), _, _, Z0, .inl ⟨rfl, rfl, rfl⟩⟩
  obtain ⟨h₁, tk₁, rfl, k₁, as, rfl, n1, n2, n3⟩ := hfin
  have has : as.length = vs.length := by simpa using hlen
  obtain ⟨oS, hoS⟩ := hSS
  have hlt1 : s.heap.objs.size < h₁.objs.size := Heap.lt_size hoS
  refine wpAny_bind (wpAny_newList ?_ (by rw [List.length_map, sizeLine_eq]; walk_at "lo"))
  let L : Obj := { cls := .type "list", data := .seq (as.map Value.ref).toArray }
  have k₂ : Keeps [z, TO, i1, c] s.heap (h₁.push L) := fun q o e n => Heap.get?_push_of_some _ (k₁ q o e n)
  have hL : (h₁.push L).get? h₁.objs.size = some (seqObj "list" (as.map Value.ref).toArray 0) := Heap.get?_push_size _ rfl
  have old : ∀ q o, h₁.get? q = some o → q ≠ h₁.objs.size := fun q o e => Nat.ne_of_lt (Heap.lt_size e)
  have hget : ∀ i (hi : i < as.length), (as.map Value.ref).getD i Value.none = .ref (as.getD i 0) ∧ as[i]? = some (as.getD i 0) := fun i hi => by
    simp [List.getD, hi]
  obtain ⟨tj, htj⟩ : ∃ tj : Nat → Tok, ∀ i, i < as.length → IsPair h₁ (as.getD i 0) (.int (X i) (Tk i)) (.int i (tj i)) := by
    refine (Classical.skolem (p := fun (i : Nat) (t : Tok) => i < as.length → IsPair h₁ (as.getD i 0) (.int (X i) (Tk i)) (.int i t))).mp fun i => ?_
    by_cases hi : i < as.length
    · obtain ⟨t, e⟩ := n3 i _ (hget i hi).2
      rw [hv i (has ▸ hi)] at e
      exact ⟨t, fun _ => e⟩
    · exact ⟨0, fun h => absurd h hi⟩
  have hPI : PairsIn (h₁.push L) (as.map Value.ref) X := fun i hi => by
    have hi' : i < as.length := by simpa using hi
    exact ⟨_, Tk i, tj i, i, 0, (hget i hi').1, Heap.get?_push_of_some _ (htj i hi')⟩
  show wpAny _ _ (holding [.ref h₁.objs.size] (call (.builtin "list.sort") [.ref h₁.objs.size] [(Str.ofString "reverse", .bool b)]) >>= _) _ _ { s with heap := h₁.push L, toks := tk₁ }
  refine wpAny_bind (wpAny_holding (wpAny_call_entry_kw slot_list_sort ⟨_, hL, rfl⟩ entry_list_sort (list_sort_pairs (x := X) hL (by simp; walk_at "lo") hPI (fun i j hi hj => hX i j (by simpa [has] using hi) (by simpa [has] using hj)) (fun i hi q => ?_) fun σ h' c' p1 p2 k' hD => ⟨_, rfl, ?_⟩) (args_list_sort_rev _ _)))
  · have hi' : i < as.length := by simpa using hi
    obtain ⟨tj, e⟩ := n3 i _ (hget i hi').2
    rw [(hget i hi').1] at q
    exact old _ _ e (by simpa using q)
  have hσ : ∀ i ∈ σ, i < as.length := fun i hi => by simpa using p1.mem_iff.mp hi
  have hmap : (σ.map fun i => (as.map Value.ref).getD i Value.none) = σ.map fun i => Value.ref (as.getD i 0) := List.map_congr_left fun i hi => (hget i (hσ i hi)).1
  rw [hmap] at hD
  have kall : Keeps [z, TO, i1, c] s.heap h' := fun q o e n => k' q o (k₂ q o e n) (by simpa using old q o (k₁ q o e n))
  refine wpAny_pure ⟨_, rfl, ?_⟩
  refine ret h₁.objs.size c' (fun i => as.getD i 0) tj σ h' _ kall hD (fun i hi => ?_) (by simpa [has] using p1) p2 (Heap.get?_none_of_le (Nat.le_of_lt hlt1)) (fun i hi => ?_) (fun i j hi hj e => ?_)
  · have e := htj i (by walk_at "lo")
    exact k' _ _ (Heap.get?_push_of_some _ e) (by simpa using old _ _ e)
  · exact ⟨(n2 _ (List.mem_of_getElem? (hget i (by walk_at "lo")).2)).1, old _ _ (htj i (by walk_at "lo"))⟩
  · have hi' : i < as.length := by walk_at "lo"
    have hj' : j < as.length := by walk_at "lo"
    exact (List.getElem?_inj hi' n1).mp (by rw [(hget i hi').2, (hget j hj').2]; exact congrArg some e)
end
end SSZip
open PySem PySem.W PyProof.Rows PySem.Calls PySem.Spec
/-- a groupby: the group's number, the key and the item at hand and whether they are there, whether a group was opened and its key, the iterator, the key function, the count of groups -/
noncomputable abbrev gbObj (d : Addr) (cg : Value) (ck cv hck hcv htk it kf se tk : Value) : Obj := { cls := .ref 124, dict := some d, data := .plain, slots := #[some cg, some ck, some cv, some hck, some hcv, some htk, some it, some kf, some se, some tk] }
noncomputable abbrev grObj (d : Addr) (nu pa tk : Value) : Obj := { cls := .ref 169, dict := some d, data := .plain, slots := #[some nu, some pa, some tk] }
/-- all but W as it was; the frames of fs up to their slots -/
structure KeepsS (W fs : List Addr) (h h' : Heap) : Prop where
  same : ∀ b o, h.get? b = some o → b ∉ W → b ∉ fs → h'.get? b = some o
  slot : ∀ b o, h.get? b = some o → b ∉ W → b ∈ fs → ∃ sl, h'.get? b = some { o with slots := sl }
theorem Keeps.toS {W fs : List Addr} {h h' : Heap} (k : Keeps W h h') : KeepsS W fs h h' := ⟨fun b o e n _ => k b o e n, fun b o e n _ => ⟨o.slots, k b o e n⟩⟩
theorem KeepsS.trans {W fs : List Addr} {h₁ h₂ h₃ : Heap} (a : KeepsS W fs h₁ h₂) (b : KeepsS W fs h₂ h₃) : KeepsS W fs h₁ h₃ :=
  ⟨fun x o e n m => b.same x o (a.same x o e n m) n m, fun x o e n m => by
    obtain ⟨s1, e1⟩ := a.slot x o e n m
    obtain ⟨s2, e2⟩ := b.slot x _ e1 n m
    exact ⟨s2, e2⟩⟩
theorem KeepsS.mono {W W' fs : List Addr} {h h' : Heap} (a : KeepsS W fs h h') (s : ∀ b ∈ W, b ∈ W') : KeepsS W' fs h h' := ⟨fun x o e n m => a.same x o e (fun q => n (s x q)) m, fun x o e n m => a.slot x o e (fun q => n (s x q)) m⟩
theorem KeepsS.nil {W : List Addr} {h h' : Heap} (a : KeepsS W [] h h') : Keeps W h h' := fun x o e n => a.same x o e n (by simp)

theorem neO {h : Heap} {a b : Addr} {oa ob : Obj} (ha : h.get? a = some oa) (hb : h.get? b = some ob) (hc : oa.cls ≠ ob.cls) : (@Ne Nat a b) := fun q => by
  subst q
  rw [ha] at hb
  cases hb
  exact hc rfl

theorem fin_keeps {base g h h0 : Heap} {fr : List Env} {L : Addr} {m : Str → Option Value} {W : List (Addr × Obj)} {V : List Addr} (hW : Loose base fr h0 W) (kp : Keeps (W.map (·.1)) h0 g) (F : Fr g L h m)
    (hs : ∀ q ∈ W, q.1 ∉ V → h.get? q.1 = some q.2) : Keeps V h0 h := keeps_out kp F.keep fun b hb hn o ho => by
  obtain ⟨q, hq, rfl⟩ := List.mem_map.mp hb
  rw [(hW q hq).1] at ho
  cases ho
  exact hs q hq hn
theorem fin_raised {base g g0 h h0 : Heap} {fr : List Env} {e t : Addr} {X : String} {vs : List Value} {news W : List (Addr × Obj)} {V : List Addr} (hW : Loose base fr h0 W) (kp : Keeps (W.map (·.1)) h0 g0) (T : KtsTurn (fr.filterMap (·.frame)) g0 g)
    (R : RaisedS base g fr e (.type X) t vs news h) (U : g.UpToSlots h) (H : Amid base fr h0)
    (hs : ∀ q ∈ W, q.1 ∉ V → q ∈ news) : KeepsS V (fr.filterMap (·.frame)) h0 h ∧ (∀ q ∈ news, h.get? q.1 = some q.2) ∧ ∃ o, h.get? e = some o ∧ o.cls = .type X := by
  obtain ⟨⟨B, hB, hBG, hl, hfl, _⟩, _⟩ := R
  have hf' := flyingW_base hB hfl
  refine ⟨⟨fun b o e n m => ?_, fun b o e n m => ?_⟩, fun q hq => hfl.1 _ _ (hl q hq).1, hf'.there⟩
  · by_cases hb : b ∈ W.map (·.1)
    · obtain ⟨q, hq, rfl⟩ := List.mem_map.mp hb
      rw [(hW q hq).1] at e
      cases e
      exact hfl.1 _ _ (hl q (hs q hq n)).1
    · exact hfl.1 _ _ (hBG b o (T.other b o (kp b o e hb) m) m)
  · by_cases hb : b ∈ W.map (·.1)
    · obtain ⟨q, hq, rfl⟩ := List.mem_map.mp hb
      exact absurd m (hW q hq).2.2
    · obtain ⟨s1, hg⟩ := T.frame b o (kp b o e hb) m
      obtain ⟨o', es, k, ho', hd⟩ := H.dicts b m
      rw [e] at ho'
      cases ho'
      obtain ⟨s2, h2⟩ := U b _ hg fun vs q => by rw [show ({ o with slots := s1 } : Obj).data = o.data from rfl, hd] at q; cases q
      exact ⟨s2, h2⟩
section
variable {M : Model} {A : Around} {E : Value → Shared → Prop} {s : Shared} {Q : Value → Shared → Prop}
theorem is_int_same {a : Int} {t : Tok} (h0 : t ≠ 0) (h : Q (.bool true) s) : wpAny M A (compareOp .Is (.int a t) (.int a t)) Q E s := by
  have e : (t == 0 || t == 0) = false := by simp [h0]
  have g : wpAny M A (isSame (.int a t) (.int a t)) (fun b s' => Q (.bool b) s') E s := by
    show wpAny M A (if (a == a && smallInt a) = true then isSame.cachedInt t t else isSame.created (a == a) t t) _ E s
    refine wpAny_ite ?_
    split
    · unfold isSame.cachedInt
      rw [e]
      exact wpAny_bind (wpAny_rule (wpAny_pure h))
    · unfold isSame.created
      rw [e]
      simp only [beq_self_eq_true, if_true, Bool.false_eq_true, if_false]
      exact wpAny_pure h
  exact wpAny_bind (wpAny_mono g (fun b s' hq => wpAny_pure hq) fun _ _ x => x)
theorem is_int_other {a b : Int} {t u : Tok} (ht : t ≠ 0) (hu : u ≠ 0) (htu : t ≠ u) (hab : a ≠ b) (h : Q (.bool false) s) : wpAny M A (compareOp .Is (.int a t) (.int b u)) Q E s := by
  have e : (t == 0 || u == 0) = false := by simp [ht, hu]
  have e1 : (a == b) = false := by simp [hab]
  have e2 : (t == u) = false := by simp [htu]
  have g : wpAny M A (isSame (.int a t) (.int b u)) (fun b s' => Q (.bool b) s') E s := by
    show wpAny M A (if (a == b && smallInt a) = true then isSame.cachedInt t u else isSame.created (a == b) t u) _ E s
    rw [e1]
    simp only [Bool.false_and, Bool.false_eq_true, if_false]
    unfold isSame.created
    rw [e, e2]
    simp only [Bool.not_false, Bool.false_eq_true, if_false, if_true]
    exact wpAny_pure h
  exact wpAny_bind (wpAny_mono g (fun b s' hq => wpAny_pure hq) fun _ _ x => x)
end
theorem method_slot {prog : Program} {w : World} {A : Around} {E : Value → Shared → Prop} {s : Shared} {K : Frag} {x C L : Addr} {ox : Obj} {od : Option Obj} {h₀ : Heap} {m : Str → Option Value} {name : Str} {pl : Sem Bool} {q : Addr} {Q : Value × List Value → Shared → Prop}
    (F : Fr h₀ L s.heap m) (X₀ : K.In h₀) (I : InstAt s.heap x ox C od) (hg : plainGet K C name = true)
    (hf : findIn K (.ref C) name = some (some (.ref q))) (ht : typeIn K (.ref q) = some (.type "member_descriptor"))
    (h : wpAny (model prog w) A (getAttr (.ref x) name) (fun v => Q (v, [])) E s) : wpAny (model prog w) A (getMethod (.ref x) name pl) Q E s :=
  method_usual (X₀.keeps F.keep) I (plainGet_of hg).1 (plainGet_of hg).2 hf (by show (typeIn K (.ref q)).any _ = true; rw [ht]; decide +kernel) h
local macro_rules | `(tactic| walk_at "getMethod ref") => `(tactic| (k_here; k_dflt (refine' Mine.method_slot ?k1 ?k2 ?k3 ?k4 ?k5 ?k6 ?_; (case k1 => k_asm); (case k2 => k_asm); (case k3 => k_inst); (case k4 => k_is); (case k5 => k_is); (case k6 => k_is); k_whole)))
local macro_rules | `(tactic| walk_at "m:is") => `(tactic| (k_here; first | (refine Mine.is_int_same (by assumption) ?_) | (refine Mine.is_int_other (by assumption) (by assumption) (by assumption) (by assumption) ?_)))
local macro_rules | `(tactic| walk_at "compareOp Is") => `(tactic| walk_at "m:is")
local macro_rules | `(tactic| walk_at "compareOp Is int int") => `(tactic| walk_at "m:is")


section
variable {M : Model} {A A₀ : Around} {E : Value → Shared → Prop} {s' : Shared} {base g G G' : Heap} {outer : List Env} {L a e t : Addr} {m : Str → Option Value} {name : Str} {scope : Scope} {cd : Value} {Q : Unit → Shared → Prop} {news : List (Addr × Obj)}
theorem turn_frame (K : Below A₀ base outer g) (F : Fr g L G m) (T : KtsTurn ((envOf name scope L a cd :: outer).filterMap (·.frame)) G G') :
    ∃ g', KtsTurn (outer.filterMap (·.frame)) g g' ∧ Fr g' L G' m ∧ Below A₀ base outer g' :=
  kts_ground (name := name) (scope := scope) (a := a) (cd := cd) (B := hideAll G' ((envOf name scope L a cd :: outer).filterMap (·.frame))) K F (fun b o e n => hideAll_get _ (T.other b o e n) n) (fun _ _ e => of_hideAll _ e) (fun b o e _ => T.up e)
/-- an exception leaves a frame that was turned by a frame further in -/
theorem leave_turnS {cls : Value} {vs : List Value} (K : Below A base outer g) (F : Fr g L G m) (T : KtsTurn ((envOf name scope L a cd :: outer).filterMap (·.frame)) G G')
    (R : RaisedS base G' (envOf name scope L a cd :: outer) e cls t vs news s'.heap) (hsm : G'.UpToSlots s'.heap)
    (hQ : ∀ h' g', KtsTurn (outer.filterMap (·.frame)) g g' → Below A base outer g' → RaisedS base g' outer e cls t vs news h' → RaisedK base outer e cls t vs news h' → g'.UpToSlots h' → Q () { s' with heap := h' }) :
    wpAny M (A.deeper (envOf name scope L a cd)) (leaving (envOf name scope L a cd) (.ref e)) Q E s' := by
  obtain ⟨g', T', F', K'⟩ := turn_frame K F T
  exact leave_onS K' F' R hsm fun h' R' RK U => hQ h' g' T' K' R' RK U
end
local macro_rules | `(tactic| walk_at "leaving ref") => `(tactic| (k_here; (refine' Mine.leave_turnS ?K ?F ?T ?R ?U ?_; (case R => assumption); (case F => assumption); (case T => assumption); (case K => assumption); (case U => assumption); k_whole; intro h' g' T' B' S' R' U'; (try dsimp only at S' R' U' ⊢))))
theorem at76 {M : Model} {A : Around} {Q E : Value → Shared → Prop} {s : Shared} {p : List Value} {k : List (Str × Value)} (h : wpAny M A (call (.ref 76) p k) Q E s) : wpAny M A (call (.ref 76) p k) Q E s := h
theorem at113 {M : Model} {A : Around} {Q E : Value → Shared → Prop} {s : Shared} {p : List Value} {k : List (Str × Value)} (h : wpAny M A (call (.ref 113) p k) Q E s) : wpAny M A (call (.ref 113) p k) Q E s := h
local macro_rules | `(tactic| walk_at "m:in") => `(tactic| k_dflt (refine wpAny_call ?_; kts_go))
local macro_rules | `(tactic| walk_at "call ref") => `(tactic| (k_here; (with_reducible refine at76 ?_); walk_at "m:in"))
local macro_rules | `(tactic| walk_at "call ref") => `(tactic| (k_here; (with_reducible refine at113 ?_); walk_at "m:in"))
section SGrpB
open PySem PySem.W PyProof.Rows PySem.Calls PySem.Spec
theorem fresh_GrpB : True := by
  w_top off
  trivial
section
variable (w : World) {p : Program} {loose : List Str} {mean : ExcName → Option Value} {mg mb : Str → Option Value}
  (dp un : Nat) (gd : Option (List Code)) (fr : List Env) (base : Heap)
set_option maxRecDepth 100000 in
set_option maxHeartbeats 4000000 in
theorem grp_item (s : Shared) (Q E : Value → Shared → Prop)
  (H : Amid base fr s.heap) (XB : (Mine.hd.heap_39 w.params).In base) (TB : Top p loose mean mg mb base) (hd : dp + 6 < recursionLimit) (hu : un + 60 < cLine)
  {gr dg gb db it : Addr} {num kt tn tn' : Nat} {x : Int} {t : Addr} {kf : Value}
  (hW : Loose base fr s.heap [(gr, grObj dg (.int num tn) (.ref gb) (.int x kt)), (dg, dictOf [] 0), (gb, gbObj db (.int num tn') (.int x kt) (.ref t) (.bool true) (.bool true) (.bool true) (.ref it) kf (.int num tn') (.int x kt)), (db, dictOf [] 0)])
  (hk0 : kt ≠ 0)
  (ret : ∀ h' tk', Keeps [gb] s.heap h' → h'.get? gb = some (gbObj db (.int num tn') .none .none (.bool false) (.bool false) (.bool true) (.ref it) kf (.int num tn') (.int x kt)) → Q (.ref t) { s with heap := h', toks := tk' }) :
  wpAny (model PySem.Challenge.rw_kl0506_01.row.prog w) (kA dp un gd fr) (call (.ref 165) [.ref gr]) Q E s := by
  refine wpAny_call ?_
  k_dflt (refine' enterW H XB TB _ hW ?k6 ?k7 ?k8 ?k9 ?kB ?_ ?c2 ?c3 ?c4 ?c5; (case k6 => k_is); (case k7 => k_is); (case k8 => ktr_room); (case k9 => exact BindsTo.of_eq rfl); (case c5 => decide); (case kB => exact locs rfl); (case c2 => exact rfl); (case c3 => exact rfl); (case c4 => exact rfl); k_whole; intro g L' h' kp' bk' wl' F' N' B' X' T' D'; (try dsimp only); (try k_fold))
  have n1 := neO (hW _ (.head _)).1 (hW _ (.tail _ (.tail _ (.head _)))).1 (by intro q; cases q)
  have n2 := neO (hW _ (.tail _ (.head _))).1 (hW _ (.tail _ (.tail _ (.head _)))).1 (by intro q; cases q)
  have n3 := neO (hW _ (.tail _ (.tail _ (.tail _ (.head _))))).1 (hW _ (.tail _ (.tail _ (.head _)))).1 (by intro q; cases q)
  k_steps
  · exfalso; walk_at "lo"
  rename Fr _ _ _ _ => Fx
  rename News _ _ _ _ => Nx
  refine ret _ _ (fin_keeps hW kp' Fx ?_) (Nx (gb, _) (by k_mem)).1
  repeat' (first | exact aN | refine aC ?_ ?_)
  · exact fun _ => (Nx _ (by k_mem)).1
  · exact fun _ => (Nx _ (by k_mem)).1
  · exact fun hn => absurd (.head _) hn
  · exact fun _ => (Nx _ (by k_mem)).1
end
end SGrpB
section SGrpC
open PySem PySem.W PyProof.Rows PySem.Calls PySem.Spec
local macro_rules | `(tactic| walk_at "no line") => `(tactic| fail "no line")
theorem fresh_GrpC : True := by
  w_top off
  trivial
noncomputable abbrev igObj (d tp : Addr) : Obj := { cls := .ref 267, dict := some d, data := .plain, slots := #[some (.ref tp)] }
noncomputable abbrev tupO (xs : Array Value) : Obj := { cls := .type "tuple", data := .seq xs }
section
variable (w : World) {p : Program} {loose : List Str} {mean : ExcName → Option Value} {mg mb : Str → Option Value}
  (dp un : Nat) (gd : Option (List Code)) (fr : List Env) (base : Heap)
set_option maxRecDepth 100000 in
set_option maxHeartbeats 4000000 in
theorem grp_more (s : Shared) (Q E : Value → Shared → Prop)
  (H : Amid base fr s.heap) (XB : (Mine.hd.heap_39 w.params).In base) (TB : Top p loose mean mg mb base) (hd : dp + 6 < recursionLimit) (hu : un + 60 < cLine)
  {gr dg gb db it l kf dk tp t : Addr} {num i : Nat} {kt ky tn tn' tz : Tok} {x y : Int} {b : Value} {items : Array Value} {lc : Nat}
  (hW : Loose base fr s.heap [(gr, grObj dg (.int num tn) (.ref gb) (.int x kt)), (dg, dictOf [] 0), (gb, gbObj db (.int num tn') .none .none (.bool false) (.bool false) (.bool true) (.ref it) (.ref kf) (.int num tn') (.int x kt)), (db, dictOf [] 0),
    (it, liObj l i), (kf, igObj dk tp), (dk, dictOf [] 0), (tp, tupO #[.int 0 tz]), (t, tupO #[.int y ky, b]), (l, seqObj "list" items lc)])
  (hx : items[i]? = some (.ref t))
  (hk0 : kt ≠ 0) (hk1 : ky ≠ 0) (hk2 : kt ≠ ky) (hxy : x ≠ y)
  (ret : ∀ h' tk' e, KeepsS [gb, it] (fr.filterMap (·.frame)) s.heap h' → h'.get? gb = some (gbObj db (.int num tn') (.int y ky) (.ref t) (.bool true) (.bool true) (.bool true) (.ref it) (.ref kf) (.int num tn') (.int x kt)) → h'.get? it = some (liObj l (i + 1)) →
    (∃ o, h'.get? e = some o ∧ o.cls = .type "StopIteration") → E (.ref e) { s with heap := h', toks := tk' }) :
  wpAny (model PySem.Challenge.rw_kl0506_01.row.prog w) (kA dp un gd fr) (call (.ref 165) [.ref gr]) Q E s := by
  refine wpAny_call ?_
  k_dflt (refine' enterW H XB TB _ hW ?k6 ?k7 ?k8 ?k9 ?kB ?_ ?c2 ?c3 ?c4 ?c5; (case k6 => k_is); (case k7 => k_is); (case k8 => ktr_room); (case k9 => exact BindsTo.of_eq rfl); (case c5 => decide); (case kB => exact locs rfl); (case c2 => exact rfl); (case c3 => exact rfl); (case c4 => exact rfl); k_whole; intro g L' h' kp' bk' wl' F' N' B' X' T' D'; (try dsimp only); (try k_fold))
  have hgr : s.heap.get? gr = _ := (hW (gr, _) (by k_mem)).1
  have hdg : s.heap.get? dg = _ := (hW (dg, _) (by k_mem)).1
  have hgb : s.heap.get? gb = _ := (hW (gb, _) (by k_mem)).1
  have hdb : s.heap.get? db = _ := (hW (db, _) (by k_mem)).1
  have hit : s.heap.get? it = _ := (hW (it, _) (by k_mem)).1
  have hkf : s.heap.get? kf = _ := (hW (kf, _) (by k_mem)).1
  have hdk : s.heap.get? dk = _ := (hW (dk, _) (by k_mem)).1
  have htp : s.heap.get? tp = _ := (hW (tp, _) (by k_mem)).1
  have ht : s.heap.get? t = _ := (hW (t, _) (by k_mem)).1
  have hl : s.heap.get? l = _ := (hW (l, _) (by k_mem)).1
  have n1 := neO hgr hgb (by intro q; first | (cases q; done) | (injection q with q; revert q; decide))
  have n2 := neO hdg hgb (by intro q; first | (cases q; done) | (injection q with q; revert q; decide))
  have n3 := neO hdb hgb (by intro q; first | (cases q; done) | (injection q with q; revert q; decide))
  have n4 := neO hit hgb (by intro q; first | (cases q; done) | (injection q with q; revert q; decide))
  have n5 := neO hkf hgb (by intro q; first | (cases q; done) | (injection q with q; revert q; decide))
  have n6 := neO hdk hgb (by intro q; first | (cases q; done) | (injection q with q; revert q; decide))
  have n7 := neO htp hgb (by intro q; first | (cases q; done) | (injection q with q; revert q; decide))
  have n8 := neO ht hgb (by intro q; first | (cases q; done) | (injection q with q; revert q; decide))
  have m1 := neO hgr hit (by intro q; first | (cases q; done) | (injection q with q; revert q; decide))
  have m2 := neO hdg hit (by intro q; first | (cases q; done) | (injection q with q; revert q; decide))
  have m3 := neO hgb hit (by intro q; first | (cases q; done) | (injection q with q; revert q; decide))
  have m4 := neO hdb hit (by intro q; first | (cases q; done) | (injection q with q; revert q; decide))
  have m5 := neO hkf hit (by intro q; first | (cases q; done) | (injection q with q; revert q; decide))
  have m6 := neO hdk hit (by intro q; first | (cases q; done) | (injection q with q; revert q; decide))
  have m7 := neO htp hit (by intro q; first | (cases q; done) | (injection q with q; revert q; decide))
  have m8 := neO ht hit (by intro q; first | (cases q; done) | (injection q with q; revert q; decide))
  have n9 := neO hl hgb (by intro q; first | (cases q; done) | (injection q with q; revert q; decide))
  have m9 := neO hl hit (by intro q; first | (cases q; done) | (injection q with q; revert q; decide))
  clear hgr hdg hgb hdb hit hkf hdk htp ht hl
  k_steps
  · exfalso; walk_at "lo"
  · rename (if x = y then true else false) = true => aX
    rw [if_neg hxy] at aX
    cases aX
  rename RaisedS _ _ _ _ _ _ _ _ _ => Rx
  rename Heap.UpToSlots _ _ => Ux
  refine (fun hh => ?_) (fin_raised (V := [gb, it]) hW kp' KtsTurn.refl Rx Ux H ?_)
  · obtain ⟨r1, r2, r3⟩ := hh
    exact ret _ _ _ r1 (r2 (gb, _) (by k_mem)) (r2 (it, _) (by k_mem)) r3
  repeat' (first | exact aN | refine aC ?_ ?_)
  · intro _; k_mem
  · intro _; k_mem
  · exact fun hn => absurd (.head _) hn
  · intro _; k_mem
  · exact fun hn => absurd (.tail _ (.head _)) hn
  · intro _; k_mem
  · intro _; k_mem
  · intro _; k_mem
  · intro _; k_mem
  · intro _; k_mem
end
end SGrpC
section SGrpD
open PySem PySem.W PyProof.Rows PySem.Calls PySem.Spec
theorem fresh_GrpD : True := by
  w_top off
  trivial
section
variable (w : World) {p : Program} {loose : List Str} {mean : ExcName → Option Value} {mg mb : Str → Option Value}
  (dp un : Nat) (gd : Option (List Code)) (fr : List Env) (base : Heap)
set_option maxRecDepth 100000 in
set_option maxHeartbeats 4000000 in
theorem grp_last (s : Shared) (Q E : Value → Shared → Prop)
  (H : Amid base fr s.heap) (XB : (Mine.hd.heap_39 w.params).In base) (TB : Top p loose mean mg mb base) (hd : dp + 6 < recursionLimit) (hu : un + 60 < cLine)
  {gr dg gb db it l kf dk tp : Addr} {num i : Nat} {kt tn tn' tz : Tok} {x : Int} {items : Array Value} {lc : Nat}
  (hW : Loose base fr s.heap [(gr, grObj dg (.int num tn) (.ref gb) (.int x kt)), (dg, dictOf [] 0), (gb, gbObj db (.int num tn') .none .none (.bool false) (.bool false) (.bool true) (.ref it) (.ref kf) (.int num tn') (.int x kt)), (db, dictOf [] 0),
    (it, liObj l i), (kf, igObj dk tp), (dk, dictOf [] 0), (tp, tupO #[.int 0 tz]), (l, seqObj "list" items lc)])
  (hx : items[i]? = none)
  
  (ret : ∀ h' tk' e, KeepsS [it] (fr.filterMap (·.frame)) s.heap h' → h'.get? it = some (liEnd i) →
    (∃ o, h'.get? e = some o ∧ o.cls = .type "StopIteration") → E (.ref e) { s with heap := h', toks := tk' }) :
  wpAny (model PySem.Challenge.rw_kl0506_01.row.prog w) (kA dp un gd fr) (call (.ref 165) [.ref gr]) Q E s := by
  refine wpAny_call ?_
  k_dflt (refine' enterW H XB TB _ hW ?k6 ?k7 ?k8 ?k9 ?kB ?_ ?c2 ?c3 ?c4 ?c5; (case k6 => k_is); (case k7 => k_is); (case k8 => ktr_room); (case k9 => exact BindsTo.of_eq rfl); (case c5 => decide); (case kB => exact locs rfl); (case c2 => exact rfl); (case c3 => exact rfl); (case c4 => exact rfl); k_whole; intro g L' h' kp' bk' wl' F' N' B' X' T' D'; (try dsimp only); (try k_fold))
  have hgr : s.heap.get? gr = _ := (hW (gr, _) (by k_mem)).1
  have hdg : s.heap.get? dg = _ := (hW (dg, _) (by k_mem)).1
  have hgb : s.heap.get? gb = _ := (hW (gb, _) (by k_mem)).1
  have hdb : s.heap.get? db = _ := (hW (db, _) (by k_mem)).1
  have hit : s.heap.get? it = _ := (hW (it, _) (by k_mem)).1
  have hkf : s.heap.get? kf = _ := (hW (kf, _) (by k_mem)).1
  have hdk : s.heap.get? dk = _ := (hW (dk, _) (by k_mem)).1
  have htp : s.heap.get? tp = _ := (hW (tp, _) (by k_mem)).1
  have hl : s.heap.get? l = _ := (hW (l, _) (by k_mem)).1
  have n1 := neO hgr hgb (by intro q; first | (cases q; done) | (injection q with q; revert q; decide))
  have n2 := neO hdg hgb (by intro q; first | (cases q; done) | (injection q with q; revert q; decide))
  have n3 := neO hdb hgb (by intro q; first | (cases q; done) | (injection q with q; revert q; decide))
  have n4 := neO hit hgb (by intro q; first | (cases q; done) | (injection q with q; revert q; decide))
  have n5 := neO hkf hgb (by intro q; first | (cases q; done) | (injection q with q; revert q; decide))
  have n6 := neO hdk hgb (by intro q; first | (cases q; done) | (injection q with q; revert q; decide))
  have n7 := neO htp hgb (by intro q; first | (cases q; done) | (injection q with q; revert q; decide))
  have m1 := neO hgr hit (by intro q; first | (cases q; done) | (injection q with q; revert q; decide))
  have m2 := neO hdg hit (by intro q; first | (cases q; done) | (injection q with q; revert q; decide))
  have m3 := neO hgb hit (by intro q; first | (cases q; done) | (injection q with q; revert q; decide))
  have m4 := neO hdb hit (by intro q; first | (cases q; done) | (injection q with q; revert q; decide))
  have m5 := neO hkf hit (by intro q; first | (cases q; done) | (injection q with q; revert q; decide))
  have m6 := neO hdk hit (by intro q; first | (cases q; done) | (injection q with q; revert q; decide))
  have m7 := neO htp hit (by intro q; first | (cases q; done) | (injection q with q; revert q; decide))
  have n9 := neO hl hgb (by intro q; first | (cases q; done) | (injection q with q; revert q; decide))
  have m9 := neO hl hit (by intro q; first | (cases q; done) | (injection q with q; revert q; decide))
  clear hgr hdg hgb hdb hit hkf hdk htp hl
  k_steps
  · exfalso; walk_at "lo"
  rename RaisedS _ _ _ _ _ _ _ _ _ => Rx
  rename Heap.UpToSlots _ _ => Ux
  rename KtsTurn _ _ _ => Tx
  refine (fun hh => ?_) (fin_raised (V := [it]) hW kp' Tx Rx Ux H ?_)
  · obtain ⟨r1, r2, r3⟩ := hh
    exact ret _ _ _ r1 (r2 (it, _) (by k_mem)) r3
  repeat' (first | exact aN | refine aC ?_ ?_)
  · intro _; k_mem
  · intro _; k_mem
  · intro _; k_mem
  · intro _; k_mem
  · exact fun hn => absurd (.head _) hn
  · intro _; k_mem
  · intro _; k_mem
  · intro _; k_mem
  · intro _; k_mem
end
end SGrpD
open PySem PySem.W PyProof.Rows PySem.Calls PySem.Spec
section
variable {prog : Program} {w : World} {A : Around} {E : Value → Shared → Prop} {s : Shared} {h₀ : Heap} {L it : Addr} {m : Str → Option Value} {news : List (Addr × Obj)} {i : Nat}
theorem li_over {Q : Value → Shared → Prop} (F : Fr h₀ L s.heap m) (N : News h₀ L s.heap news) (hmem : (it, liEnd i) ∈ news) (hh : A.handled = none)
    (h : ∀ h' e, Fr h₀ L s.heap m → News h₀ L s.heap news → Heap.NewExc s.heap h' e "StopIteration" → E (.ref e) { s with heap := h' }) :
    wpAny (model prog w) A (call (.builtin "next") [.ref it]) Q E s := by
  have hm := N (it, liEnd i) hmem
  have hty : s.TypeIs (.ref it) "list_iterator" := ⟨_, hm.1, rfl⟩
  refine call_function_entry (by decide +kernel) (by decide +kernel) kdk_entry_next (kdk_args_next _) ?_
  unfold Builtin.«next»
  refine wpAny_bind (m := someArgs "next" 1 2 _) (wpAny_of_eq (a := [Value.ref it]) (by first | rfl | kernel_rfl!) ?_)
  dsimp only
  refine wpAny_bind (wpAny_specialOf (name := Str.ofString "__next__") hty slot_listiter_next.lookup ?_)
  refine wpAny_ite_split (fun hab => absurd hab (by decide)) (fun _ => ?_)
  refine wpAny_bind (wpAny_callSpecial?_slot (name := Str.ofString "__next__") hty slot_listiter_next
    (wpAny_call_entry slot_listiter_next hty entry_listiter_next ?_ (args_listiter_next _)))
  show wpAny _ _ (field (.ref it) 0 >>= _) _ _ s
  refine wpAny_bind (wpAny_field hm.1 rfl (x := .none) rfl ?_)
  show wpAny _ _ (if (Value.none == Value.none) = true then _ else _) _ _ s
  rw [if_pos (show ((Value.none == Value.none) = true) from rfl)]
  refine wpAny_bind (wpAny_rule (wpAny_bind ?_))
  show wpAny _ _ (newExc (.type "StopIteration") [] >>= _) _ _ _
  refine wpAny_bind ?_
  simp only [newExc, newTuple]
  refine wpAny_bind (wpAny_newObj_type ?_ (by size_fits))
  refine wpAny_bind (m := firstArgMember _ _) (wpAny_of_eq (a := Value.none) (by first | rfl | (simp only [firstArgMember]; rfl)) ?_)
  refine wpAny_newObj_type ?_ (by size_fits)
  simp only [raiseNew]
  refine wpAny_bind (wpAny_handled ?_)
  rw [show A.in1.in1.handled = none from hh]
  refine wpAny_bind (wpAny_pure (wpAny_throw ?_))
  exact h _ _ F N
    ⟨fun b o hb => Heap.get?_push_of_some _ (Heap.get?_push_of_some _ hb), Heap.get?_none_of_le (by simp), _, .ref _, Heap.get?_push_size _ rfl, rfl, by simp only [stop_own]; simp; rfl⟩
end
theorem fresh_in {W : List (Addr × Obj)} {h0 g : Heap} {b : Addr} (kp : Keeps (W.map (·.1)) h0 g) (hg : g.get? b = none) (hb : ∀ q ∈ W, (@Ne Nat q.1 b)) : h0.get? b = none := by
  cases e : h0.get? b with
  | none => rfl
  | some o =>
    have := kp b o e fun m => by
      obtain ⟨q, hq, hqb⟩ := List.mem_map.mp m
      exact hb q hq hqb
    rw [hg] at this; cases this
local macro_rules | `(tactic| walk_at "call builtin:next") => `(tactic| (k_here; (with_reducible show wpAny _ _ (call (Value.builtin "next") [Value.ref _]) _ _ _); k_dflt (refine' Mine.li_over ?F ?N ?U ?hh ?_; (case F => k_asm); (case N => k_asm); (case U => k_mem); (case hh => rfl); k_whole; intro h' e' F' N' x')))
section SGrpE
open PySem PySem.W PyProof.Rows PySem.Calls PySem.Spec
theorem fresh_GrpE : True := by
  w_top off
  trivial
section
variable (w : World) {p : Program} {loose : List Str} {mean : ExcName → Option Value} {mg mb : Str → Option Value}
  (dp un : Nat) (gd : Option (List Code)) (fr : List Env) (base : Heap)
set_option maxRecDepth 100000 in
set_option maxHeartbeats 4000000 in
theorem gb_mid (s : Shared) (Q E : Value → Shared → Prop)
  (H : Amid base fr s.heap) (XB : (Mine.hd.heap_39 w.params).In base) (TB : Top p loose mean mg mb base) (hd : dp + 6 < recursionLimit) (hu : un + 60 < cLine)
  {gb db it kf t : Addr} {num : Nat} {kt ky tn tc : Tok} {x y : Int} {cg : Value}
  (hW : Loose base fr s.heap [(gb, gbObj db cg (.int y ky) (.ref t) (.bool true) (.bool true) (.bool true) (.ref it) (.ref kf) (.int num tn) (.int x kt)), (db, dictOf [] 0)])
  (hk0 : kt ≠ 0) (hk1 : ky ≠ 0) (hk2 : kt ≠ ky) (hxy : x ≠ y)
  (ret : ∀ h' tk' T gr dg tn', Keeps [gb] s.heap h' → h'.get? gb = some (gbObj db (.int (num + 1 : Nat) tn') (.int y ky) (.ref t) (.bool true) (.bool true) (.bool true) (.ref it) (.ref kf) (.int (num + 1 : Nat) tn') (.int y ky)) →
    IsPair h' T (.int y ky) (.ref gr) → h'.get? gr = some (grObj dg (.int (num + 1 : Nat) tn') (.ref gb) (.int y ky)) → h'.get? dg = some (dictOf [] 0) → s.heap.get? T = none → s.heap.get? gr = none → s.heap.get? dg = none → Q (.ref T) { s with heap := h', toks := tk' }) :
  wpAny (model PySem.Challenge.rw_kl0506_01.row.prog w) (kA dp un gd fr) (call (.ref 120) [.ref gb]) Q E s := by
  refine wpAny_call ?_
  k_dflt (refine' enterW H XB TB _ hW ?k6 ?k7 ?k8 ?k9 ?kB ?_ ?c2 ?c3 ?c4 ?c5; (case k6 => k_is); (case k7 => k_is); (case k8 => ktr_room); (case k9 => exact BindsTo.of_eq rfl); (case c5 => decide); (case kB => exact locs rfl); (case c2 => exact rfl); (case c3 => exact rfl); (case c4 => exact rfl); k_whole; intro g L' h' kp' bk' wl' F' N' B' X' T' D'; (try dsimp only); (try k_fold))
  have hgb : s.heap.get? gb = _ := (hW (gb, _) (by k_mem)).1
  have hdb : s.heap.get? db = _ := (hW (db, _) (by k_mem)).1
  have n3 := neO hdb hgb (by intro q; first | (cases q; done) | (injection q with q; revert q; decide))
  clear hgb hdb
  k_steps
  · rename (if x = y then true else false) = true => aX
    rw [if_neg hxy] at aX
    cases aX
  rename Fr _ _ _ _ => Fx
  rename News _ _ _ _ => Nx
  have kk := fin_keeps (V := [gb]) hW kp' Fx <| by
    repeat' (first | exact aN | refine aC ?_ ?_)
    · exact fun hn => absurd (.head _) hn
    · exact fun _ => (Nx _ (by k_mem)).1
  refine ret _ _ _ _ _ _ kk (Nx (gb, _) (by k_mem)).1 (Nx _ (.head _)).1 (Nx _ (.tail _ (.head _))).1 (Nx (_, dictOf [] 0) (by k_mem)).1 (fresh_in kp' (Nx _ (.head _)).2.2 ?_) (fresh_in kp' (Nx _ (.tail _ (.head _))).2.2 ?_) (fresh_in kp' (Nx (_, dictOf [] 0) (by k_mem)).2.2 ?_)
  all_goals
    (repeat' (first | exact aN | refine aC ?_ ?_)) <;> (dsimp only; walk_at "lo")
end
end SGrpE
section SGrpF
open PySem PySem.W PyProof.Rows PySem.Calls PySem.Spec
local macro_rules | `(tactic| walk_at "no line") => `(tactic| fail "no line")
theorem fresh_GrpF : True := by
  w_top off
  trivial
section
variable (w : World) {p : Program} {loose : List Str} {mean : ExcName → Option Value} {mg mb : Str → Option Value}
  (dp un : Nat) (gd : Option (List Code)) (fr : List Env) (base : Heap)
set_option maxRecDepth 100000 in
set_option maxHeartbeats 4000000 in
theorem gb_first (s : Shared) (Q E : Value → Shared → Prop)
  (H : Amid base fr s.heap) (XB : (Mine.hd.heap_39 w.params).In base) (TB : Top p loose mean mg mb base) (hd : dp + 6 < recursionLimit) (hu : un + 60 < cLine)
  {gb db it kf dk tp t l : Addr} {num i : Nat} {ky tn tz : Tok} {y : Int} {cg b : Value} {items : Array Value} {lc : Nat}
  (hW : Loose base fr s.heap [(gb, gbObj db cg .none .none (.bool false) (.bool false) (.bool false) (.ref it) (.ref kf) (.int num tn) .none), (db, dictOf [] 0),
    (it, liObj l i), (kf, igObj dk tp), (dk, dictOf [] 0), (tp, tupO #[.int 0 tz]), (t, tupO #[.int y ky, b]), (l, seqObj "list" items lc)])
  (hx : items[i]? = some (.ref t))
  (ret : ∀ h' tk' T gr dg tn', Keeps [gb, it] s.heap h' → h'.get? gb = some (gbObj db (.int (num + 1 : Nat) tn') (.int y ky) (.ref t) (.bool true) (.bool true) (.bool true) (.ref it) (.ref kf) (.int (num + 1 : Nat) tn') (.int y ky)) → h'.get? it = some (liObj l (i + 1)) →
    IsPair h' T (.int y ky) (.ref gr) → h'.get? gr = some (grObj dg (.int (num + 1 : Nat) tn') (.ref gb) (.int y ky)) → h'.get? dg = some (dictOf [] 0) → s.heap.get? T = none → s.heap.get? gr = none → s.heap.get? dg = none → Q (.ref T) { s with heap := h', toks := tk' }) :
  wpAny (model PySem.Challenge.rw_kl0506_01.row.prog w) (kA dp un gd fr) (call (.ref 120) [.ref gb]) Q E s := by
  refine wpAny_call ?_
  k_dflt (refine' enterW H XB TB _ hW ?k6 ?k7 ?k8 ?k9 ?kB ?_ ?c2 ?c3 ?c4 ?c5; (case k6 => k_is); (case k7 => k_is); (case k8 => ktr_room); (case k9 => exact BindsTo.of_eq rfl); (case c5 => decide); (case kB => exact locs rfl); (case c2 => exact rfl); (case c3 => exact rfl); (case c4 => exact rfl); k_whole; intro g L' h' kp' bk' wl' F' N' B' X' T' D'; (try dsimp only); (try k_fold))
  have hgb : s.heap.get? gb = _ := (hW (gb, _) (by k_mem)).1
  have hdb : s.heap.get? db = _ := (hW (db, _) (by k_mem)).1
  have hit : s.heap.get? it = _ := (hW (it, _) (by k_mem)).1
  have hkf : s.heap.get? kf = _ := (hW (kf, _) (by k_mem)).1
  have hdk : s.heap.get? dk = _ := (hW (dk, _) (by k_mem)).1
  have htp : s.heap.get? tp = _ := (hW (tp, _) (by k_mem)).1
  have ht : s.heap.get? t = _ := (hW (t, _) (by k_mem)).1
  have hl : s.heap.get? l = _ := (hW (l, _) (by k_mem)).1
  have n_db := neO hdb hgb (by intro q; first | (cases q; done) | (injection q with q; revert q; decide))
  have n_it := neO hit hgb (by intro q; first | (cases q; done) | (injection q with q; revert q; decide))
  have n_kf := neO hkf hgb (by intro q; first | (cases q; done) | (injection q with q; revert q; decide))
  have n_dk := neO hdk hgb (by intro q; first | (cases q; done) | (injection q with q; revert q; decide))
  have n_tp := neO htp hgb (by intro q; first | (cases q; done) | (injection q with q; revert q; decide))
  have n_t := neO ht hgb (by intro q; first | (cases q; done) | (injection q with q; revert q; decide))
  have n_l := neO hl hgb (by intro q; first | (cases q; done) | (injection q with q; revert q; decide))
  have m_gb := neO hgb hit (by intro q; first | (cases q; done) | (injection q with q; revert q; decide))
  have m_db := neO hdb hit (by intro q; first | (cases q; done) | (injection q with q; revert q; decide))
  have m_kf := neO hkf hit (by intro q; first | (cases q; done) | (injection q with q; revert q; decide))
  have m_dk := neO hdk hit (by intro q; first | (cases q; done) | (injection q with q; revert q; decide))
  have m_tp := neO htp hit (by intro q; first | (cases q; done) | (injection q with q; revert q; decide))
  have m_t := neO ht hit (by intro q; first | (cases q; done) | (injection q with q; revert q; decide))
  have m_l := neO hl hit (by intro q; first | (cases q; done) | (injection q with q; revert q; decide))
  clear hgb hdb hit hkf hdk htp ht hl
  k_steps
  rename Fr _ _ _ _ => Fx
  rename News _ _ _ _ => Nx
  have kk := fin_keeps (V := [gb, it]) hW kp' Fx <| by
    repeat' (first | exact aN | refine aC ?_ ?_)
    · exact fun hn => absurd (.head _) hn
    · exact fun _ => (Nx _ (by k_mem)).1
    · exact fun hn => absurd (.tail _ (.head _)) hn
    · exact fun _ => (Nx _ (by k_mem)).1
    · exact fun _ => (Nx _ (by k_mem)).1
    · exact fun _ => (Nx _ (by k_mem)).1
    · exact fun _ => (Nx _ (by k_mem)).1
    · exact fun _ => (Nx _ (by k_mem)).1
  refine ret _ _ _ _ _ _ kk (Nx (gb, _) (by k_mem)).1 (Nx (it, _) (by k_mem)).1 (Nx _ (.head _)).1 (Nx _ (.tail _ (.head _))).1 (Nx (_, dictOf [] 0) (by k_mem)).1 (fresh_in kp' (Nx _ (.head _)).2.2 ?_) (fresh_in kp' (Nx _ (.tail _ (.head _))).2.2 ?_) (fresh_in kp' (Nx (_, dictOf [] 0) (by k_mem)).2.2 ?_)
  all_goals
    (repeat' (first | exact aN | refine aC ?_ ?_)) <;> (dsimp only; walk_at "lo")
end
end SGrpF
section SGrpG
open PySem PySem.W PyProof.Rows PySem.Calls PySem.Spec
theorem fresh_GrpG : True := by
  w_top off
  trivial
section
variable (w : World) {p : Program} {loose : List Str} {mean : ExcName → Option Value} {mg mb : Str → Option Value}
  (dp un : Nat) (gd : Option (List Code)) (fr : List Env) (base : Heap)
set_option maxRecDepth 100000 in
set_option maxHeartbeats 4000000 in
theorem gb_over (s : Shared) (Q E : Value → Shared → Prop)
  (H : Amid base fr s.heap) (XB : (Mine.hd.heap_39 w.params).In base) (TB : Top p loose mean mg mb base) (hd : dp + 6 < recursionLimit) (hu : un + 60 < cLine)
  {gb db it : Addr} {i : Nat} {cg kf se tk : Value}
  (hW : Loose base fr s.heap [(gb, gbObj db cg .none .none (.bool false) (.bool false) (.bool true) (.ref it) kf se tk), (db, dictOf [] 0), (it, liEnd i)])
  (ret : ∀ h' tk' e, KeepsS [gb] (fr.filterMap (·.frame)) s.heap h' → (∃ o, h'.get? e = some o ∧ o.cls = .type "StopIteration") → E (.ref e) { s with heap := h', toks := tk' }) :
  wpAny (model PySem.Challenge.rw_kl0506_01.row.prog w) (kA dp un gd fr) (call (.ref 120) [.ref gb]) Q E s := by
  refine wpAny_call ?_
  k_dflt (refine' enterW H XB TB _ hW ?k6 ?k7 ?k8 ?k9 ?kB ?_ ?c2 ?c3 ?c4 ?c5; (case k6 => k_is); (case k7 => k_is); (case k8 => ktr_room); (case k9 => exact BindsTo.of_eq rfl); (case c5 => decide); (case kB => exact locs rfl); (case c2 => exact rfl); (case c3 => exact rfl); (case c4 => exact rfl); k_whole; intro g L' h' kp' bk' wl' F' N' B' X' T' D'; (try dsimp only); (try k_fold))
  have hgb : s.heap.get? gb = _ := (hW (gb, _) (by k_mem)).1
  have hdb : s.heap.get? db = _ := (hW (db, _) (by k_mem)).1
  have hit : s.heap.get? it = _ := (hW (it, _) (by k_mem)).1
  have n_db := neO hdb hgb (by intro q; first | (cases q; done) | (injection q with q; revert q; decide))
  have n_it := neO hit hgb (by intro q; first | (cases q; done) | (injection q with q; revert q; decide))
  clear hgb hdb hit
  k_steps
  rename RaisedS _ _ _ _ _ _ _ _ _ => Rx
  rename Heap.UpToSlots _ _ => Ux
  rename KtsTurn _ _ _ => Tx
  refine (fun hh => ?_) (fin_raised (V := [gb]) hW kp' Tx Rx Ux H ?_)
  · obtain ⟨r1, r2, r3⟩ := hh
    exact ret _ _ _ r1 r3
  repeat' (first | exact aN | refine aC ?_ ?_)
  · exact fun hn => absurd (.head _) hn
  · intro _; k_mem
  · intro _; k_mem
end
end SGrpG
section SGrpI
open PySem PySem.W PyProof.Rows PySem.Calls PySem.Spec
local macro_rules | `(tactic| walk_at "no line") => `(tactic| fail "no line")
theorem fresh_GrpI : True := by
  w_top off
  trivial
section
variable (w : World) {p : Program} {loose : List Str} {mean : ExcName → Option Value} {mg mb : Str → Option Value}
  (dp un : Nat) (gd : Option (List Code)) (fr : List Env) (base : Heap)

set_option maxRecDepth 100000 in
set_option maxHeartbeats 4000000 in
theorem grp_iter_c (s : Shared) (Q E : Value → Shared → Prop)
  (H : Amid base fr s.heap) (XB : (Mine.hd.heap_39 w.params).In base) (TB : Top p loose mean mg mb base) (hd : dp + 2 < recursionLimit) (hu : un + 20 < cLine) {x : Addr}
  (ret : ∀ h' tk', Keeps [] s.heap h' → Q (.ref x) { s with heap := h', toks := tk' }) :
  wpAny (model PySem.Challenge.rw_kl0506_01.row.prog w) (kA dp un gd fr) (call (.ref 158) [.ref x]) Q E s := by
  refine wpAny_call ?_
  k_dflt (refine' enterP H XB TB ?k6 ?k7 ?k8 ?k9 ?kB ?_ ?c2 ?c3 ?c4 ?c5; (case k6 => k_is); (case k7 => k_is); (case k8 => ktr_room); (case k9 => exact BindsTo.of_eq rfl); (case c5 => decide); (case kB => exact locs rfl); (case c2 => exact rfl); (case c3 => exact rfl); (case c4 => exact rfl); k_whole; intro L' h' F' N' B' X' T' D'; (try dsimp only); (try k_fold))
  k_steps
  rename Fr _ _ _ _ => Fx
  refine ret _ _ fun b o e _ => Fx.keep b o e

set_option maxRecDepth 100000 in
set_option maxHeartbeats 4000000 in
theorem gb_iter_c (s : Shared) (Q E : Value → Shared → Prop)
  (H : Amid base fr s.heap) (XB : (Mine.hd.heap_39 w.params).In base) (TB : Top p loose mean mg mb base) (hd : dp + 2 < recursionLimit) (hu : un + 20 < cLine) {x : Addr}
  (ret : ∀ h' tk', Keeps [] s.heap h' → Q (.ref x) { s with heap := h', toks := tk' }) :
  wpAny (model PySem.Challenge.rw_kl0506_01.row.prog w) (kA dp un gd fr) (call (.ref 106) [.ref x]) Q E s := by
  refine wpAny_call ?_
  k_dflt (refine' enterP H XB TB ?k6 ?k7 ?k8 ?k9 ?kB ?_ ?c2 ?c3 ?c4 ?c5; (case k6 => k_is); (case k7 => k_is); (case k8 => ktr_room); (case k9 => exact BindsTo.of_eq rfl); (case c5 => decide); (case kB => exact locs rfl); (case c2 => exact rfl); (case c3 => exact rfl); (case c4 => exact rfl); k_whole; intro L' h' F' N' B' X' T' D'; (try dsimp only); (try k_fold))
  k_steps
  rename Fr _ _ _ _ => Fx
  refine ret _ _ fun b o e _ => Fx.keep b o e

set_option maxRecDepth 100000 in
set_option maxHeartbeats 4000000 in
theorem count_iter_c (s : Shared) (Q E : Value → Shared → Prop)
  (H : Amid base fr s.heap) (XB : (Mine.hd.heap_39 w.params).In base) (TB : Top p loose mean mg mb base) (hd : dp + 2 < recursionLimit) (hu : un + 20 < cLine) {x : Addr}
  (ret : ∀ h' tk', Keeps [] s.heap h' → Q (.ref x) { s with heap := h', toks := tk' }) :
  wpAny (model PySem.Challenge.rw_kl0506_01.row.prog w) (kA dp un gd fr) (call (.ref 204) [.ref x]) Q E s := by
  refine wpAny_call ?_
  k_dflt (refine' enterP H XB TB ?k6 ?k7 ?k8 ?k9 ?kB ?_ ?c2 ?c3 ?c4 ?c5; (case k6 => k_is); (case k7 => k_is); (case k8 => ktr_room); (case k9 => exact BindsTo.of_eq rfl); (case c5 => decide); (case kB => exact locs rfl); (case c2 => exact rfl); (case c3 => exact rfl); (case c4 => exact rfl); k_whole; intro L' h' F' N' B' X' T' D'; (try dsimp only); (try k_fold))
  k_steps
  rename Fr _ _ _ _ => Fx
  refine ret _ _ fun b o e _ => Fx.keep b o e
end
set_option maxRecDepth 100000 in
theorem grp_names (P : Params) : findIn (Mine.hd.heap_39 P) (.ref 169) "__len__" = some none ∧ findIn (Mine.hd.heap_39 P) (.ref 169) "__length_hint__" = some none ∧ findIn (Mine.hd.heap_39 P) (.ref 169) "__iter__" = some (some (.ref 158)) ∧ findIn (Mine.hd.heap_39 P) (.ref 169) "__next__" = some (some (.ref 165)) ∧
    isFn (Mine.hd.heap_39 P) (.ref 158) = true ∧ isFn (Mine.hd.heap_39 P) (.ref 165) = true := ⟨by k_is, by k_is, by k_is, by k_is, by k_is, by k_is⟩
set_option maxRecDepth 100000 in
theorem gb_names (P : Params) : findIn (Mine.hd.heap_39 P) (.ref 124) "__iter__" = some (some (.ref 106)) ∧ findIn (Mine.hd.heap_39 P) (.ref 124) "__next__" = some (some (.ref 120)) ∧ isFn (Mine.hd.heap_39 P) (.ref 106) = true ∧ isFn (Mine.hd.heap_39 P) (.ref 120) = true := ⟨by k_is, by k_is, by k_is, by k_is⟩
set_option maxRecDepth 100000 in
theorem count_names (P : Params) : findIn (Mine.hd.heap_39 P) (.ref 222) "__iter__" = some (some (.ref 204)) ∧ findIn (Mine.hd.heap_39 P) (.ref 222) "__next__" = some (some (.ref 211)) ∧ isFn (Mine.hd.heap_39 P) (.ref 204) = true := ⟨by k_is, by k_is, by k_is⟩
end SGrpI
section SGrpH
open PySem PySem.W PyProof.Rows PySem.Calls PySem.Spec
set_option maxRecDepth 100000
/-- what stands still while the groups of a list of pairs are taken -/
structure GStat (h : Heap) (n : Nat) (db kf dk tp l : Addr) (tz : Tok) (lc : Nat) (a : Nat → Addr) (X : Nat → Int) (Kt : Nat → Tok) (b : Nat → Value) (items : Array Value) : Prop where
  hdb : h.get? db = some (dictOf [] 0)
  hkf : h.get? kf = some (igObj dk tp)
  hdk : h.get? dk = some (dictOf [] 0)
  htp : h.get? tp = some (tupO #[.int 0 tz])
  hl : h.get? l = some (seqObj "list" items lc)
  hi : ∀ i < n, items[i]? = some (.ref (a i))
  hp : ∀ i < n, h.get? (a i) = some (tupO #[.int (X i) (Kt i), b i])
  hn : items[n]? = none
noncomputable def Off (base : Heap) (fr : List Env) (a : Addr) : Prop := base.get? a = none ∧ a ∉ fr.filterMap (·.frame)
noncomputable abbrev gbOpen (db it kf : Addr) (k : Nat) (tn : Tok) (a : Nat → Addr) (X : Nat → Int) (Kt : Nat → Tok) : Obj :=
  gbObj db (.int (k + 1 : Nat) tn) (.int (X k) (Kt k)) (.ref (a k)) (.bool true) (.bool true) (.bool true) (.ref it) (.ref kf) (.int (k + 1 : Nat) tn) (.int (X k) (Kt k))
noncomputable abbrev gbTaken (db it kf : Addr) (k : Nat) (tn : Tok) (X : Nat → Int) (Kt : Nat → Tok) : Obj :=
  gbObj db (.int (k + 1 : Nat) tn) .none .none (.bool false) (.bool false) (.bool true) (.ref it) (.ref kf) (.int (k + 1 : Nat) tn) (.int (X k) (Kt k))
noncomputable abbrev gbNext (db it kf : Addr) (k : Nat) (tn : Tok) (a : Nat → Addr) (X : Nat → Int) (Kt : Nat → Tok) : Obj :=
  gbObj db (.int (k + 1 : Nat) tn) (.int (X (k + 1)) (Kt (k + 1))) (.ref (a (k + 1))) (.bool true) (.bool true) (.bool true) (.ref it) (.ref kf) (.int (k + 1 : Nat) tn) (.int (X k) (Kt k))
/-- after the group k was taken whole -/
noncomputable def GAfter (h : Heap) (n k : Nat) (gb db it kf l : Addr) (a : Nat → Addr) (X : Nat → Int) (Kt : Nat → Tok) : Prop :=
  ∃ tn, (k + 1 < n ∧ h.get? gb = some (gbNext db it kf k tn a X Kt) ∧ h.get? it = some (liObj l (k + 2))) ∨ (k + 1 = n ∧ h.get? gb = some (gbTaken db it kf k tn X Kt) ∧ h.get? it = some (liEnd n))

inductive GSt (s : Shared) (gb db it kf : Addr) (k : Nat) (tn : Tok) (a : Nat → Addr) (X : Nat → Int) (Kt : Nat → Tok) (acc : List Value) (s₁ : Shared) : Prop
  | mk (h : Heap) (tk : Nat) (e : s₁ = { s with heap := h, toks := tk }) (kp : Keeps [gb] s.heap h) (hh : ((acc = [] ∧ h.get? gb = some (gbOpen db it kf k tn a X Kt)) ∨ (acc = [.ref (a k)] ∧ h.get? gb = some (gbTaken db it kf k tn X Kt)))) : GSt s gb db it kf k tn a X Kt acc s₁
inductive GFin (fr : List Env) (s : Shared) (n k : Nat) (gb db it kf l : Addr) (a : Nat → Addr) (X : Nat → Int) (Kt : Nat → Tok) (acc : List Value) (s₁ : Shared) : Prop
  | mk (h : Heap) (tk : Nat) (e : s₁ = { s with heap := h, toks := tk }) (kp : KeepsS [gb, it] (fr.filterMap (·.frame)) s.heap h) (ea : acc = [.ref (a k)]) (ga : GAfter h n k gb db it kf l a X Kt) : GFin fr s n k gb db it kf l a X Kt acc s₁
section
variable (w : World) {p : Program} {loose : List Str} {mean : ExcName → Option Value} {mg mb : Str → Option Value}
  (dp un : Nat) (gd : Option (List Code)) (fr : List Env) (base : Heap)
theorem stop_pass {M : Model} {A : Around} {E : Value → Shared → Prop} {s : Shared} {e : Addr} {Q : Option Value → Shared → Prop} (he : ∃ o, s.heap.get? e = some o ∧ o.cls = .type "StopIteration") (h : Q none s) : OwitStop M A Q E (.ref e) s := by
  unfold OwitStop
  refine wpAny_isInstance (T := "StopIteration") (b := true) he isSubtype_stop ?_
  exact h
theorem off_amid {h h' : Heap} {W : List Addr} (H : Amid base fr h) (k : Keeps W h h') (hW : ∀ q ∈ W, Off base fr q) : Amid base fr h' := H.keeps k hW

set_option maxHeartbeats 4000000 in
theorem group_pulls (s : Shared) (H : Amid base fr s.heap) (XB : (Mine.hd.heap_39 w.params).In base) (TB : Top p loose mean mg mb base) (hd : dp + 6 < recursionLimit) (hu : un + 60 < cLine)
  {gr dg gb db it kf dk tp l : Addr} {tz tn : Tok} {n k lc : Nat} {a : Nat → Addr} {X : Nat → Int} {Kt : Nat → Tok} {b : Nat → Value} {items : Array Value} (hk : k < n)
  (G : GStat s.heap n db kf dk tp l tz lc a X Kt b items)
  (hgr : s.heap.get? gr = some (grObj dg (.int (k + 1 : Nat) tn) (.ref gb) (.int (X k) (Kt k)))) (hdg : s.heap.get? dg = some (dictOf [] 0)) (hgb : s.heap.get? gb = some (gbOpen db it kf k tn a X Kt)) (hit : s.heap.get? it = some (liObj l (k + 1)))
  (hO : ∀ q ∈ [gr, dg, gb, db, it, kf, dk, tp, l], Off base fr q) (hOa : ∀ i < n, Off base fr (a i)) (hK : ∀ i < n, Kt i ≠ 0) (hKd : ∀ i, i + 1 < n → Kt i ≠ Kt (i + 1) ∧ X i ≠ X (i + 1)) :
  Pulls PySem.Challenge.rw_kl0506_01.row.prog w (kA dp un gd fr) gr s.heap.objs.size 1 (.ref 169)
    (GSt s gb db it kf k tn a X Kt) (GFin fr s n k gb db it kf l a X Kt) := by
  have hgrgb := neO hgr hgb (by intro q; first | (cases q; done) | (injection q with q; revert q; decide))
  have hdggb := neO hdg hgb (by intro q; first | (cases q; done) | (injection q with q; revert q; decide))
  have hitgb := neO hit hgb (by intro q; first | (cases q; done) | (injection q with q; revert q; decide))
  have hdbgb := neO G.hdb hgb (by intro q; first | (cases q; done) | (injection q with q; revert q; decide))
  have hkfgb := neO G.hkf hgb (by intro q; first | (cases q; done) | (injection q with q; revert q; decide))
  have hdkgb := neO G.hdk hgb (by intro q; first | (cases q; done) | (injection q with q; revert q; decide))
  have htpgb := neO G.htp hgb (by intro q; first | (cases q; done) | (injection q with q; revert q; decide))
  have hlgb := neO G.hl hgb (by intro q; first | (cases q; done) | (injection q with q; revert q; decide))
  have hagb : ∀ i < n, (@Ne Nat (a i) gb) := fun i hi => neO (G.hp i hi) hgb (by intro q; first | (cases q; done) | (injection q with q; revert q; decide))
  have hgO := hO gb (by k_mem)
  have inst : ∀ h, Keeps [gb] s.heap h → InstAt h gr (grObj dg (.int (k + 1 : Nat) tn) (.ref gb) (.int (X k) (Kt k))) 169 (some (dictOf [] 0)) := fun h kp =>
    ⟨kp _ _ hgr (by simpa using hgrgb), rfl, rfl, kp _ _ hdg (by simpa using hdggb)⟩
  have xin : ∀ h, Keeps [gb] s.heap h → (Mine.hd.heap_39 w.params).In h := fun h kp => XB.keeps (off_amid fr base H kp (by simpa using hgO)).stays
  have hSf : s.heap.objs.size ∉ fr.filterMap (·.frame) := fun m => by
    obtain ⟨o, es, c, e, _⟩ := H.dicts _ m
    exact Nat.lt_irrefl _ (Heap.lt_size e)
  have hSgb : s.heap.objs.size ≠ gb := fun q => Nat.lt_irrefl _ (q ▸ Heap.lt_size hgb)
  have hSit : s.heap.objs.size ≠ it := fun q => Nat.lt_irrefl _ (q ▸ Heap.lt_size hit)
  obtain ⟨m1, m2, m3, m4, m5, m6⟩ := grp_names w.params
  refine ⟨by decide, by decide, ?_, ?_, ?_, ?_, ?_, ?_, ?_⟩
  · intro acc s₁ h' hz; obtain ⟨h, tk, rfl, kp, hh⟩ := hz; rintro x
    refine ⟨h', tk, rfl, fun q o e nq => (x.2 q (Nat.ne_of_lt (Heap.lt_size e))).trans (kp q o e nq), ?_⟩
    rw [x.2 gb (Ne.symm hSgb)]
    exact hh
  · intro s₁ Q E hz; obtain ⟨h, tk, rfl, kp, _⟩ := hz; rintro hq
    exact (inst h kp).type.here hq
  · intro s₁ Q E hz; obtain ⟨h, tk, rfl, kp, _⟩ := hz; rintro hq
    exact wpAny_bind ((inst h kp).type.here ((looks_findIn (xin h kp) m1).here hq))
  · intro s₁ Q E hz; obtain ⟨h, tk, rfl, kp, _⟩ := hz; rintro hq
    exact wpAny_bind ((inst h kp).type.here ((looks_findIn (xin h kp) m2).here hq))
  · intro s₁ E hz; obtain ⟨h, tk, rfl, kp, hh⟩ := hz
    refine own_iter (xin h kp) (inst h kp) m3 m5 m4 (grp_iter_c w dp un gd fr base { s with heap := h, toks := tk } _ _ (off_amid fr base H kp (by simpa using hgO)) XB TB (by walk_at "lo") (by walk_at "lo") fun h' tk' k' => ?_)
    have kp' : Keeps [gb] s.heap h' := kp.trans (k'.mono (by simp))
    refine ⟨rfl, xin h' kp', inst h' kp', rfl, ⟨h', tk', rfl, kp', ?_⟩, fun o e => k' _ _ e (by simp)⟩
    rcases hh with ⟨q, e⟩ | ⟨q, e⟩
    · exact .inl ⟨q, k' _ _ e (by simp)⟩
    · exact .inr ⟨q, k' _ _ e (by simp)⟩
  · intro acc s₁ E hlt hz; obtain ⟨h, tk, rfl, kp, hh⟩ := hz; rintro ⟨oS, hoS⟩
    rcases hh with ⟨rfl, e⟩ | ⟨rfl, e⟩
    · have g1 : ∀ q o, (@Ne Nat q gb) → s.heap.get? q = some o → h.get? q = some o := fun q o ne e => kp q o e (by simpa using ne)
      refine own_next (xin h kp) (inst h kp) m4 m6 (grp_item w dp un gd fr base { s with heap := h, toks := tk } _ _ (off_amid fr base H kp (by simpa using hgO)) XB TB (by walk_at "lo") (by walk_at "lo") (gr := gr) (dg := dg) (gb := gb) (db := db) (it := it) (num := k + 1) (kt := Kt k) (tn := tn) (tn' := tn) (x := X k) (t := a k) (kf := .ref kf)
        ?_ (hK k hk) fun h' tk' k' e' => ?_)
      · repeat' (first | exact aN | refine aC ?_ ?_)
        · exact ⟨g1 _ _ hgrgb hgr, hO _ (by k_mem)⟩
        · exact ⟨g1 _ _ hdggb hdg, hO _ (by k_mem)⟩
        · exact ⟨e, hO _ (by k_mem)⟩
        · exact ⟨g1 _ _ hdbgb G.hdb, hO _ (by k_mem)⟩
      · exact ⟨_, rfl, ⟨h', tk', rfl, kp.trans k', .inr ⟨rfl, e'⟩⟩, fun o e => k' _ _ e (by simpa using hSgb)⟩
    · simp at hlt
  · intro acc s₁ E hlt hz; obtain ⟨h, tk, rfl, kp, hh⟩ := hz; rintro ⟨oS, hoS⟩
    rcases hh with ⟨rfl, e⟩ | ⟨rfl, e⟩
    · simp at hlt
    have g1 : ∀ q o, (@Ne Nat q gb) → s.heap.get? q = some o → h.get? q = some o := fun q o ne e => kp q o e (by simpa using ne)
    by_cases hk1 : k + 1 < n
    · refine own_next (xin h kp) (inst h kp) m4 m6 (grp_more w dp un gd fr base { s with heap := h, toks := tk } _ _ (off_amid fr base H kp (by simpa using hgO)) XB TB (by walk_at "lo") (by walk_at "lo") (gr := gr) (dg := dg) (gb := gb) (db := db) (it := it) (l := l) (kf := kf) (dk := dk) (tp := tp) (t := a (k + 1)) (num := k + 1) (i := k + 1) (kt := Kt k) (ky := Kt (k + 1)) (tn := tn) (tn' := tn) (tz := tz) (x := X k) (y := X (k + 1)) (b := b (k + 1)) (items := items) (lc := lc)
        ?_ (G.hi _ hk1) (hK k hk) (hK _ hk1) (hKd k hk1).1 (hKd k hk1).2 fun h' tk' e k' e' e2 e3 => stop_pass e3 ?_)
      · repeat' (first | exact aN | refine aC ?_ ?_)
        · exact ⟨g1 _ _ hgrgb hgr, hO _ (by k_mem)⟩
        · exact ⟨g1 _ _ hdggb hdg, hO _ (by k_mem)⟩
        · exact ⟨e, hO _ (by k_mem)⟩
        · exact ⟨g1 _ _ hdbgb G.hdb, hO _ (by k_mem)⟩
        · exact ⟨g1 _ _ hitgb hit, hO _ (by k_mem)⟩
        · exact ⟨g1 _ _ hkfgb G.hkf, hO _ (by k_mem)⟩
        · exact ⟨g1 _ _ hdkgb G.hdk, hO _ (by k_mem)⟩
        · exact ⟨g1 _ _ htpgb G.htp, hO _ (by k_mem)⟩
        · exact ⟨g1 _ _ (hagb _ hk1) (G.hp _ hk1), hOa _ hk1⟩
        · exact ⟨g1 _ _ hlgb G.hl, hO _ (by k_mem)⟩
      · refine ⟨rfl, ⟨h', tk', rfl, (kp.toS.mono (by simp)).trans k', rfl, tn, .inl ⟨hk1, e', e2⟩⟩, fun o e => k'.same _ _ e (by simpa using ⟨hSgb, hSit⟩) hSf⟩
    · have hkn : k + 1 = n := by walk_at "lo"
      refine own_next (xin h kp) (inst h kp) m4 m6 (grp_last w dp un gd fr base { s with heap := h, toks := tk } _ _ (off_amid fr base H kp (by simpa using hgO)) XB TB (by walk_at "lo") (by walk_at "lo") (gr := gr) (dg := dg) (gb := gb) (db := db) (it := it) (l := l) (kf := kf) (dk := dk) (tp := tp) (num := k + 1) (i := k + 1) (kt := Kt k) (tn := tn) (tn' := tn) (tz := tz) (x := X k) (items := items) (lc := lc)
        ?_ (by rw [hkn]; exact G.hn) fun h' tk' e1 k' e2 e3 => stop_pass e3 ?_)
      · repeat' (first | exact aN | refine aC ?_ ?_)
        · exact ⟨g1 _ _ hgrgb hgr, hO _ (by k_mem)⟩
        · exact ⟨g1 _ _ hdggb hdg, hO _ (by k_mem)⟩
        · exact ⟨e, hO _ (by k_mem)⟩
        · exact ⟨g1 _ _ hdbgb G.hdb, hO _ (by k_mem)⟩
        · exact ⟨g1 _ _ hitgb hit, hO _ (by k_mem)⟩
        · exact ⟨g1 _ _ hkfgb G.hkf, hO _ (by k_mem)⟩
        · exact ⟨g1 _ _ hdkgb G.hdk, hO _ (by k_mem)⟩
        · exact ⟨g1 _ _ htpgb G.htp, hO _ (by k_mem)⟩
        · exact ⟨g1 _ _ hlgb G.hl, hO _ (by k_mem)⟩
      · refine ⟨rfl, ⟨h', tk', rfl, (kp.toS.mono (by simp)).trans (k'.mono (by simp)), rfl, tn, .inr ⟨hkn, k'.same _ _ e (by simpa using (Ne.symm hitgb)) hgO.2, hkn ▸ e2⟩⟩, fun o e => k'.same _ _ e (by simpa using hSit) hSf⟩

/-- list(g) of a group of one -/
theorem group_list (s : Shared) (Q E : Value → Shared → Prop) (H : Amid base fr s.heap) (XB : (Mine.hd.heap_39 w.params).In base) (TB : Top p loose mean mg mb base) (hd : dp + 6 < recursionLimit) (hu : un + 70 < cLine)
  {gr dg gb db it kf dk tp l : Addr} {tz tn : Tok} {n k lc : Nat} {a : Nat → Addr} {X : Nat → Int} {Kt : Nat → Tok} {b : Nat → Value} {items : Array Value} (hk : k < n)
  (G : GStat s.heap n db kf dk tp l tz lc a X Kt b items)
  (hgr : s.heap.get? gr = some (grObj dg (.int (k + 1 : Nat) tn) (.ref gb) (.int (X k) (Kt k)))) (hdg : s.heap.get? dg = some (dictOf [] 0)) (hgb : s.heap.get? gb = some (gbOpen db it kf k tn a X Kt)) (hit : s.heap.get? it = some (liObj l (k + 1)))
  (hO : ∀ q ∈ [gr, dg, gb, db, it, kf, dk, tp, l], Off base fr q) (hOa : ∀ i < n, Off base fr (a i)) (hK : ∀ i < n, Kt i ≠ 0) (hKd : ∀ i, i + 1 < n → Kt i ≠ Kt (i + 1) ∧ X i ≠ X (i + 1))
  (ret : ∀ S c h' tk', KeepsS [gb, it] (fr.filterMap (·.frame)) s.heap h' → h'.get? S = some (seqL [.ref (a k)] c) → s.heap.get? S = none → GAfter h' n k gb db it kf l a X Kt → Q (.ref S) { s with heap := h', toks := tk' }) :
  wpAny (model PySem.Challenge.rw_kl0506_01.row.prog w) (kA dp un gd fr) (call (.type "list") [.ref gr]) Q E s := by
  refine pulls_list (group_pulls w dp (un + 2) gd fr base s H XB TB hd (by walk_at "lo") hk G hgr hdg hgb hit hO hOa hK hKd) (by rw [sizeLine_eq]; walk_at "lo") (fun q => Nat.lt_irrefl _ (q ▸ Heap.lt_size hgr)) ⟨_, s.toks, rfl, fun q o e _ => Heap.get?_push_of_some _ e, .inl ⟨rfl, Heap.get?_push_of_some _ hgb⟩⟩ fun acc s' c' _ hf hS => ?_
  obtain ⟨h, tk, rfl, k', rfl, ga⟩ := hf
  exact ret _ c' h tk k' hS (Heap.get?_none_of_le (Nat.le_refl _)) ga
end
end SGrpH
section SRkA
open PySem PySem.W PyProof.Rows PySem.Calls PySem.Spec
set_option maxRecDepth 100000
noncomputable def BindsOf (K : Frag) (f : Addr) (args : Args) (binds : List (Str × Value)) : Prop := ∀ oc od osl fd, K.lookup f = some ⟨oc, od, .func fd, osl⟩ → ∀ S, peek K S (bindArgs fd args) = some binds
theorem Fr.as {g h : Heap} {L : Addr} {m m' : Str → Option Value} (F : Fr g L h m) (e : ∀ y, m y = m' y) : Fr g L h m' := (funext e : m = m') ▸ F
theorem lookup_as {x : Str} {v : Value} {m : Str → Option Value} (h : m x = some v) : ∀ y, m y = (if y = x then some v else m y) := fun y => by
  split
  · rename_i e; rw [e, h]
  · rfl
theorem Fr.ofKeeps {W : List Addr} {g h h' : Heap} {L : Addr} {m : Str → Option Value} (F : Fr g L h m) (k : Keeps W h h') (hL : L ∉ W) (hW : ∀ b ∈ W, g.get? b = none) : Fr g L h' m :=
  ⟨F.ns.at' fun o e => k _ o e hL, fun b o e => k b o (F.keep b o e) (fun q => by rw [hW b q] at e; cases e), F.above⟩
theorem News.ofKeeps {W : List Addr} {g h h' : Heap} {L : Addr} {news : List (Addr × Obj)} (N : News g L h news) (k : Keeps W h h') (hn : ∀ p ∈ news, p.1 ∉ W) : News g L h' news :=
  fun p hp => ⟨k _ _ (N p hp).1 (hn p hp), (N p hp).2⟩
theorem fresh0 {g h : Heap} (k : ∀ b o, g.get? b = some o → h.get? b = some o) {b : Addr} (e : h.get? b = none) : g.get? b = none := kts_none k e
theorem off_push {base g : Heap} {fr : List Env} {env : Env} {L b : Addr} (H : Amid base fr g) (hf : env.frame = some L) (hg : g.get? b = none) (hL : (@Ne Nat b L)) : Off base (env :: fr) b := by
  refine ⟨?_, fun m => ?_⟩
  · cases e : base.get? b with
    | none => rfl
    | some o => have := H.stays b o e; rw [hg] at this; cases this
  · obtain ⟨e, he, hfe⟩ := List.mem_filterMap.mp m
    rcases List.mem_cons.mp he with rfl | he
    · rw [hf] at hfe; cases hfe; exact hL rfl
    · obtain ⟨o, es, n, ho, _⟩ := H.dicts b (List.mem_filterMap.mpr ⟨e, he, hfe⟩)
      rw [hg] at ho; cases ho
theorem count_self (w : World) {p : Program} {loose : List Str} {mean : ExcName → Option Value} {mg mb : Str → Option Value}
  (dp un : Nat) (gd : Option (List Code)) (fr : List Env) (base : Heap) (s : Shared) (H : Amid base fr s.heap) (XB : (Mine.hd.heap_39 w.params).In base) (TB : Top p loose mean mg mb base) (hd : dp + 2 < recursionLimit) (hu : un + 20 < cLine)
  {c d : Addr} {v : Int} {tv ts : Tok} {f : Bool} (hc : s.heap.get? c = some (cntObj d v tv f ts)) (hdd : s.heap.get? d = some (dictOf [] 0)) (g : Obj) :
  ItsSelf PySem.Challenge.rw_kl0506_01.row.prog w (kA dp un gd fr) c { s with heap := s.heap.push g } := by
  intro Q E hQ
  obtain ⟨m1, m2, m3⟩ := count_names w.params
  have k0 : Keeps [] s.heap (s.heap.push g) := fun b o e _ => Heap.get?_push_of_some _ e
  have H0 : Amid base fr (s.heap.push g) := H.keeps k0 (by simp)
  have inst : ∀ h, Keeps [] s.heap h → InstAt h c (cntObj d v tv f ts) 222 (some (dictOf [] 0)) := fun h k => ⟨k _ _ hc (by simp), rfl, rfl, k _ _ hdd (by simp)⟩
  refine own_iter (XB.keeps H0.stays) (inst _ k0) m1 m3 m2 (count_iter_c w dp un gd fr base { s with heap := s.heap.push g } _ _ H0 XB TB hd hu fun h' tk' k' => ?_)
  exact ⟨rfl, XB.keeps (H0.keeps k' (by simp)).stays, inst _ (k0.trans k'), hQ _ _ k'⟩
theorem ne_list {h : Heap} {l c : Addr} {oc : Obj} (hl : ∃ o, h.get? l = some o ∧ o.cls = .type "list") (hc : h.get? c = some oc) (hne : oc.cls ≠ .type "list") : (@Ne Nat l c) := fun q => by
  obtain ⟨o, ho, hcl⟩ := hl
  subst q
  rw [ho] at hc
  cases hc
  exact hne hcl
theorem rep_flat (k : Nat) (v : Value) : (List.replicate ((k : Int)).toNat [v]).flatten = List.replicate k v := by simp
noncomputable abbrev prP (σ : List Nat) (as : Nat → Addr) (X : Nat → Int) (Tk tj : Nat → Tok) : List (Addr × Obj) := σ.map fun i => (as i, tupO #[.int (X i) (Tk i), .int i (tj i)])
/-- all that sorted() leaves in the frame of the call -/
theorem rank_ledger {g h2 h3 : Heap} {L z TO i1 c Dd : Addr} {m : Str → Option Value} {n c' : Nat} {σ : List Nat} {as : Nat → Addr} {X : Nat → Int} {Tk tj : Nat → Tok} (F2 : Fr g L h2 m) (k3 : Keeps [z, TO, i1, c] h2 h3)
    (hL : ∀ b ∈ [z, TO, i1, c], (@Ne Nat b L)) (hg : ∀ b ∈ [z, TO, i1, c], g.get? b = none)
    (hD : h3.get? Dd = some (seqObj "list" (List.toArray (σ.map fun i => Value.ref (as i))) c')) (hP : ∀ i < n, IsPair h3 (as i) (.int (X i) (Tk i)) (.int i (tj i))) (hσ : σ.Perm (List.range n)) (fD : h2.get? Dd = none) (fas : ∀ i < n, h2.get? (as i) = none ∧ as i ≠ Dd) :
    Fr g L h3 m ∧ News g L h3 ((Dd, seqObj "list" (List.toArray (σ.map fun i => Value.ref (as i))) c') :: prP σ as X Tk tj) := by
  obtain ⟨oL, _, _, hoL, _⟩ := F2.ns
  have nL : ∀ b, h2.get? b = none → b ≠ L := fun b e q => by rw [q, hoL] at e; cases e
  refine ⟨Fr.ofKeeps F2 k3 (fun m => hL _ m rfl) hg, fun p hp => ?_⟩
  rcases List.mem_cons.mp hp with rfl | hp
  · exact ⟨hD, nL _ fD, kts_none F2.keep fD⟩
  · obtain ⟨i, hi, rfl⟩ := List.mem_map.mp hp
    have hin : i < n := by simpa using hσ.mem_iff.mp hi
    exact ⟨hP i hin, nL _ (fas i hin).1, kts_none F2.keep (fas i hin).1⟩
end SRkA
open PySem PySem.W PyProof.Rows PySem.Calls PySem.Spec
set_option maxRecDepth 100000
theorem tail_ne {P : List (Addr × Obj)} {B d : Nat} (h : ∀ p ∈ P, (@LT.lt Nat _ p.1 B)) (hd : B ≤ d) : ∀ p ∈ P, p.1 ≠ d := fun p hp q => by
  have := h p hp
  rw [q] at this
  exact Nat.lt_irrefl _ (Nat.lt_of_lt_of_le this hd)
local macro_rules | `(tactic| k_all) => `(tactic| (refine' Mine.tail_ne ?h ?d; (case h => assumption); (case d => (first | exact Nat.le_refl _ | omega))))
section
variable {prog : Program} {w : World} {A : Around} {E : Value → Shared → Prop} {s : Shared} {env : Env}
/-- what is left of a loop over an iterator of the text's own -/
noncomputable def TRest (prog : Program) (w : World) (A : Around) (E : Value → Shared → Prop) (env : Env) (target : Expr) (body : List Stmt) (Q : Flow → Shared → Prop) (I : Addr) : Nat → Shared → Prop
  | 0, _ => False
  | n + 1, s => wpAny (model prog w) A (pyNext (.ref I)) (fun r s₁ => match r with
    | none => Q .next s₁
    | some y => wpAny (model prog w) A (letOwnedTupleGo target (.ref I) y) (fun _ s₁' => wpAny (model prog w) A (assign target env y) (fun _ s₂ => wpAny (model prog w) A (execs body env) (fun f s₃ => match f with
      | .next => TRest prog w A E env target body Q I n s₃
      | .cont => TRest prog w A E env target body Q I n s₃
      | .brk => Q .next s₃
      | .ret v => Q (.ret v) s₃) E s₂) E s₁') E s₁) E s
theorem letGo_inst {elts : List Expr} {x1 : Nat} {pos : Pos} {I T C : Addr} {o : Obj} {Q : Unit → Shared → Prop} (ho : s.heap.get? I = some o) (hc : o.cls = .ref C) (hQ : Q () s) :
    wpAny (model prog w) A (letOwnedTupleGo (.Tuple elts x1 pos) (.ref I) (.ref T)) Q E s := by
  unfold letOwnedTupleGo
  refine wpAny_bind (wpAny_load ho ?_)
  rw [hc]
  exact wpAny_pure hQ
theorem t_for {target iter : Expr} {body : List Stmt} {pos : Pos} {Q : Flow → Shared → Prop}
    (h : wpAny (model prog w) A (eval iter env) (fun xv s₁ => wpAny (model prog w) A (pyIter xv) (fun it s₂ => ∃ I n, it = .ref I ∧ TRest prog w A E env target body Q I n s₂) E s₁) E s)
    (hs : ∀ x, foldedSetIterable iter env x = pure x := by intro _; rfl) (hE : PassesOwn (model prog w) A env E := by passes_own) :
    wpAny (model prog w) A (exec (.For target iter body [] pos) env) Q E s := by
  refine wpAny_For (wpAny_mono h (fun xv s₁ h₁ => wpAny_mono h₁ (fun it s₂ h₂ => ?_) fun _ _ z => z) fun _ _ z => z) hs
  obtain ⟨I, n, rfl, h₂⟩ := h₂
  refine codeAny_forLoop_any (R := fun r s' => match r with | .ok f => Q f s' | .error e => cameBackBy (model prog w) A env E e s') (fun k s' => TRest prog w A E env target body Q I k s') ?_ n h₂
  intro k s' hk
  cases k with
  | zero => exact hk.elim
  | succ k =>
    refine wpAny_passesOwn hE (wpAny_mono (hk : wpAny (model prog w) A (pyNext (.ref I)) _ E s') (fun r s₁ hr => ?_) fun _ _ z => z)
    cases r with
    | none => exact wpAny_execs_nil hr
    | some y =>
      refine wpAny_passesOwn hE (wpAny_mono hr (fun _ s₁ h₁ => ?_) fun _ _ z => z)
      refine wpAny_passesOwn hE (wpAny_mono h₁ (fun _ s₂ h₂ => ?_) fun _ _ z => z)
      refine wpAny_passesOwn hE (wpAny_mono h₂ (fun f s₃ h₃ => ?_) fun _ _ z => z)
      cases f with
      | next => exact ⟨k, Nat.lt_succ_self k, h₃⟩
      | cont => exact ⟨k, Nat.lt_succ_self k, h₃⟩
      | brk => exact h₃
      | ret _ => exact h₃
end
section
variable {prog : Program} {w : World} {A : Around} {E : Value → Shared → Prop} {s : Shared} {h₀ : Heap} {L l it : Addr} {m : Str → Option Value} {news : List (Addr × Obj)} {g : Obj → List (Addr × Obj)} {items : Array Value} {x : Value} {i : Nat}
theorem li_pyiter {Q : Value → Shared → Prop} (F : Fr h₀ L s.heap m) (N : News h₀ L s.heap news) (hl : s.heap.IsList l items)
    (h : ∀ (I : Addr) h', Fr h₀ L h' m → News h₀ L h' ((I, liObj l 0) :: news) → (∀ p ∈ news, p.1 < I) → Q (.ref I) { s with heap := h' }) : wpAny (model prog w) A (pyIter (.ref l)) Q E s :=
  wpAny_pyIter_list hl (h _ _ (F.push _) (News.push F N _ rfl) (fun q hq => Heap.lt_size (N q hq).1))
theorem li_pynext {Q : Option Value → Shared → Prop} (F : Fr h₀ L s.heap m) (N : News h₀ L s.heap news) (U : UpdF it (liObj l i) news g) (hl : s.heap.IsList l items) (hx : items[i]? = some x)
    (h : ∀ h', Fr h₀ L h' m → News h₀ L h' (g (liObj l (i + 1))) → Q (some x) { s with heap := h' }) : wpAny (model prog w) A (pyNext (.ref it)) Q E s := by
  obtain ⟨pre, post, hn, hg, a, b⟩ := U.split
  have hmem : (it, liObj l i) ∈ news := by rw [hn]; exact List.mem_append_right _ (.head _)
  have hm := N (it, liObj l i) hmem
  have hit : s.heap.IsListIter it l i := ⟨_, hm.1, rfl, rfl⟩
  obtain ⟨ol, hol, _, nl, hdl⟩ := hl
  unfold pyNext
  refine wpAny_bind (wpAny_attempt (wpAny_callSpecial?_slot (name := Str.ofString "__next__") hit.typeIs slot_listiter_next
    (wpAny_call_entry slot_listiter_next hit.typeIs entry_listiter_next ?_ (args_listiter_next _))))
  show wpAny _ _ (field (.ref it) 0 >>= _) _ _ s
  refine wpAny_bind (wpAny_field hm.1 rfl (x := .ref l) rfl ?_)
  show wpAny _ _ (if (Value.ref l == Value.none) = true then _ else _) _ _ s
  rw [if_neg (show ¬ ((Value.ref l == Value.none) = true) from Bool.false_ne_true)]
  show wpAny _ _ (field (.ref it) 1 >>= _) _ _ s
  refine wpAny_bind (wpAny_field hm.1 rfl (x := .int i 0) rfl ?_)
  show wpAny _ _ (seqItems? (.ref l) >>= _) _ _ s
  refine wpAny_bind (wpAny_seqItems hol hdl ?_)
  simp only [Int.toNat_natCast, hx]
  have hs := Heap.SameBut.update s.heap it (Obj.mapFields (·.setIfInBounds 1 (rawInt ((i : Int) + 1))))
  have ho' : (s.heap.update it (Obj.mapFields (·.setIfInBounds 1 (rawInt ((i : Int) + 1))))).get? it = some (liObj l (i + 1)) := by
    rw [Heap.get?_update_self _ hm.1 rfl]
    simp [Obj.mapFields, liObj, rawInt]
  exact wpAny_bind (wpAny_setField hm.1 rfl (by simp) (wpAny_pure ⟨x, rfl, wpAny_pure (h _ (F.change hs hm.2.1 hm.2.2) (hg _ ▸ (show News h₀ L s.heap (pre ++ (it, liObj l i) :: post) from hn ▸ N).setIn a b hs ho'))⟩))
theorem set_li {D : Addr} {vs : List Value} {n j : Nat} {t : Tok} {v : Value} {gN : Obj → List (Addr × Obj)} {Q : Unit → Shared → Prop} (F : Fr h₀ L s.heap m) (N : News h₀ L s.heap news) (U : UpdF D (W.listOf vs.toArray n) news gN) (hj : j < vs.length) (hs : vs.length ≤ 1000)
    (h : ∀ h', Fr h₀ L h' m → News h₀ L h' (gN (W.listOf (vs.set j v).toArray n)) → Q () { s with heap := h' }) : wpAny (model prog w) A (setItem (.ref D) (.int (j : Nat) t) v) Q E s := by
  obtain ⟨pre, post, hn, hg, a, b⟩ := U.split
  subst hn
  have z := N (D, W.listOf vs.toArray n) (List.mem_append.mpr (.inr (.head _)))
  have hsz : vs.toArray.size = vs.length := by simp
  refine ki_setAt z.1 (by walk_at "lo") (by walk_at "lo") (by walk_at "lo") (h _ (F.change (Heap.SameBut.update ..) z.2.1 z.2.2) ?_)
  rw [hg]
  exact ki_turn _ N a b (by simp) (by simp)
theorem li_pyend {Q : Option Value → Shared → Prop} (F : Fr h₀ L s.heap m) (N : News h₀ L s.heap ((it, liObj l i) :: news)) (ne : ∀ p ∈ news, p.1 ≠ it) (hl : s.heap.IsList l items) (hx : items[i]? = none) (hh : A.handled = none)
    (h : ∀ h', Fr h₀ L h' m → News h₀ L h' news → Q none { s with heap := h' }) : wpAny (model prog w) A (pyNext (.ref it)) Q E s := by
  have hm := N (it, liObj l i) (.head _)
  refine wpAny_pyNext_list_end hh ⟨_, hm.1, rfl, rfl⟩ hl hx fun h' he => ?_
  refine h h' ⟨F.ns.at' fun o e => he _ o (Ne.symm hm.2.1) e, fun b o e => he _ o (fun q => by rw [q, hm.2.2] at e; cases e) (F.keep b o e), F.above⟩ fun p hp => ⟨he _ _ (ne p hp) (N p (.tail _ hp)).1, (N p (.tail _ hp)).2⟩
end
theorem not_in2 {h : Heap} {gb it b : Addr} {og oi o : Obj} (hg : h.get? gb = some og) (hi : h.get? it = some oi) (e : h.get? b = some o) (c1 : o.cls ≠ og.cls) (c2 : o.cls ≠ oi.cls) : b ∉ [gb, it] := fun m => by
  simp only [List.mem_cons, List.not_mem_nil, or_false] at m
  rcases m with m | m
  · exact neO e hg c1 m
  · exact neO e hi c2 m
/-- the frame after a call that came back through a catch -/
theorem turn_keeps {A₀ : Around} {base g h h' : Heap} {outer : List Env} {L a : Addr} {m : Str → Option Value} {name : Str} {scope : Scope} {cd : Value} {W : List Addr} (K : Below A₀ base outer g) (D : KtsDicts (outer.filterMap (·.frame)) g) (F : Fr g L h m)
    (k : KeepsS W ((envOf name scope L a cd :: outer).filterMap (·.frame)) h h') (hW : ∀ b ∈ W, g.get? b = none ∧ (@Ne Nat b L)) :
    ∃ g', KtsTurn (outer.filterMap (·.frame)) g g' ∧ Fr g' L h' m ∧ Below A₀ base outer g' ∧ KtsDicts (outer.filterMap (·.frame)) g' ∧
      ∀ news : List (Addr × Obj), News g L h news → (∀ p ∈ news, p.1 ∉ W) → News g' L h' news := by
  have FH : Fr g L (hideAll h W) m := ⟨F.ns.at' fun o e => hideAll_get _ e fun q => (hW _ q).2 rfl, fun b o e => hideAll_get _ (F.keep b o e) (fun q => by rw [(hW b q).1] at e; cases e), F.above⟩
  have fn : ∀ b, b ∈ (envOf name scope L a cd :: outer).filterMap (·.frame) → b ∉ W := fun b m q => by
    rcases kts_mem m with z | z
    · exact (hW b q).2 z
    · obtain ⟨o, es, c, e, _⟩ := D b z
      rw [(hW b q).1] at e; cases e
  obtain ⟨g', T, F', B'⟩ := kts_ground (name := name) (scope := scope) (a := a) (cd := cd) (B := hideAll (hideAll h W) ((envOf name scope L a cd :: outer).filterMap (·.frame))) (h₅ := h') K FH (fun b o e n => hideAll_get _ e n)
    (fun b o e => by
      have e1 := of_hideAll _ e
      have e2 := of_hideAll _ e1
      refine k.same b o e2 (fun q => ?_) (fun q => ?_)
      · rw [hideAll_none _ q] at e1; cases e1
      · rw [hideAll_none _ q] at e; cases e)
    (fun b o e _ => by
      have e2 := of_hideAll _ e
      by_cases q : b ∈ (envOf name scope L a cd :: outer).filterMap (·.frame)
      · exact k.slot b o e2 (fn b q) q
      · refine ⟨o.slots, k.same b o e2 (fun q => ?_) q⟩
        rw [hideAll_none _ q] at e; cases e)
  refine ⟨g', T, F', B', D.turn T, fun news N hn p hp => ⟨k.same _ _ (N p hp).1 (hn p hp) (fun q => ?_), (N p hp).2.1, T.none_ _ (N p hp).2.2⟩⟩
  rcases kts_mem q with z | z
  · exact (N p hp).2.1 z
  · obtain ⟨o, es, c, e, _⟩ := D _ z
    rw [(N p hp).2.2] at e; cases e
section SCmpF
open PySem PySem.W PyProof.Rows PySem.Calls PySem.Spec PyProof.Rows.LCg PyProof.Rows.LCt
set_option maxRecDepth 100000
section
variable {prog : Program} {w : World} {A : Around} {s : Shared} {g : Heap} {L : Addr} {m : Str → Option Value} {env : Env}
noncomputable def FTurn (g : Heap) (L : Addr) (m : Str → Option Value) (led : List (Addr × Obj)) (s : Shared) (J : Value → Prop) (y : Value) (s' : Shared) : Prop :=
  ∃ h' tk', s' = { s with heap := h', toks := tk' } ∧ Fr g L h' m ∧ News g L h' led ∧ J y
/-- a list comprehension with one test, by an invariant -/
theorem lct_turns {ct elt : Expr} {x : Str} {scope : Scope} {cl : List (Str × Addr)} {S : List (Addr × Obj) → Prop} {P : Nat → Value → Prop} {Fin : List Value → List (Addr × Obj) → Prop} {news : List (Addr × Obj)} {n : Nat} (J : Nat → List Value → Prop) (hS : S news)
    (turn : ∀ i ys v I oI C oC D m₂ h tk (E' : Value → Shared → Prop), i < n → P i v → J i ys → LCg.NsObj oC m₂ → m₂ x = some v → Fr g L h m → News g L h ((I, oI) :: (C, oC) :: (D, LCg.lst ys) :: news) → LCg.Off3 I C D news → ((@Ne Nat I C) ∧ (@Ne Nat I D) ∧ (@Ne Nat C D)) →
      wpAny (model prog w) A (isTrue ct (compEnvC scope cl C env) (eval ct (compEnvC scope cl C env))) (fun ok s' => if ok = true then
        wpAny (model prog w) A (eval elt (compEnvC scope cl C env)) (FTurn g L m ((I, oI) :: (C, oC) :: (D, LCg.lst ys) :: news) s fun y => J (i + 1) (ys ++ [y])) E' s'
        else FTurn g L m ((I, oI) :: (C, oC) :: (D, LCg.lst ys) :: news) s (fun _ => J (i + 1) ys) .none s') E' { s with heap := h, toks := tk })
    (fin : ∀ ys, J n ys → Fin ys news) : ∀ (k i : Nat) (ys : List Value), i + k = n → J i ys → LCt.CompRestT prog w A g L m env ct elt x scope cl s S P Fin k i ys news := by
  intro k
  induction k with
  | zero => intro i ys hik hJ; obtain rfl : i = n := by walk_at "lo"
            exact LCt.CompRestT.zero (fin ys hJ)
  | succ k ih =>
    intro i ys hik hJ
    refine LCt.CompRestT.succ fun v I oI C oC D m₂ h tk E' hP hC hx F N off ne => ?_
    refine wpAny_mono (turn i ys v I oI C oC D m₂ h tk E' (by walk_at "lo") hP hJ hC hx F N off ne) (fun ok s' h' => ?_) fun _ _ e => e
    cases ok with
    | true =>
      simp only [if_true] at h' ⊢
      refine wpAny_mono h' (fun y s₂ h₂ => ?_) fun _ _ e => e
      obtain ⟨h₄, tk₄, rfl, F₄, N₄, J₄⟩ := h₂
      exact ⟨h₄, tk₄, news, rfl, F₄, N₄, off, hS, ih (i + 1) _ (by walk_at "lo") J₄⟩
    | false =>
      simp only [Bool.false_eq_true, if_false] at h' ⊢
      obtain ⟨h₄, tk₄, rfl, F₄, N₄, J₄⟩ := h'
      exact ⟨h₄, tk₄, news, rfl, F₄, N₄, off, hS, ih (i + 1) _ (by walk_at "lo") J₄⟩
end
end SCmpF
section SCmpT
open PySem PySem.W PyProof.Rows PySem.Calls PySem.Spec
set_option maxRecDepth 100000
section
variable {prog : Program} {w : World} {A : Around} {E : Value → Shared → Prop} {s : Shared} {g : Heap} {L : Addr} {env : Env}
/-- what one element leaves -/
noncomputable def TEnd (g : Heap) (L : Addr) (m : Str → Option Value) (led : List (Addr × Obj)) (s₁ : Shared) (J : Value → Nat → Prop) (y : Value) (s₂ : Shared) : Prop :=
  ∃ h' tk', s₂ = { s₁ with heap := h', toks := tk' } ∧ Fr g L h' m ∧ News g L h' led ∧ J y tk'
/-- what a list comprehension over a list asks, with an invariant that sees the tokens -/
inductive TSrc (prog : Program) (w : World) (A : Around) (g : Heap) (L : Addr) (env : Env) (elt : Expr) (x : Str) (scope : Scope) (cl : List (Str × Addr)) (Q : Value → Shared → Prop) (xv : Value) (s₁ : Shared) : Prop
  | mk (l : Addr) (vs : List Value) (m : Str → Option Value) (news : List (Addr × Obj)) (e : xv = .ref l) (hh : A.handled = none) (F : Fr g L s₁.heap m) (N : News g L s₁.heap news) (S : LCg.SrcAt g l (List.toArray vs) news) (hsz : vs.length ≤ 1000) (J : Nat → List Value → Nat → Prop) (hJ : J 0 [] s₁.toks)
    (mono : ∀ i ys tk tk', tk ≤ tk' → J i ys tk → J i ys tk')
    (turn : ∀ i ys v I C D oC m₂ h tk (E' : Value → Shared → Prop), vs[i]? = some v → J i ys tk → LCg.NsObj oC m₂ → m₂ x = some v → Fr g L h m → News g L h ((I, liObj l (i + 1)) :: (C, oC) :: (D, LCg.lst ys) :: news) → LCg.Off3 I C D news → ((@Ne Nat I C) ∧ (@Ne Nat I D) ∧ (@Ne Nat C D)) →
      wpAny (model prog w) A (eval elt (compEnvC scope cl C env)) (TEnd g L m ((I, liObj l (i + 1)) :: (C, oC) :: (D, LCg.lst ys) :: news) s₁ fun y tk' => J (i + 1) (ys ++ [y]) tk') E' { s₁ with heap := h, toks := tk })
    (fin : ∀ D h tk ys, J vs.length ys tk → Fr g L h m → News g L h ((D, LCg.lst ys) :: news) → (∀ p ∈ news, p.1 ≠ D) → Q (.ref D) { s₁ with heap := h, toks := tk }) : TSrc prog w A g L env elt x scope cl Q xv s₁

theorem tcomp {elt iter : Expr} {x : Str} {px : Pos} {scope : Scope} {cl : List (Str × Addr)} {pos : Pos} {Q : Value → Shared → Prop} {m₀ : Str → Option Value} (_F₀ : Fr g L s.heap m₀)
    (hclos : closureFor scope env = pure cl) (hcell : ∀ y ∈ scope.names, y.2 ≠ .cell) (hkind : scope.kind = .function)
    (hnames : ∀ y ∈ scope.names, y.2 = .local → scope.names.lookup y.1 = some .local) (hx : scope.names.lookup x = some .local)
    (h : wpAny (model prog w) A (eval iter env) (TSrc prog w A g L env elt x scope cl Q) E s)
    (hs : ∀ x, foldedSetIterable iter env x = pure x := by intro _; rfl) :
    wpAny (model prog w) A (eval (.ListComp elt [⟨.Name x px, iter, [], 0⟩] scope pos) env) Q E s := by
  rw [eval_ListComp]
  refine wpAny_comprehension_free (use := none) rfl hs hclos hkind hnames (wpAny_mono h (fun xv s₁ h₁ => ?_) fun _ _ e => e)
  obtain ⟨l, vs, m, news, rfl, hh, F, N, S, hsz, J, hJ, mono, turn, fin⟩ := h₁
  have hl := S.list F.keep N
  refine li_pyiter F N hl fun I h₂ F₂ N₂ lt₂ => ?_
  have sI := (N₂ _ (.head _))
  refine wpAny_newObj_type (wpAny_newFunctionEnv hcell (by intro y hy; simp at hy) (fun h₃ hns₃ hsb₃ => ?_) hkind)
  dsimp only at hns₃ hsb₃ ⊢
  generalize hH : h₂.push { cls := .type "list", dict := none, data := .seq ([] : List Value).toArray } = H at hns₃ hsb₃ ⊢
  have hC : H.objs.size = h₂.objs.size + 1 := by rw [← hH, Heap.size_push]
  have old : ∀ b o, h₂.get? b = some o → h₃.get? b = some o := fun b o e => hsb₃.extBut b o (by have := Heap.lt_size e; rw [hC]; exact Nat.ne_of_lt (Nat.lt_succ_of_lt this)) (Heap.get?_push_of_some _ (hH ▸ Heap.get?_push_of_some _ e))
  have hDC : h₂.objs.size ≠ H.objs.size := by rw [hC]; exact Nat.ne_of_lt (Nat.lt_succ_self _)
  have hacc : h₃.get? h₂.objs.size = some (LCg.lst []) := hsb₃.extBut _ _ hDC (Heap.get?_push_of_some _ (hH ▸ Heap.get?_push_size _ rfl))
  have lL : L < h₂.objs.size := F₂.ns.lt
  have fr2 : ∀ b, h₂.objs.size ≤ b → g.get? b = none := fun b hb => kts_none F₂.keep (Heap.get?_none_of_le hb)
  have lnew : ∀ p ∈ news, p.1 < h₂.objs.size := fun p hp => Heap.lt_size (N₂ p (.tail _ hp)).1
  have lI : I < h₂.objs.size := Heap.lt_size sI.1
  have cD : (@Ne Nat h₂.objs.size L) := Nat.ne_of_gt lL
  have cC : (@Ne Nat H.objs.size L) := by rw [hC]; exact Nat.ne_of_gt (Nat.lt_succ_of_lt lL)
  have gC : g.get? H.objs.size = none := fr2 _ (by rw [hC]; exact Nat.le_succ _)
  have gD : g.get? h₂.objs.size = none := fr2 _ (Nat.le_refl _)
  have IC : (@Ne Nat I H.objs.size) := by rw [hC]; exact Nat.ne_of_lt (Nat.lt_succ_of_lt lI)
  have ID : (@Ne Nat I h₂.objs.size) := Nat.ne_of_lt lI
  have off : LCg.Off3 I H.objs.size h₂.objs.size news := LCg.Off3.of fun p hp => ⟨Nat.ne_of_lt (lt₂ p hp), by rw [hC]; exact Nat.ne_of_lt (Nat.lt_succ_of_lt (lnew p hp)), Nat.ne_of_lt (lnew p hp)⟩
  have off3 := off.mem
  obtain ⟨oC₀, eC₀, nC₀⟩ := LCg.ns_obj hns₃
  have loop : codeAny (model prog w) A (.compLoop (.ListComp elt [⟨.Name x px, iter, [], 0⟩] scope pos) 0 (.ref I) (.ref h₂.objs.size) (compEnvC scope cl H.objs.size env))
      (compPost (model prog w) A E none Q (.ref h₂.objs.size) H.objs.size) { s₁ with heap := h₃, toks := s₁.toks + ([] : List (Str × Value)).length } := by
    obtain ⟨K, kE, kN⟩ : ∃ K : Nat → Shared → Prop, (∀ k s' (C : Shared → Prop), K k s' → (∀ i h' tk ys oC m', k = vs.length + 1 - i → i ≤ vs.length → ys.length = i → LCg.NsObj oC m' → Fr g L h' m → News g L h' ((I, liObj l i) :: (H.objs.size, oC) :: (h₂.objs.size, LCg.lst ys) :: news) → J i ys tk → C { s₁ with heap := h', toks := tk }) → C s') ∧ (∀ i h' tk ys oC m', i ≤ vs.length → ys.length = i → LCg.NsObj oC m' → Fr g L h' m → News g L h' ((I, liObj l i) :: (H.objs.size, oC) :: (h₂.objs.size, LCg.lst ys) :: news) → J i ys tk → K (vs.length + 1 - i) { s₁ with heap := h', toks := tk }) :=
      ⟨fun k s' => ∀ C : Shared → Prop, (∀ i h' tk ys oC m', k = vs.length + 1 - i → i ≤ vs.length → ys.length = i → LCg.NsObj oC m' → Fr g L h' m → News g L h' ((I, liObj l i) :: (H.objs.size, oC) :: (h₂.objs.size, LCg.lst ys) :: news) → J i ys tk → C { s₁ with heap := h', toks := tk }) → C s', fun _ _ C j f => j C f, fun _ _ _ _ _ _ x0 x1 x2 x3 x4 x5 _ f => f _ _ _ _ _ _ rfl x0 x1 x2 x3 x4 x5⟩
    refine codeAny_compLoop_tests K ?_ (vs.length + 1) (kN 0 h₃ _ [] oC₀ _ (Nat.zero_le _) rfl nC₀ (F₂.keeps old)
      (nwc ⟨old _ _ sI.1, sI.2⟩ (nwc ⟨eC₀, cC, gC⟩ (nwc ⟨hacc, cD, gD⟩ fun p hp => ⟨old _ _ (N₂ p (.tail _ hp)).1, (N₂ p (.tail _ hp)).2⟩))) hJ)
    · intro k s' hz
      refine kE k s' _ hz ?_
      intro i h' tk ys oC m' hk hi hyl hoC F' N' J'
      clear hz kE
      have allI : ∀ p ∈ (H.objs.size, oC) :: (h₂.objs.size, LCg.lst ys) :: news, p.1 ≠ I := List.forall_mem_cons.mpr ⟨Ne.symm IC, List.forall_mem_cons.mpr ⟨Ne.symm ID, fun p hp => (off3 p hp).1⟩⟩
      have hl' : h'.IsList l vs.toArray := S.list F'.keep fun p hp => N' p (.tail _ (.tail _ (.tail _ hp)))
      by_cases hlt : i < vs.length
      · refine li_pynext F' N' (UpdF.head allI) hl' (x := vs[i]) (by simp [hlt]) fun h4 F4 N4 => ?_
        have n4 := hoC.ns (N4 (H.objs.size, oC) (by k_mem)).1
        refine wpAny_assign_Name (wpAny_storeName_local (lookup_relabel_local hx) n4 (fun h5 hn5 hs5 => ?_) (by simp [compEnvC, relabel, hkind]))
        refine wpAny_tests_nil ?_
        simp only [if_true]
        obtain ⟨oC5, eC5, nC5⟩ := LCg.ns_obj hn5
        have F5 : Fr g L h5 m := F4.change hs5 cC gC
        have N5 : News g L h5 ((I, liObj l (i + 1)) :: (H.objs.size, oC5) :: (h₂.objs.size, LCg.lst ys) :: news) :=
          nwc ⟨hs5.extBut _ _ IC (N4 (I, liObj l (i + 1)) (.head _)).1, (N4 (I, liObj l (i + 1)) (.head _)).2⟩ (nwc ⟨eC5, cC, gC⟩ (nwc ⟨hs5.extBut _ _ hDC (N4 (h₂.objs.size, LCg.lst ys) (.tail _ (.tail _ (.head _)))).1, (N4 (h₂.objs.size, LCg.lst ys) (.tail _ (.tail _ (.head _)))).2⟩
            fun p hp => ⟨hs5.extBut _ _ (off3 p hp).2.1 (N4 p (.tail _ (.tail _ (.tail _ hp)))).1, (N4 p (.tail _ (.tail _ (.tail _ hp)))).2⟩))
        refine wpAny_mono (turn i ys vs[i] I H.objs.size h₂.objs.size oC5 _ h5 _ _ (List.getElem?_eq_getElem hlt) (mono _ _ _ _ (Nat.le_succ tk) J') nC5 (by simp) F5 N5 off ⟨IC, ID, Ne.symm hDC⟩) (fun y s₂ hq => ?_) fun _ _ e => e
        obtain ⟨h6, tk6, rfl, F6, N6, J6⟩ := hq
        have zD := N6 (h₂.objs.size, LCg.lst ys) (by k_mem)
        refine append_at (hsz := by show ys.toArray.size ≤ sizeLine; rw [List.size_toArray, hyl, sizeLine_eq]; walk_at "lo") zD.1 fun h7 hs7 hD7 => ?_
        exact ⟨vs.length + 1 - (i + 1), by walk_at "lo", kN (i + 1) h7 tk6 (ys ++ [y]) oC5 _ hlt (by rw [List.length_append, List.length_singleton, hyl]) nC5 (F6.change hs7 cD gD)
          (nwc ⟨hs7.extBut _ _ ID (N6 (I, liObj l (i + 1)) (.head _)).1, (N6 (I, liObj l (i + 1)) (.head _)).2⟩ (nwc ⟨hs7.extBut _ _ (Ne.symm hDC) (N6 (H.objs.size, oC5) (.tail _ (.head _))).1, (N6 (H.objs.size, oC5) (.tail _ (.head _))).2⟩
            (nwc ⟨hD7.trans (congrArg some (LCg.lst_snoc ys y)), cD, gD⟩ fun p hp => ⟨hs7.extBut _ _ (off3 p hp).2.2 (N6 p (.tail _ (.tail _ (.tail _ hp)))).1, (N6 p (.tail _ (.tail _ (.tail _ hp)))).2⟩))) J6⟩
      · have hin : i = vs.length := Nat.le_antisymm hi (Nat.not_lt.mp hlt)
        refine li_pyend F' N' allI hl' (by simp [hin]) hh fun h4 F4 N4 => ?_
        have zC := N4 (H.objs.size, oC) (by k_mem)
        exact ⟨m', hoC.ns zC.1, fun h5 hs5 => fin h₂.objs.size h5 tk ys (hin ▸ J') (F4.change hs5 cC gC)
          (nwc ⟨hs5.extBut _ _ hDC (N4 (h₂.objs.size, LCg.lst ys) (.tail _ (.head _))).1, (N4 (h₂.objs.size, LCg.lst ys) (.tail _ (.head _))).2⟩
            fun p hp => ⟨hs5.extBut _ _ (off3 p hp).2.1 (N4 p (.tail _ (.tail _ hp))).1, (N4 p (.tail _ (.tail _ hp))).2⟩) fun p hp => (off3 p hp).2.2⟩
  exact codeAny_compStart_list loop (wpAny_pyIter_listiter ⟨_, old _ _ sI.1, rfl, rfl⟩ loop)
end
end SCmpT
section SRkC
open PySem PySem.W PyProof.Rows PySem.Calls PySem.Spec
set_option maxRecDepth 100000
noncomputable abbrev riObj (x left step : Int) : Obj := { cls := .type "range_iterator", data := .fields #[rawInt x, rawInt left, rawInt step] }
section
variable {prog : Program} {w : World} {A : Around} {E : Value → Shared → Prop} {s : Shared} {h₀ : Heap} {L r it : Addr} {m : Str → Option Value} {news : List (Addr × Obj)} {g : Obj → List (Addr × Obj)} {a b c x left step : Int} {t u v : Tok}
theorem ri_pyiter {Q : Value → Shared → Prop} (F : Fr h₀ L s.heap m) (N : News h₀ L s.heap news) (hr : IsRange s.heap r a b c t u v) (hs : Builtin.Range.small a b c = true) (he : Builtin.Range.rangeSize a b c = left)
    (h : ∀ (I : Addr) h', Fr h₀ L h' m → News h₀ L h' ((I, riObj a left c) :: news) → (∀ p ∈ news, p.1 < I) → Q (.ref I) { s with heap := h' }) : wpAny (model prog w) A (pyIter (.ref r)) Q E s := by
  subst he
  exact wpAny_pyIter_range hr hs (h _ _ (F.push _) (News.push F N _ rfl) (fun q hq => Heap.lt_size (N q hq).1))
theorem ri_pynext {Q : Option Value → Shared → Prop} (F : Fr h₀ L s.heap m) (N : News h₀ L s.heap news) (U : UpdF it (riObj x left step) news g) (hl : 0 < left)
    (h : ∀ h', Fr h₀ L h' m → News h₀ L h' (g (riObj (x + step) (left - 1) step)) → Q (some (.int x s.toks)) { s with heap := h', toks := s.toks + 1 }) : wpAny (model prog w) A (pyNext (.ref it)) Q E s := by
  obtain ⟨pre, post, hn, hg, a, b⟩ := U.split
  subst hn
  have hm := N (it, riObj x left step) (List.mem_append_right _ (.head _))
  refine wpAny_pyNext_range_item hm.1 hl fun h' hit hs => ?_
  refine h h' (F.change hs hm.2.1 hm.2.2) ?_
  rw [hg]
  exact N.setIn a b hs hit
theorem ri_pyend {Q : Option Value → Shared → Prop} (F : Fr h₀ L s.heap m) (N : News h₀ L s.heap ((it, riObj x left step) :: news)) (ne : ∀ p ∈ news, p.1 ≠ it) (hl : left ≤ 0) (hh : A.handled = none)
    (h : ∀ h', Fr h₀ L h' m → News h₀ L h' news → Q none { s with heap := h' }) : wpAny (model prog w) A (pyNext (.ref it)) Q E s := by
  have hm := N (it, riObj x left step) (.head _)
  refine wpAny_pyNext_range_end hh hm.1 hl fun h' he => ?_
  refine h h' ⟨F.ns.at' fun o e => he _ o (Ne.symm hm.2.1) e, fun b o e => he _ o (fun q => by rw [q, hm.2.2] at e; cases e) (F.keep b o e), F.above⟩ fun p hp => ⟨he _ _ (ne p hp) (N p (.tail _ hp)).1, (N p (.tail _ hp)).2⟩
end
end SRkC
open PySem PySem.W PyProof.Rows PySem.Calls PySem.Spec
local macro_rules | `(tactic| walk_at "m:1") => `(tactic| (k_here; (with_reducible show wpAny _ _ (subscriptTail _ _ (Value.ref _) (Value.int _ _)) _ _ _); k_dflt (refine' item_list ?l ?a ?b ?x ?_; (case l => is_list); (case a => with_reducible assumption); (case b => with_reducible assumption); (case x => with_reducible assumption); k_whole)))
section SRw1
open PySem PySem.W PyProof.Rows PySem.Calls PySem.Spec
theorem fresh_Rw1 : True := by
  w_top off
  trivial
/-- the loop of _law_rows, named by where it stands -/
noncomputable def RowsFor (K : Frag) (L : Addr) (env : Env) (target : Expr) (body : List Stmt) : Prop :=
  ∀ oc od osl nm qn ps bd sc dV kV doc pm an cdv ct, K.lookup 324 = some ⟨oc, od, .func (fnOf nm qn ps bd sc dV kV doc pm an cdv ct), osl⟩ →
    env = envOfC qn sc L 324 cdv ∧ ∃ s1 s2 s3 s5 iter pos, bd = [s1, s2, s3, .For target iter body [] pos, s5]
noncomputable abbrev rwMap (rl : Addr) (m : Str → Option Value) : Str → Option Value := fun y => if y = Str.ofString "rows" then some (.ref rl) else m y
theorem rwmap_in {M : Str → Option Value} {rl : Addr} (h1 : M (Str.ofString "rows") = some (.ref rl)) : ∀ y, M y = rwMap rl M y := fun y => by
  unfold rwMap
  split
  · rename_i e; rw [e, h1]
  · rfl
noncomputable def rowI (ks : List Int) (x : Int) : Option Int := (ks.filter fun y => decide (((Builtin.Int.intBits y : Nat) : Int) - 1 = x)).min?
local macro_rules | `(tactic| walk_at "eval ListComp") => `(tactic| (k_here; k_dflt (refine LCt.ListComp_T (F₀ := by k_asm) (by with_unfolding_all rfl) (by decide) (by rfl) (by decide) (by rfl) ?_)))
local macro_rules | `(tactic| walk_at "subscriptTail") => `(tactic| walk_at "m:1")
local macro_rules | `(tactic| walk_at "subscriptTail Name Name ref int") => `(tactic| walk_at "m:1")
set_option maxRecDepth 100000 in
set_option maxHeartbeats 4000000 in
theorem rows_body (w : World) {p : Program} {loose : List Str} {mean : ExcName → Option Value} {mg mb : Str → Option Value}
  (dp un : Nat) (gd : Option (List Code)) (fr : List Env) (base : Heap) (s : Shared) (E : Value → Shared → Prop) (R : Flow → Shared → Prop)
  (XB : (Mine.hd.heap_39 w.params).In base) (TB : Top p loose mean mg mb base)
  {L : Addr} {env : Env} {target : Expr} {body : List Stmt} (hb : RowsFor (Mine.hd.heap_39 w.params) L env target body)
  {g : Heap} {m : Str → Option Value} {I rl D1 D2 : Addr} {kv tv rv : List Value} {ks rs : List Int} {o1 o2 o3 oT : Obj} {ov : Option Value} {x left : Int} {tx : Tok} {cap : Nat}
  (B : Below (kA dp un gd fr) base fr g) (F : Fr g L s.heap (rwMap rl m)) (h2 : o2.data = .cell (some (.ref D1))) (h3 : o3.data = .cell (some (.ref D2))) (hT : oT.data = .cell ov)
  (N : News g L s.heap [(I, riObj (x + -1) left (-1)), (rl, W.listOf rv.toArray cap), (D2, LCg.lst tv), (D1, LCg.lst kv), (L + 1 + 1 + 1 + 1, oT), (L + 1 + 1 + 1, o3), (L + 1 + 1, o2), (L + 1, o1)])
  (hk : IntsAre kv ks) (ht : IntsAre tv (ks.map fun k' => ((Builtin.Int.intBits k' : Nat) : Int) - 1)) (hr : IntsAre rv rs) (h64 : ks.length < 64) (hr64 : rs.length < 64) (x0 : 0 ≤ x) (x5 : x ≤ 5)
  (n1 : (@Ne Nat I (L + 1 + 1 + 1 + 1)) ∧ (@Ne Nat rl (L + 1 + 1 + 1 + 1)) ∧ (@Ne Nat D2 (L + 1 + 1 + 1 + 1)) ∧ (@Ne Nat D1 (L + 1 + 1 + 1 + 1)))
  (n2 : (@Ne Nat I rl) ∧ (@Ne Nat rl D2) ∧ (@Ne Nat rl D1) ∧ (@Ne Nat rl (L + 1 + 1 + 1)) ∧ (@Ne Nat rl (L + 1 + 1)) ∧ (@Ne Nat rl (L + 1)))
  (hR : ∀ h' tk' m' rv' rs' oT' ov' cap', Fr g L h' (rwMap rl m') → News g L h' [(I, riObj (x + -1) left (-1)), (rl, W.listOf (List.toArray rv') cap'), (D2, LCg.lst tv), (D1, LCg.lst kv), (L + 1 + 1 + 1 + 1, oT'), (L + 1 + 1 + 1, o3), (L + 1 + 1, o2), (L + 1, o1)] → oT'.data = .cell ov' →
    IntsAre rv' rs' → rs' = rs ++ (rowI ks x).toList → R .next { s with heap := h', toks := tk' }) :
  wpAny (model PySem.Challenge.rw_kl0506_01.row.prog w) ((kA dp un gd fr).deeper env) (letOwnedTupleGo target (.ref I) (.int x tx)) (fun _ s₁ =>
    wpAny (model PySem.Challenge.rw_kl0506_01.row.prog w) ((kA dp un gd fr).deeper env) (assign target env (.int x tx)) (fun _ s₂ => wpAny (model PySem.Challenge.rw_kl0506_01.row.prog w) ((kA dp un gd fr).deeper env) (execs body env) R E s₂) E s₁) E s := by
  have X0 : (Mine.hd.heap_39 w.params).In g := XB.keeps B.stays
  have T0 : Top p loose mean mg mb g := TB.keeps B.stays
  obtain ⟨rfl, s1, s2, s3, s5, iter, pos, hbd⟩ := hb _ _ _ _ _ _ _ _ _ _ _ _ _ _ _ (by k_dflt k_is)
  injection hbd with _ hbd
  injection hbd with _ hbd
  injection hbd with _ hbd
  injection hbd with e _
  injection e with e1 _ e2 _ _
  subst e1
  subst e2
  refine wpAny_pure ?_
  k_steps
  · rename IsRange _ _ _ _ _ _ _ _ => R1
    rename Fr _ _ _ _ => F6
    rename News _ _ _ _ => N6
    refine LCt.CompSrcT.range (n := ks.length) rfl F6 N6 R1 (small_one (by walk_at "lo") (by walk_at "lo") (by walk_at "lo") (by walk_at "lo")) ((rangeSize_nat _ _).trans (show (((ks.length : Int) - 0).toNat : Int) = (ks.length : Nat) by walk_at "lo")) (by rw [sizeLine_eq]; walk_at "lo") fun g' => ?_
    refine lct_turns (n := ks.length) (fun i ys => IntsAre ys ((ks.take i).filter fun y => decide (((Builtin.Int.intBits y : Nat) : Int) - 1 = x))) trivial ?turn ?fin ks.length 0 [] (by walk_at "lo") (by simpa using IntsAre.nil)
    case turn =>
      intro i ys v I5 oI5 C5 oC5 D5 m5 h5 tk5 E5 hlt hv hJ hC hx F5 N5 off5 ne5
      obtain ⟨t5, rfl⟩ := hv
      clear F6 N6
      have hkl := hk.length
      have htl := ht.length
      rw [List.length_map] at htl
      have hik : i < kv.length := by walk_at "lo"
      have hit : i < tv.length := by walk_at "lo"
      obtain ⟨z, tz, ez, hz⟩ := IntsAre.at hk i kv[i] (List.getElem?_eq_getElem hik)
      obtain ⟨z', tt, et, hz'⟩ := IntsAre.at ht i tv[i] (List.getElem?_eq_getElem hit)
      rw [List.getElem?_map, hz] at hz'
      cases hz'
      have b1 : (0 : Int) ≤ 0 + (i : Int) := by walk_at "lo"
      have b2 : 0 + (i : Int) < 2 ^ 63 := by walk_at "lo"
      have e0 : (0 + (i : Int)).toNat = i := by walk_at "lo"
      have b3 : tv.toArray[(0 + (i : Int)).toNat]? = some (.int (((Builtin.Int.intBits z : Nat) : Int) - 1) tt) := by rw [e0, ← et]; simp [hit]
      have b4 : kv.toArray[(0 + (i : Int)).toNat]? = some (.int z tz) := by rw [e0, ← ez]; simp [hik]
      have etk : (ks.take (i + 1)).filter (fun y => decide (((Builtin.Int.intBits y : Nat) : Int) - 1 = x)) = (ks.take i).filter (fun y => decide (((Builtin.Int.intBits y : Nat) : Int) - 1 = x)) ++ if ((Builtin.Int.intBits z : Nat) : Int) - 1 = x then [z] else [] := by
        rw [List.take_add_one, hz, List.filter_append]
        simp only [Option.toList_some, List.filter_cons, List.filter_nil, decide_eq_true_eq]
      k_steps
      · rename _ - 1 = x => hzx
        rw [if_pos hzx] at etk
        exact ⟨_, _, rfl, F5, N5, by rw [etk]; exact hJ.append (.cons _ _ .nil)⟩
      · rename _ - 1 ≠ x => hzx
        rw [if_neg hzx, List.append_nil] at etk
        exact ⟨_, _, rfl, F5, N5, by rw [etk]; exact hJ⟩
    case fin =>
      intro ys hJ D h tk F N off
      rw [List.take_length] at hJ
      clear F6 N6
      rename (List.any _ _) = true => hany
      have hpos : 0 < (ks.filter fun y => decide (((Builtin.Int.intBits y : Nat) : Int) - 1 = x)).length := by
        obtain ⟨y, hy, e⟩ := List.any_eq_true.mp hany
        obtain ⟨z, hz, rfl⟩ := List.mem_map.mp hy
        exact List.length_pos_of_mem (List.mem_filter.mpr ⟨hz, by simpa using e⟩)
      simp only [LCg.Off1, and_true] at off
      dsimp only
      k_steps
      rename Fr _ _ _ _ => Fx
      rename News _ _ _ _ => Nx
      rename _ ∈ List.filter _ _ => hM
      rename ∀ a, a ∈ List.filter _ _ → _ => hMl
      rw [List.push_toArray] at Nx
      have hrow : rowI ks x = some _ := List.min?_eq_some_iff.mpr ⟨hM, hMl⟩
      exact hR _ _ m (rv ++ [_]) (rs ++ [_]) _ _ (cap + 1) Fx (fun q hq => Nx q (.tail _ hq)) (by assumption) (hr.append (.cons _ _ .nil)) (by rw [hrow]; rfl)
  · rename Fr _ _ _ _ => F6
    rename News _ _ _ _ => N6
    rename (List.any _ _) = false => hany
    refine hR _ _ m rv rs _ _ cap F6 N6 (by assumption) hr ?_
    have : rowI ks x = none := by
      unfold rowI
      rw [List.min?_eq_none_iff, List.filter_eq_nil_iff]
      intro y hy
      have := List.any_eq_false.mp hany _ (List.mem_map_of_mem hy)
      simpa using this
    rw [this]; simp
end SRw1
section SRw2
open PySem PySem.W PyProof.Rows PySem.Calls PySem.Spec
set_option maxRecDepth 100000
noncomputable def rowsI (ks : List Int) : Nat → List Int → List Int
  | 0, acc => acc
  | k + 1, acc => rowsI ks k (acc ++ (rowI ks (k : Nat)).toList)
section
variable (w : World) {p : Program} {loose : List Str} {mean : ExcName → Option Value} {mg mb : Str → Option Value}
  (dp un : Nat) (gd : Option (List Code)) (fr : List Env) (base : Heap)
set_option maxHeartbeats 4000000 in
theorem rows_turns (E : Value → Shared → Prop) (Q : Flow → Shared → Prop)
  (XB : (Mine.hd.heap_39 w.params).In base) (TB : Top p loose mean mg mb base)
  {L : Addr} {env : Env} {target : Expr} {body : List Stmt} (hb : RowsFor (Mine.hd.heap_39 w.params) L env target body)
  {g : Heap} {I rl D1 D2 : Addr} {kv tv : List Value} {ks : List Int} {o1 o2 o3 : Obj}
  (B : Below (kA dp un gd fr) base fr g) (h2 : o2.data = .cell (some (.ref D1))) (h3 : o3.data = .cell (some (.ref D2)))
  (hk : IntsAre kv ks) (ht : IntsAre tv (ks.map fun k' => ((Builtin.Int.intBits k' : Nat) : Int) - 1)) (h64 : ks.length < 64)
  (n1 : (@Ne Nat I (L + 1 + 1 + 1 + 1)) ∧ (@Ne Nat rl (L + 1 + 1 + 1 + 1)) ∧ (@Ne Nat D2 (L + 1 + 1 + 1 + 1)) ∧ (@Ne Nat D1 (L + 1 + 1 + 1 + 1)))
  (n2 : (@Ne Nat I rl) ∧ (@Ne Nat rl D2) ∧ (@Ne Nat rl D1) ∧ (@Ne Nat rl (L + 1 + 1 + 1)) ∧ (@Ne Nat rl (L + 1 + 1)) ∧ (@Ne Nat rl (L + 1)))
  (n3 : (@Ne Nat I D2) ∧ (@Ne Nat I D1) ∧ (@Ne Nat I (L + 1 + 1 + 1)) ∧ (@Ne Nat I (L + 1 + 1)) ∧ (@Ne Nat I (L + 1))) (s : Shared)
  (hQ : ∀ h tk m rv cap oT ov, Fr g L h (rwMap rl m) → News g L h [(rl, W.listOf (List.toArray rv) cap), (D2, LCg.lst tv), (D1, LCg.lst kv), (L + 1 + 1 + 1 + 1, oT), (L + 1 + 1 + 1, o3), (L + 1 + 1, o2), (L + 1, o1)] → oT.data = .cell ov → IntsAre rv (rowsI ks 6 []) → Q .next { s with heap := h, toks := tk }) :
  ∀ (k : Nat) (h : Heap) (tk : Nat) (m : Str → Option Value) (rv : List Value) (rs : List Int) (cap : Nat) (oT : Obj) (ov : Option Value), rs.length + k ≤ 6 → rowsI ks k rs = rowsI ks 6 [] → Fr g L h (rwMap rl m) →
    News g L h [(I, riObj ((k : Int) - 1) (k : Int) (-1)), (rl, W.listOf rv.toArray cap), (D2, LCg.lst tv), (D1, LCg.lst kv), (L + 1 + 1 + 1 + 1, oT), (L + 1 + 1 + 1, o3), (L + 1 + 1, o2), (L + 1, o1)] → oT.data = .cell ov → IntsAre rv rs →
    TRest PySem.Challenge.rw_kl0506_01.row.prog w ((kA dp un gd fr).deeper env) E env target body Q I (k + 1) { s with heap := h, toks := tk } := by
  have ne : ∀ a b c d e f g : Obj, ∀ p ∈ [(rl, a), (D2, b), (D1, c), (L + 1 + 1 + 1 + 1, d), (L + 1 + 1 + 1, e), (L + 1 + 1, f), (L + 1, g)], p.1 ≠ I := fun a b c d e f g =>
    List.forall_mem_cons.mpr ⟨Ne.symm n2.1, List.forall_mem_cons.mpr ⟨Ne.symm n3.1, List.forall_mem_cons.mpr ⟨Ne.symm n3.2.1, List.forall_mem_cons.mpr ⟨Ne.symm n1.1, List.forall_mem_cons.mpr ⟨Ne.symm n3.2.2.1, List.forall_mem_cons.mpr ⟨Ne.symm n3.2.2.2.1, List.forall_mem_cons.mpr ⟨Ne.symm n3.2.2.2.2, List.forall_mem_nil _⟩⟩⟩⟩⟩⟩⟩
  intro k
  induction k with
  | zero =>
    intro h tk m rv rs cap oT ov hlen hrs F N hT hr
    refine ri_pyend (s := { s with heap := h, toks := tk }) F N (ne _ _ _ _ _ _ _) (by simp) rfl fun h' F' N' => ?_
    rw [rowsI] at hrs
    exact hQ h' tk m rv cap oT ov F' N' hT (hrs ▸ hr)
  | succ k ih =>
    intro h tk m rv rs cap oT ov hlen hrs F N hT hr
    refine ri_pynext (s := { s with heap := h, toks := tk }) F N (UpdF.head (ne _ _ _ _ _ _ _)) (by walk_at "lo") fun h' F' N' => ?_
    have e1 : (((k + 1 : Nat) : Int) - 1) = (k : Int) := by walk_at "lo"
    rw [e1] at N' ⊢
    refine rows_body w dp un gd fr base { s with heap := h', toks := tk + 1 } E _ XB TB hb (D1 := D1) (D2 := D2) (rl := rl) (kv := kv) (tv := tv) (rv := rv) (ks := ks) (rs := rs) (o1 := o1) (o2 := o2) (o3 := o3) (oT := oT) (x := (k : Int)) (cap := cap) B F' h2 h3 hT N' hk ht hr h64 (by walk_at "lo") (by walk_at "lo") (by walk_at "lo") n1 n2 ?_
    intro h'' tk'' m' rv' rs' oT' ov' cap' F'' N'' hT' hr' hrs'
    have hl : ((rowI ks (k : Nat)).toList).length ≤ 1 := by cases rowI ks (k : Nat) <;> simp
    refine ih h'' tk'' m' rv' rs' cap' oT' ov' (by rw [hrs', List.length_append]; walk_at "lo") (by rw [← hrs, hrs', rowsI]) F'' ?_ hT' hr'
    rw [show (k : Int) - 1 = (k : Int) + -1 by walk_at "lo"]
    exact N''
end
end SRw2
open PySem PySem.W PyProof.Rows PySem.Calls PySem.Spec
local macro_rules | `(tactic| walk_at "m:2") => `(tactic| (k_here; k_dflt (refine t_for ?_)))
section SRw3
open PySem PySem.W PyProof.Rows PySem.Calls PySem.Spec
theorem fresh_Rw3 : True := by
  w_top off
  trivial
local macro_rules | `(tactic| walk_at "subscriptTail") => `(tactic| (k_here; (with_reducible show wpAny _ _ (subscriptTail _ _ (Value.ref _) (Value.int 0 _)) _ _ _); k_dflt (refine' item_list ?l ?a ?b ?x ?_; (case l => is_list); (case a => decide); (case b => decide); (case x => assumption); k_whole)))
local macro_rules | `(tactic| walk_at "exec For") => `(tactic| walk_at "m:2")
local macro_rules | `(tactic| walk_at "exec For Name Call cons nil") => `(tactic| walk_at "m:2")
section
variable (w : World) {p : Program} {loose : List Str} {mean : ExcName → Option Value} {mg mb : Str → Option Value}
  (dp un : Nat) (gd : Option (List Code)) (fr : List Env) (base : Heap)
set_option maxRecDepth 100000 in
set_option maxHeartbeats 4000000 in
theorem rows_c (s : Shared) (Q E : Value → Shared → Prop)
  (H : Amid base fr s.heap) (XB : (Mine.hd.heap_39 w.params).In base) (TB : Top p loose mean mg mb base) (hd : dp + 4 < recursionLimit) (hu : un + 30 < cLine)
  {l : Addr} {vs : List Value} {ns : List Int} (hl : s.heap.IsList l vs.toArray) (hi : IntsAre vs ns) (h64 : ns.length < 64) {w0 : Int} {t0 : Tok} (hw0 : vs.toArray[0]? = some (.int w0 t0))
  (ret : ∀ D rv cap (h' : Heap) (tk' : Nat), Keeps [] s.heap h' → h'.get? D = some (W.listOf (List.toArray rv) cap) → s.heap.get? D = none → IntsAre rv (rowsI (ns.map fun k' => Builtin.bitXor k' w0) 6 []) → Q (.ref D) { s with heap := h', toks := tk' }) :
  wpAny (model PySem.Challenge.rw_kl0506_01.row.prog w) (kA dp un gd fr) (call (.ref 324) [.ref l]) Q E s := by
  refine wpAny_call ?_
  k_dflt (refine' enterC H XB TB ?k6 ?k7 ?k8 ?k9 ?kB ?kD ?_ ?c2 ?c3 ?c4; (case k6 => k_is); (case k7 => k_is); (case k8 => ktr_room); (case k9 => first | exact BindsTo.of_eq rfl | exact binds_K (XB.keeps H.stays) rfl (by k_is) rfl rfl rfl); (case kB => exact rfl); (case kD => decide +kernel); (case c2 => exact rfl); (case c3 => exact rfl); (case c4 => exact rfl); k_whole; intro L' h' tk' cells' F' N' Y' B' X' T' D'; k_cells Y'; (try dsimp only); (try k_fold))
  k_steps
  rename IsRange _ _ _ _ _ _ _ _ => R1
  rename Fr _ _ _ _ => F1
  rename News _ _ _ _ => N1
  rename IntsAre _ (List.map (fun k' => Builtin.bitXor k' w0) ns) => hk
  rename IntsAre _ (List.map _ (List.map _ ns)) => ht
  refine ri_pyiter (left := 6) F1 N1 R1 (by decide) (by decide) ?_
  intro I h2 F2 N2 lt2
  refine ⟨I, 7, rfl, ?_⟩
  have i1 := Nat.ne_of_gt (lt2 (_, W.listOf #[] 0) (by k_mem))
  have i2 := Nat.ne_of_gt (lt2 _ (.tail _ (.head _)))
  have i3 := Nat.ne_of_gt (lt2 _ (.tail _ (.tail _ (.head _))))
  have i4 := Nat.ne_of_gt (lt2 _ (.tail _ (.tail _ (.tail _ (.head _)))))
  have i5 := Nat.ne_of_gt (lt2 _ (.tail _ (.tail _ (.tail _ (.tail _ (.head _))))))
  have i6 := Nat.ne_of_gt (lt2 _ (.tail _ (.tail _ (.tail _ (.tail _ (.tail _ (.head _)))))))
  have i7 := Nat.ne_of_gt (lt2 _ (.tail _ (.tail _ (.tail _ (.tail _ (.tail _ (.tail _ (.head _))))))))
  refine rows_turns w dp un gd fr base _ _ XB TB ?hb B' ?h2 ?h3 hk ht ?h64 ?n1 ?n2 ?n3 _ ?hQ 6 h2 _ _ [] [] 0 _ _ (by decide) rfl (Fr.as F2 (rwmap_in rfl)) N2 (by assumption) .nil
  case hb =>
    intro oc od osl nm qn ps bd sc dV kV doc pm an cdv ct h
    refine (fun h2 => ?_) (show (Mine.hd.heap_39 w.params).lookup 324 = some ⟨_, _, .func (fnOf _ _ _ _ _ _ _ _ _ _ _ _), _⟩ by k_dflt k_is)
    rw [h2] at h
    cases h
    exact ⟨rfl, _, _, _, _, _, _, rfl⟩
  case h2 => assumption
  case h3 => assumption
  case h64 => simpa using h64
  case n1 => exact ⟨i4, by k_ne, by k_ne, by k_ne⟩
  case n2 => exact ⟨i1, by k_ne, by k_ne, by k_ne, by k_ne, by k_ne⟩
  case n3 => exact ⟨i2, i3, i5, i6, i7⟩
  case hQ =>
    intro h6 tk6 m6 rv cap oT ov F6 N6 hT6 hr6
    dsimp only
    clear F2 N2 F1 N1
    k_steps
    have z := N6 (_, W.listOf rv.toArray cap) (.head _)
    exact ret _ rv cap h6 tk6 (fun b o e _ => F6.keep b o e) z.1 z.2.2 hr6
end
end SRw3
section SWd1
open PySem PySem.W PyProof.Rows PySem.Calls PySem.Spec
local macro_rules | `(tactic| walk_at "no line") => `(tactic| fail "no line")
theorem fresh_Wd1 : True := by
  w_top off
  trivial
/-- the two loops of _law_words, named by where they stand -/
noncomputable def WordsFor (K : Frag) (L : Addr) (env : Env) (target : Expr) (body : List Stmt) (target2 : Expr) (body2 : List Stmt) : Prop :=
  ∀ oc od osl nm qn ps bd sc dV kV doc pm an cdv ct, K.lookup 319 = some ⟨oc, od, .func (fnOf nm qn ps bd sc dV kV doc pm an cdv ct), osl⟩ →
    env = envOfC qn sc L 319 cdv ∧ ∃ s1 s3 s5 iter pos iter2 pos2, bd = [s1, .For target iter body [] pos, s3, .For target2 iter2 body2 [] pos2, s5]
noncomputable abbrev wdMap (cl l : Addr) (m : Str → Option Value) : Str → Option Value := fun y => if y = Str.ofString "cells" then some (.ref cl) else if y = Str.ofString "script" then some (.ref l) else m y
theorem wdmap_in {M : Str → Option Value} {cl l : Addr} (h1 : M (Str.ofString "cells") = some (.ref cl)) (h2 : M (Str.ofString "script") = some (.ref l)) : ∀ y, M y = wdMap cl l M y := fun y => by
  unfold wdMap
  split
  · rename_i e; rw [e, h1]
  · split
    · rename_i e; rw [e, h2]
    · rfl
local macro_rules | `(tactic| walk_at "subscriptTail") => `(tactic| walk_at "m:1")
local macro_rules | `(tactic| walk_at "subscriptTail Name BinOp ref int") => `(tactic| walk_at "m:1")
local macro_rules | `(tactic| walk_at "subscriptTail Name Name ref int") => `(tactic| walk_at "m:1")

set_option maxRecDepth 100000 in
set_option maxHeartbeats 4000000 in
theorem words_body1 (w : World) {p : Program} {loose : List Str} {mean : ExcName → Option Value} {mg mb : Str → Option Value}
  (dp un : Nat) (gd : Option (List Code)) (fr : List Env) (base : Heap) (s : Shared) (E : Value → Shared → Prop) (R : Flow → Shared → Prop)
  (XB : (Mine.hd.heap_39 w.params).In base) (TB : Top p loose mean mg mb base)
  {L : Addr} {env : Env} {target target2 : Expr} {body body2 : List Stmt} (hb : WordsFor (Mine.hd.heap_39 w.params) L env target body target2 body2)
  {g : Heap} {m : Str → Option Value} {cl l I : Addr} {cs vs : List Value} {o' : Obj} {i j : Nat} {left z y : Int} {ti tz ty : Tok}
  (B : Below (kA dp un gd fr) base fr g) (F : Fr g L s.heap (wdMap cl l m)) (hl : g.IsList l vs.toArray)
  (N : News g L s.heap ((I, riObj (i + 1 : Nat) left 1) :: (cl, W.listOf cs.toArray 0) :: (L + 1, o') :: []))
  (hIc : (@Ne Nat I cl)) (hLc : (@Ne Nat (L + 1) cl)) (hj : Int.fmod (i : Int) 5 = (j : Int)) (hj5 : j < 5) (hcs : cs.length = 5) (i64 : i < 64) (hz : cs[j]? = some (.int z tz)) (hy : vs[i]? = some (.int y ty))
  (hR : ∀ h' tk' m' tv, Fr g L h' (wdMap cl l m') → News g L h' ((I, riObj (i + 1 : Nat) left 1) :: (cl, W.listOf (cs.set j (.int (Int.fmod (z + y) 64) tv)).toArray 0) :: (L + 1, o') :: []) → R .next { s with heap := h', toks := tk' }) :
  wpAny (model PySem.Challenge.rw_kl0506_01.row.prog w) ((kA dp un gd fr).deeper env) (letOwnedTupleGo target (.ref I) (.int i ti)) (fun _ s₁ =>
    wpAny (model PySem.Challenge.rw_kl0506_01.row.prog w) ((kA dp un gd fr).deeper env) (assign target env (.int i ti)) (fun _ s₂ => wpAny (model PySem.Challenge.rw_kl0506_01.row.prog w) ((kA dp un gd fr).deeper env) (execs body env) R E s₂) E s₁) E s := by
  have X0 : (Mine.hd.heap_39 w.params).In g := XB.keeps B.stays
  have T0 : Top p loose mean mg mb g := TB.keeps B.stays
  obtain ⟨rfl, s1, s3, s5, iter, pos, iter2, pos2, hbd⟩ := hb _ _ _ _ _ _ _ _ _ _ _ _ _ _ _ (by k_dflt k_is)
  injection hbd with _ hbd
  injection hbd with e _
  injection e with e1 _ e2 _ _
  subst e1
  subst e2
  have a1 : (0 : Int) ≤ Int.fmod (i : Int) 5 := by rw [hj]; walk_at "lo"
  have a2 : Int.fmod (i : Int) 5 < 2 ^ 63 := by rw [hj]; walk_at "lo"
  have a3 : cs.toArray[(Int.fmod (i : Int) 5).toNat]? = some (.int z tz) := by rw [hj]; simpa using hz
  have b1 : (0 : Int) ≤ (i : Int) := by walk_at "lo"
  have b2 : (i : Int) < 2 ^ 63 := by walk_at "lo"
  have b3 : vs.toArray[((i : Int)).toNat]? = some (.int y ty) := by simpa using hy
  refine wpAny_pure ?_
  k_steps
  rename Fr _ _ _ _ => F6
  rename News _ _ _ _ => N6
  rw [hj]
  refine set_li F6 N6 (UpdF.tail hIc (UpdF.head (List.forall_mem_cons.mpr ⟨hLc, List.forall_mem_nil _⟩))) (by walk_at "lo") (by walk_at "lo") ?_
  intro h7 F7 N7
  clear F6 N6
  k_steps
  exact hR _ _ _ _ (Fr.as F7 (wdmap_in rfl rfl)) N7
end SWd1
section SWd2
open PySem PySem.W PyProof.Rows PySem.Calls PySem.Spec
set_option maxRecDepth 100000
noncomputable def CellsOK (cs : List Value) : Prop := cs.length = 5 ∧ ∀ j, j < 5 → ∃ z t, cs[j]? = some (Value.int z t) ∧ 0 ≤ z ∧ z < 64
section
variable (w : World) {p : Program} {loose : List Str} {mean : ExcName → Option Value} {mg mb : Str → Option Value}
  (dp un : Nat) (gd : Option (List Code)) (fr : List Env) (base : Heap)
set_option maxHeartbeats 4000000 in
theorem words_turns1 (E : Value → Shared → Prop) (Q : Flow → Shared → Prop)
  (XB : (Mine.hd.heap_39 w.params).In base) (TB : Top p loose mean mg mb base)
  {L : Addr} {env : Env} {target : Expr} {body : List Stmt} (hb : ∃ target2 body2, WordsFor (Mine.hd.heap_39 w.params) L env target body target2 body2)
  {g : Heap} {cl l I : Addr} {vs : List Value} {ns : List Int} {o' : Obj}
  (B : Below (kA dp un gd fr) base fr g) (hl : g.IsList l vs.toArray) (hi : IntsAre vs ns) (h64 : ns.length < 64) (hIc : (@Ne Nat I cl)) (hLc : (@Ne Nat (L + 1) cl)) (hLI : (@Ne Nat (L + 1) I)) (s : Shared)
  (hQ : ∀ h tk m cs, Fr g L h (wdMap cl l m) → News g L h [(cl, W.listOf (List.toArray cs) 0), (L + 1, o')] → CellsOK cs → Q .next { s with heap := h, toks := tk }) :
  ∀ (k i : Nat) (h : Heap) (tk : Nat) (m : Str → Option Value) (cs : List Value), i + k = ns.length → Fr g L h (wdMap cl l m) →
    News g L h [(I, riObj (i : Nat) (k : Nat) 1), (cl, W.listOf (List.toArray cs) 0), (L + 1, o')] → CellsOK cs →
    TRest PySem.Challenge.rw_kl0506_01.row.prog w ((kA dp un gd fr).deeper env) E env target body Q I (k + 1) { s with heap := h, toks := tk } := by
  obtain ⟨target2, body2, hb⟩ := hb
  intro k
  induction k with
  | zero =>
    intro i h tk m cs hik F N hc
    refine ri_pyend (s := { s with heap := h, toks := tk }) F N (List.forall_mem_cons.mpr ⟨Ne.symm hIc, List.forall_mem_cons.mpr ⟨hLI, List.forall_mem_nil _⟩⟩) (by simp) rfl fun h' F' N' => ?_
    exact hQ h' tk m cs F' N' hc
  | succ k ih =>
    intro i h tk m cs hik F N hc
    have hin : i < ns.length := by walk_at "lo"
    refine ri_pynext (s := { s with heap := h, toks := tk }) F N (UpdF.head (List.forall_mem_cons.mpr ⟨Ne.symm hIc, List.forall_mem_cons.mpr ⟨hLI, List.forall_mem_nil _⟩⟩)) (by walk_at "lo") fun h' F' N' => ?_
    have hl' : i < vs.length := by have := hi.length; walk_at "lo"
    obtain ⟨y, ty, ey, _⟩ := IntsAre.at hi i vs[i] (by simp [hl'])
    have hj : Int.fmod (i : Int) 5 = ((i % 5 : Nat) : Int) := by rw [Int.fmod_eq_emod_of_nonneg _ (by decide)]; walk_at "lo"
    obtain ⟨z, tz, ez, z0, z1⟩ := hc.2 (i % 5) (Nat.mod_lt _ (by decide))
    refine words_body1 w dp un gd fr base { s with heap := h', toks := tk + 1 } E _ XB TB hb (left := ((k + 1 : Nat) : Int) - 1) (cs := cs) (vs := vs) (z := z) (y := y) B F' hl N' hIc hLc hj (Nat.mod_lt _ (by decide)) hc.1 (by walk_at "lo") ez (by rw [List.getElem?_eq_getElem hl', ey]) ?_
    intro h'' tk'' m' tv F'' N''
    have e : (((k + 1 : Nat) : Int) - 1) = (k : Int) := by walk_at "lo"
    rw [e] at N''
    refine ih (i + 1) h'' tk'' m' _ (by walk_at "lo") F'' N'' ⟨by rw [List.length_set]; exact hc.1, fun j hj5 => ?_⟩
    by_cases hji : i % 5 = j
    · subst hji
      refine ⟨_, _, by rw [List.getElem?_set_self (by rw [hc.1]; exact hj5)], ?_, ?_⟩
      · rw [Int.fmod_eq_emod_of_nonneg _ (by decide)]; walk_at "lo"
      · rw [Int.fmod_eq_emod_of_nonneg _ (by decide)]; walk_at "lo"
    · rw [List.getElem?_set_ne hji]
      exact hc.2 j hj5
end
end SWd2
open PySem PySem.W PyProof.Rows PySem.Calls PySem.Spec
local macro_rules | `(tactic| walk_at "m:3") => `(tactic| (k_here; (with_reducible refine wpAny_execs_cons ?_); (try dsimp only)))
local macro_rules | `(tactic| walk_at "m:4") => `(tactic| (k_here; (with_reducible refine wpAny_execs_nil ?_); (try dsimp only)))
local macro_rules | `(tactic| walk_at "m:5") => `(tactic| (k_here; k_dflt (refine tcomp (by k_asm) (by with_unfolding_all rfl) (by decide) (by rfl) (by decide) (by rfl) ?_)))
section SWd3
open PySem PySem.W PyProof.Rows PySem.Calls PySem.Spec
theorem fresh_Wd3 : True := by
  w_top off
  trivial
/-- the words, and that their tokens rise -/
noncomputable def WTok (ws : List Value) (zs : List Int) (tk : Nat) : Prop := ∃ ts : List Tok, ws = List.zipWith Value.int zs ts ∧ zs.length = ts.length ∧ ts.Pairwise (· < ·) ∧ ∀ t ∈ ts, 0 < t ∧ t < tk
noncomputable abbrev wdMap2 (wl cl l : Addr) (m : Str → Option Value) : Str → Option Value := fun y => if y = Str.ofString "words" then some (.ref wl) else wdMap cl l m y

local macro_rules | `(tactic| walk_at "subscriptTail") => `(tactic| walk_at "m:1")
local macro_rules | `(tactic| walk_at "subscriptTail Name BinOp ref int") => `(tactic| walk_at "m:1")
local macro_rules | `(tactic| walk_at "subscriptTail Name Name ref int") => `(tactic| walk_at "m:1")
local macro_rules | `(tactic| walk_at "ite") => `(tactic| (k_here; first | rw [if_pos rfl] | rw [if_neg Bool.false_ne_true] | split))
local macro_rules | `(tactic| walk_at "execs cons") => `(tactic| walk_at "m:3")
local macro_rules | `(tactic| walk_at "execs nil") => `(tactic| walk_at "m:4")
local macro_rules | `(tactic| walk_at "eval ListComp") => `(tactic| walk_at "m:5")
theorem WTok.mono {ws : List Value} {zs : List Int} {n k : Nat} (h : WTok ws zs n) (hk : n ≤ k) : WTok ws zs k := by
  obtain ⟨ts, e1, e2, e3, e4⟩ := h
  exact ⟨ts, e1, e2, e3, fun t ht => ⟨(e4 t ht).1, Nat.lt_of_lt_of_le (e4 t ht).2 hk⟩⟩
theorem WTok.app {ws ys : List Value} {zs ms : List Int} {ts : List Tok} {n k : Nat} (h : WTok ws zs n) (e : ys = List.zipWith Value.int ms ts) (el : ms.length = ts.length) (ep : ts.Pairwise (· < ·)) (eb : ∀ t ∈ ts, n ≤ t ∧ t < k) (hk : n ≤ k) (hn : 0 < n) : WTok (ws ++ ys) (zs ++ ms) k := by
  obtain ⟨us, e1, e2, e3, e4⟩ := h
  refine ⟨us ++ ts, by rw [e1, e, List.zipWith_append e2], by simp [e2, el], List.pairwise_append.mpr ⟨e3, ep, fun a ha b hb => Nat.lt_of_lt_of_le (e4 a ha).2 (eb b hb).1⟩, fun t ht => ?_⟩
  rcases List.mem_append.mp ht with ht | ht
  · exact ⟨(e4 t ht).1, Nat.lt_of_lt_of_le (e4 t ht).2 hk⟩
  · exact ⟨Nat.lt_of_lt_of_le hn (eb t ht).1, (eb t ht).2⟩
theorem wd_pick {g h : Heap} {L : Addr} {nw D I sl wl cl k : Addr × Obj} (N : News g L h [nw, D, I, sl, wl, cl, k]) : News g L h [I, sl, nw, cl, k] := (nws N (.tail _ (.tail _ (.head _))) (nws N (.tail _ (.tail _ (.tail _ (.head _)))) (nws N (.head _) (ntl (ntl (ntl (ntl (ntl N))))))))
theorem wdmap2_in {M : Str → Option Value} {wl cl l : Addr} (h0 : M (Str.ofString "words") = some (.ref wl)) (h1 : M (Str.ofString "cells") = some (.ref cl)) (h2 : M (Str.ofString "script") = some (.ref l)) : ∀ y, M y = wdMap2 wl cl l M y := fun y => by
  unfold wdMap2
  split
  · rename_i e; rw [e, h0]
  · exact wdmap_in h1 h2 y
set_option maxRecDepth 100000 in
set_option maxHeartbeats 4000000 in
theorem words_body2 (w : World) {p : Program} {loose : List Str} {mean : ExcName → Option Value} {mg mb : Str → Option Value}
  (dp un : Nat) (gd : Option (List Code)) (fr : List Env) (base : Heap) (s : Shared) (E : Value → Shared → Prop) (R : Flow → Shared → Prop)
  (XB : (Mine.hd.heap_39 w.params).In base) (TB : Top p loose mean mg mb base)
  {L : Addr} {env : Env} {target target2 : Expr} {body body2 : List Stmt} (hb : WordsFor (Mine.hd.heap_39 w.params) L env target body target2 body2)
  {g : Heap} {m : Str → Option Value} {cl l I sl wl : Addr} {cs sv ws : List Value} {zs : List Int} {o' : Obj} {i cap : Nat} {c z0 : Int} {tc t0 : Tok} {ov : Option Value}
  (B : Below (kA dp un gd fr) base fr g) (F : Fr g L s.heap (wdMap2 wl cl l m)) (hov : o'.data = .cell ov)
  (N : News g L s.heap ((I, liObj sl (i + 1)) :: (sl, W.listOf sv.toArray 0) :: (wl, W.listOf ws.toArray cap) :: (cl, W.listOf cs.toArray 0) :: (L + 1, o') :: []))
  (hw : WTok ws zs s.toks) (hi : IntsAre ws zs) (hz : zs.length ≤ 16) (hw0 : ws.toArray[(0 : Int).toNat]? = some (.int z0 t0)) (hw0' : zs[0]? = some z0)
  (d1 : (@Ne Nat I (L + 1))) (d2 : (@Ne Nat sl (L + 1))) (d3 : (@Ne Nat wl (L + 1))) (d4 : (@Ne Nat cl (L + 1)))
  (hR : ∀ h' tk' m' wl' ws' zs' cap' o'' ov', Fr g L h' (wdMap2 wl' cl l m') → News g L h' [(I, liObj sl (i + 1)), (sl, W.listOf sv.toArray 0), (wl', W.listOf (List.toArray ws') cap'), (cl, W.listOf cs.toArray 0), (L + 1, o'')] → o''.data = .cell ov' → (@Ne Nat wl' (L + 1)) →
    WTok ws' zs' tk' → zs' = (if (zs.any fun x => x == Builtin.bitXor z0 c) = true then zs else zs ++ zs.map fun x => Builtin.bitXor x c) → R .next { s with heap := h', toks := tk' }) :
  wpAny (model PySem.Challenge.rw_kl0506_01.row.prog w) ((kA dp un gd fr).deeper env) (letOwnedTupleGo target2 (.ref I) (.int c tc)) (fun _ s₁ =>
    wpAny (model PySem.Challenge.rw_kl0506_01.row.prog w) ((kA dp un gd fr).deeper env) (assign target2 env (.int c tc)) (fun _ s₂ => wpAny (model PySem.Challenge.rw_kl0506_01.row.prog w) ((kA dp un gd fr).deeper env) (execs body2 env) R E s₂) E s₁) E s := by
  have X0 : (Mine.hd.heap_39 w.params).In g := XB.keeps B.stays
  have T0 : Top p loose mean mg mb g := TB.keeps B.stays
  obtain ⟨rfl, s1, s3, s5, iter, pos, iter2, pos2, hbd⟩ := hb _ _ _ _ _ _ _ _ _ _ _ _ _ _ _ (by k_dflt k_is)
  injection hbd with _ hbd
  injection hbd with _ hbd
  injection hbd with _ hbd
  injection hbd with e _
  injection e with e1 _ e2 _ _
  subst e1
  subst e2
  have a1 : (0 : Int) ≤ 0 := by walk_at "lo"
  have a2 : (0 : Int) < 2 ^ 63 := by walk_at "lo"
  refine wpAny_pure ?_
  k_steps
  · rename Fr _ _ _ _ => F6
    rename News _ _ _ _ => N6
    have hwl : ws.length = zs.length := by have := hi.length; walk_at "lo"
    refine ⟨wl, ws, _, _, rfl, rfl, F6, N6, .inr ⟨_, by k_mem, rfl, _, rfl⟩, by walk_at "lo", fun i ys tk => s.toks + 1 + 1 ≤ tk ∧ ∃ ts : List Tok, ys = List.zipWith Value.int ((zs.take i).map fun x => Builtin.bitXor x c) ts ∧ ts.length = i ∧ ts.Pairwise (· < ·) ∧ ∀ t ∈ ts, s.toks + 1 + 1 ≤ t ∧ t < tk, ⟨Nat.le_refl _, [], by simp, rfl, .nil, by simp⟩, ?mono, ?turn, ?fin⟩
    case mono =>
      intro i ys tk tk' hle hz; obtain ⟨e0, ts, e1, e2, e3, e4⟩ := hz
      exact ⟨Nat.le_trans e0 hle, ts, e1, e2, e3, fun t ht => ⟨(e4 t ht).1, Nat.lt_of_lt_of_le (e4 t ht).2 hle⟩⟩
    case turn =>
      intro i ys v I5 C5 D5 oC5 m5 h5 tk5 E5 hv hJ hC hx F5 N5 off5 ne5
      obtain ⟨z, t, rfl, hz⟩ := IntsAre.at hi i v hv
      clear F6 N6
      k_steps
      obtain ⟨e0, ts, e1, e2, e3, e4⟩ := hJ
      have hlt : i < zs.length := (List.getElem?_eq_some_iff.mp hz).1
      refine ⟨_, _, rfl, F5, N5, Nat.le_succ_of_le e0, ts ++ [tk5], ?_, by simp [e2], List.pairwise_append.mpr ⟨e3, List.pairwise_singleton .., fun a ha b hb => by rw [List.mem_singleton.mp hb]; exact (e4 a ha).2⟩, fun t ht => ?_⟩
      · rw [List.take_add_one, hz, List.map_append, e1, List.zipWith_append (by simp [e2]; walk_at "lo")]
        rfl
      · rcases List.mem_append.mp ht with ht | ht
        · exact ⟨(e4 t ht).1, Nat.lt_succ_of_lt (e4 t ht).2⟩
        · rw [List.mem_singleton.mp ht]; exact ⟨e0, Nat.lt_succ_self _⟩
    case fin =>
      intro D h tk ys hJ F N hD
      clear F6 N6
      obtain ⟨e0, ts, e1, e2, e3, e4⟩ := hJ
      have hyl : ys.length ≤ 16 := by rw [e1]; simp; walk_at "lo"
      refine kmk_add_lit (its := ws.toArray) (its2 := ys.toArray) (zs := ws ++ ys) F N (by is_list) (by is_list) (by simp) ?_ (by rw [sizeLine_eq]; simp; walk_at "lo")
      intro D2 h9 F9 N9 lt9
      have hD2 : (@Ne Nat D2 (L + 1)) := Nat.ne_of_gt (lt9 (L + 1, _) (by k_mem))
      clear F N
      k_steps
      rename Fr _ _ _ _ => Fx
      rename News _ _ _ _ => Nx
      rename (!zs.any fun x => x == Builtin.bitXor z0 c) = true => hany
      have hany' : (zs.any fun x => x == Builtin.bitXor z0 c) = false := by simpa using hany
      have hz2 : ws.length = zs.length := by have := hi.length; walk_at "lo"
      refine hR _ _ _ D2 (ws ++ ys) (zs ++ zs.map fun x => Builtin.bitXor x c) _ _ _ (Fr.as Fx (wdmap2_in rfl rfl rfl)) (wd_pick Nx) (by assumption) hD2 ((hw.mono (by walk_at "lo" : s.toks ≤ s.toks + 1 + 1)).app (ts := ts) (by rw [e1, hz2, List.take_length]) (by simp [e2, hz2]) e3 (fun t ht => ⟨(e4 t ht).1, Nat.lt_of_lt_of_le (e4 t ht).2 (Nat.le_succ _)⟩) (Nat.le_succ_of_le e0) (by walk_at "lo")) (by rw [hany']; rfl)
  · rename Fr _ _ _ _ => Fx
    rename News _ _ _ _ => Nx
    rename ¬ _ => hany
    have hany' : (zs.any fun x => x == Builtin.bitXor z0 c) = true := by simpa using hany
    exact hR _ _ m wl ws zs _ _ _ Fx Nx (by assumption) d3 (hw.mono (by walk_at "lo")) (by rw [hany']; rfl)
end SWd3
section SWd4
open PySem PySem.W PyProof.Rows PySem.Calls PySem.Spec
set_option maxRecDepth 100000
noncomputable def wstep (z0 : Int) (zs : List Int) (c : Int) : List Int := if (zs.any fun x => x == Builtin.bitXor z0 c) = true then zs else zs ++ zs.map fun x => Builtin.bitXor x c
theorem ints_zip : ∀ (zs : List Int) (ts : List Tok), zs.length = ts.length → IntsAre (List.zipWith Value.int zs ts) zs
  | [], _, _ => by simpa using IntsAre.nil
  | z :: r, [], h => by simp at h
  | z :: r, t :: u, h => .cons z t (ints_zip r u (by simpa using h))
theorem WTok.ints {ws : List Value} {zs : List Int} {n : Nat} (h : WTok ws zs n) : IntsAre ws zs := by
  obtain ⟨ts, rfl, e2, _, _⟩ := h
  exact ints_zip zs ts e2
theorem wstep_len {z0 : Int} {zs : List Int} {c : Int} : (wstep z0 zs c).length ≤ 2 * zs.length := by
  unfold wstep
  split
  · walk_at "lo"
  · simp; walk_at "lo"
theorem wstep_head {z0 : Int} {zs : List Int} {c : Int} (h : zs[0]? = some z0) : (wstep z0 zs c)[0]? = some z0 := by
  unfold wstep
  split
  · exact h
  · rw [List.getElem?_append_left (List.getElem?_eq_some_iff.mp h).1]; exact h
section
variable (w : World) {p : Program} {loose : List Str} {mean : ExcName → Option Value} {mg mb : Str → Option Value}
  (dp un : Nat) (gd : Option (List Code)) (fr : List Env) (base : Heap)
set_option maxHeartbeats 4000000 in
theorem words_turns2 (E : Value → Shared → Prop) (Q : Flow → Shared → Prop)
  (XB : (Mine.hd.heap_39 w.params).In base) (TB : Top p loose mean mg mb base)
  {L : Addr} {env : Env} {target2 : Expr} {body2 : List Stmt} (hb : ∃ target body, WordsFor (Mine.hd.heap_39 w.params) L env target body target2 body2)
  {g : Heap} {cl l I sl : Addr} {cs sv : List Value} {ns : List Int} {z0 : Int}
  (B : Below (kA dp un gd fr) base fr g) (hi : IntsAre sv ns) (h4 : ns.length = 4) (d1 : (@Ne Nat I (L + 1))) (d2 : (@Ne Nat sl (L + 1))) (d4 : (@Ne Nat cl (L + 1))) (s : Shared)
  (dI : (@Ne Nat sl I)) (dIc : (@Ne Nat cl I))
  (hQ : ∀ h tk m wl ws cap, Fr g L h (wdMap2 wl cl l m) → (∃ o, h.get? wl = some o ∧ o = W.listOf (List.toArray ws) cap) → g.get? wl = none → WTok ws (ns.foldl (wstep z0) [z0]) tk → Q .next { s with heap := h, toks := tk }) :
  ∀ (k i : Nat) (h : Heap) (tk : Nat) (m : Str → Option Value) (wl : Addr) (ws : List Value) (cap : Nat) (o' : Obj) (ov : Option Value), i + k = 4 → Fr g L h (wdMap2 wl cl l m) →
    News g L h [(I, liObj sl i), (sl, W.listOf sv.toArray 0), (wl, W.listOf ws.toArray cap), (cl, W.listOf cs.toArray 0), (L + 1, o')] → o'.data = .cell ov → (@Ne Nat wl (L + 1)) → (@Ne Nat wl I) →
    WTok ws ((ns.take i).foldl (wstep z0) [z0]) tk → ((ns.take i).foldl (wstep z0) [z0])[0]? = some z0 → ((ns.take i).foldl (wstep z0) [z0]).length ≤ 2 ^ i →
    TRest PySem.Challenge.rw_kl0506_01.row.prog w ((kA dp un gd fr).deeper env) E env target2 body2 Q I (k + 1) { s with heap := h, toks := tk } := by
  obtain ⟨target, body, hb⟩ := hb
  intro k
  induction k with
  | zero =>
    intro i h tk m wl ws cap o' ov hik F N hov d3 dIw hw hz hlen
    have ne : ∀ p ∈ [(sl, W.listOf sv.toArray 0), (wl, W.listOf ws.toArray cap), (cl, W.listOf cs.toArray 0), (L + 1, o')], p.1 ≠ I := List.forall_mem_cons.mpr ⟨dI, List.forall_mem_cons.mpr ⟨dIw, List.forall_mem_cons.mpr ⟨dIc, List.forall_mem_cons.mpr ⟨Ne.symm d1, List.forall_mem_nil _⟩⟩⟩⟩
    refine li_pyend (s := { s with heap := h, toks := tk }) (items := sv.toArray) F N ne ⟨_, (N (sl, _) (by k_mem)).1, rfl, _, rfl⟩ (by have := hi.length; simp; walk_at "lo") rfl fun h' F' N' => ?_
    have e : ns.take i = ns := by rw [List.take_of_length_le]; walk_at "lo"
    rw [e] at hw
    exact hQ h' tk m wl ws cap F' ⟨_, (N' (wl, _) (by k_mem)).1, rfl⟩ (N' (wl, W.listOf ws.toArray cap) (by k_mem)).2.2 hw
  | succ k ih =>
    intro i h tk m wl ws cap o' ov hik F N hov d3 dIw hw hz hlen
    have ne : ∀ p ∈ [(sl, W.listOf sv.toArray 0), (wl, W.listOf ws.toArray cap), (cl, W.listOf cs.toArray 0), (L + 1, o')], p.1 ≠ I := List.forall_mem_cons.mpr ⟨dI, List.forall_mem_cons.mpr ⟨dIw, List.forall_mem_cons.mpr ⟨dIc, List.forall_mem_cons.mpr ⟨Ne.symm d1, List.forall_mem_nil _⟩⟩⟩⟩
    have hin : i < ns.length := by walk_at "lo"
    have hl' : i < sv.length := by have := hi.length; walk_at "lo"
    obtain ⟨c, tc, ec, hc⟩ := IntsAre.at hi i sv[i] (by simp [hl'])
    refine li_pynext (s := { s with heap := h, toks := tk }) (items := sv.toArray) F N (UpdF.head ne) ⟨_, (N (sl, _) (by k_mem)).1, rfl, _, rfl⟩ (x := .int c tc) (by simp [hl', ec]) fun h' F' N' => ?_
    have hi2 := hw.ints
    obtain ⟨t0, ht0⟩ : ∃ t0, ws.toArray[(0 : Int).toNat]? = some (.int z0 t0) := by
      have h0 : 0 < ws.length := by have := hi2.length; have := (List.getElem?_eq_some_iff.mp hz).1; walk_at "lo"
      obtain ⟨z, t, e, hz'⟩ := IntsAre.at hi2 0 ws[0] (by simp [h0])
      rw [hz] at hz'
      cases hz'
      exact ⟨t, by simp [h0, e]⟩
    have hp : 2 ^ i ≤ 2 ^ 4 := Nat.pow_le_pow_right (by decide) (by walk_at "lo")
    have htk : ns.take (i + 1) = ns.take i ++ [c] := by rw [List.take_add_one, hc]; rfl
    refine words_body2 w dp un gd fr base { s with heap := h', toks := tk } E _ XB TB hb (z0 := z0) (t0 := t0) (zs := (ns.take i).foldl (wstep z0) [z0]) (cs := cs) (sv := sv) (ws := ws) (wl := wl) (cl := cl) (l := l) (sl := sl) (cap := cap) (o' := o') (ov := ov) B F' hov N' hw hi2 (by walk_at "lo") ht0 hz d1 d2 d3 d4 ?_
    intro h'' tk'' m' wl' ws' zs' cap' o'' ov' F'' N'' hov' d3' hw' hzs
    have e : zs' = (ns.take (i + 1)).foldl (wstep z0) [z0] := by rw [htk, List.foldl_append]; exact hzs
    subst e
    refine ih (i + 1) h'' tk'' m' wl' ws' cap' o'' ov' (by walk_at "lo") F'' N'' hov' d3' ?_ hw' ?_ ?_
    · exact neO (N'' (wl', _) (by k_mem)).1 (N'' (I, _) (by k_mem)).1 (by intro q; injection q with q; revert q; decide)
    · rw [htk, List.foldl_append]; exact wstep_head hz
    · rw [htk, List.foldl_append]
      exact Nat.le_trans wstep_len (by rw [Nat.pow_succ]; walk_at "lo")
end
end SWd4
section SWd5
open PySem PySem.W PyProof.Rows PySem.Calls PySem.Spec
theorem fresh_Wd5 : True := by
  w_top off
  trivial
local macro_rules | `(tactic| walk_at "execs cons") => `(tactic| walk_at "m:3")
local macro_rules | `(tactic| walk_at "execs nil") => `(tactic| walk_at "m:4")
local macro_rules | `(tactic| walk_at "subscriptTail") => `(tactic| walk_at "m:1")
local macro_rules | `(tactic| walk_at "subscriptTail Name BinOp ref int") => `(tactic| walk_at "m:1")
local macro_rules | `(tactic| walk_at "subscriptTail Name Name ref int") => `(tactic| walk_at "m:1")
local macro_rules | `(tactic| walk_at "exec For") => `(tactic| walk_at "m:2")
local macro_rules | `(tactic| walk_at "exec For Name Call cons nil") => `(tactic| walk_at "m:2")
local macro_rules | `(tactic| walk_at "exec For Name Subscript cons nil") => `(tactic| walk_at "m:2")
theorem cells_ints : ∀ {cs : List Value}, (∀ c ∈ cs, ∃ z t, c = Value.int z t ∧ 0 ≤ z ∧ z < 64) → ∃ cz : List Int, IntsAre cs cz ∧ ∀ c ∈ cz, 0 ≤ c ∧ c < 64
  | [], _ => ⟨[], .nil, List.forall_mem_nil _⟩
  | c :: _, h =>
    have ⟨z, t, e, b⟩ := h c (.head _)
    have ⟨cz, i, hb⟩ := cells_ints fun x hx => h x (.tail _ hx)
    ⟨z :: cz, e ▸ .cons z t i, List.forall_mem_cons.mpr ⟨b, hb⟩⟩
theorem CellsOK.ints {cs : List Value} (h : CellsOK cs) : ∃ cz : List Int, IntsAre cs cz ∧ cz.length = 5 ∧ (∀ c ∈ cz, 0 ≤ c ∧ c < 64) ∧ ∃ z t, cs.toArray[(4 : Int).toNat]? = some (.int z t) ∧ 0 ≤ z ∧ z < 64 := by
  obtain ⟨cz, i, hb⟩ := cells_ints (cs := cs) fun c hc => by
    obtain ⟨j, hj, e⟩ := List.getElem_of_mem hc
    obtain ⟨z, t, e2, b⟩ := h.2 j (h.1 ▸ hj)
    exact ⟨z, t, Option.some.inj ((e ▸ (List.getElem?_eq_getElem hj).symm).trans e2), b⟩
  refine ⟨cz, i, i.length.symm.trans h.1, hb, ?_⟩
  obtain ⟨z, t, e, b⟩ := h.2 4 (by decide)
  exact ⟨z, t, List.getElem?_toArray.trans e, b⟩
section
variable (w : World) {p : Program} {loose : List Str} {mean : ExcName → Option Value} {mg mb : Str → Option Value}
  (dp un : Nat) (gd : Option (List Code)) (fr : List Env) (base : Heap)
set_option maxRecDepth 100000 in
set_option maxHeartbeats 4000000 in
theorem words_c (s : Shared) (Q E : Value → Shared → Prop)
  (H : Amid base fr s.heap) (XB : (Mine.hd.heap_39 w.params).In base) (TB : Top p loose mean mg mb base) (hd : dp + 4 < recursionLimit) (hu : un + 30 < cLine)
  {l : Addr} {vs : List Value} {ns : List Int} (hl : s.heap.IsList l vs.toArray) (hi : IntsAre vs ns) (h64 : ns.length < 64)
  (ret : ∀ D ws zs cap z0 (cs : List Int) (h' : Heap) (tk' : Nat), Keeps [] s.heap h' → h'.get? D = some (W.listOf (List.toArray ws) cap) → s.heap.get? D = none → WTok ws zs tk' → cs.length = 4 → (∀ c ∈ cs, 0 ≤ c ∧ c < 64) → -32 ≤ z0 → z0 < 32 → zs = cs.foldl (wstep z0) [z0] → Q (.ref D) { s with heap := h', toks := tk' }) :
  wpAny (model PySem.Challenge.rw_kl0506_01.row.prog w) (kA dp un gd fr) (call (.ref 319) [.ref l]) Q E s := by
  refine wpAny_call ?_
  k_dflt (refine' enterC H XB TB ?k6 ?k7 ?k8 ?k9 ?kB ?kD ?_ ?c2 ?c3 ?c4; (case k6 => k_is); (case k7 => k_is); (case k8 => ktr_room); (case k9 => first | exact BindsTo.of_eq rfl | exact binds_K (XB.keeps H.stays) rfl (by k_is) rfl rfl rfl); (case kB => exact rfl); (case kD => decide +kernel); (case c2 => exact rfl); (case c3 => exact rfl); (case c4 => exact rfl); k_whole; intro L' h' tk' cells' F' N' Y' B' X' T' D'; k_cells Y'; (try dsimp only); (try k_fold))
  k_steps
  rename Fr _ _ _ _ => F1
  rename News _ _ _ _ => N1
  rename IsRange _ _ _ _ _ _ _ _ => R1
  refine ri_pyiter F1 N1 R1 (small_one (by walk_at "lo") (by walk_at "lo") (by walk_at "lo") (by walk_at "lo")) (rangeSize_nat _ _) ?_
  intro I h2 F2 N2 lt2
  have e0 : (((ns.length : Int) - 0).toNat : Int) = (ns.length : Nat) := by walk_at "lo"
  rw [e0] at N2
  have o1 := N1 _ (.head _)
  have hIc : (@Ne Nat I _) := Nat.ne_of_gt (lt2 _ (.head _))
  have hIL : (@Ne Nat (L' + 1) I) := Nat.ne_of_lt (lt2 (L' + 1, _) (by k_mem))
  refine ⟨I, ns.length + 1, rfl, ?_⟩
  refine words_turns1 w dp un gd fr base _ _ XB TB ?hb B' hl hi h64 hIc ?hLc hIL _ ?hQ ns.length 0 h2 _ _ _ (by walk_at "lo") (Fr.as F2 (wdmap_in (l := l) rfl rfl)) N2 ?hc
  case hb =>
    apply Exists.intro
    apply Exists.intro
    · intro oc od osl nm qn ps bd sc dV kV doc pm an cdv ct h
      refine (fun h2 => ?_) (show (Mine.hd.heap_39 w.params).lookup 319 = some ⟨_, _, .func (fnOf _ _ _ _ _ _ _ _ _ _ _ _), _⟩ by k_dflt k_is)
      rw [h2] at h
      cases h
      exact ⟨rfl, _, _, _, _, _, _, _, rfl⟩
  case hLc => k_ne
  case hc =>
    refine ⟨rfl, fun j hj => ?_⟩
    match j, hj with
    | 0, _ => exact ⟨_, _, rfl, by walk_at "lo", by walk_at "lo"⟩
    | 1, _ => exact ⟨_, _, rfl, by walk_at "lo", by walk_at "lo"⟩
    | 2, _ => exact ⟨_, _, rfl, by walk_at "lo", by walk_at "lo"⟩
    | 3, _ => exact ⟨_, _, rfl, by walk_at "lo", by walk_at "lo"⟩
    | 4, _ => exact ⟨_, _, rfl, by walk_at "lo", by walk_at "lo"⟩
  case hQ =>
    intro h3 tk3 m3 cs F3 N3 hcs
    dsimp only at F3 N3 ⊢
    obtain ⟨cz, hci, hc5, hcb, z, t, hz, z0, z1⟩ := hcs.ints
    have a1 : (0 : Int) ≤ 4 := by walk_at "lo"
    have a2 : (4 : Int) < 2 ^ 63 := by walk_at "lo"
    clear F2 N2 F1 N1 hcs
    k_steps
    rename Fr _ _ _ _ => F4
    rename News _ _ _ _ => N4
    rename IntsAre _ (List.take 4 cz) => hI4
    refine li_pyiter F4 N4 (by is_list) ?_
    intro I2 h5 F5 N5 lt5
    refine ⟨I2, 5, rfl, ?_⟩
    refine words_turns2 w dp un gd fr base _ _ XB TB ?hb2 B' (z0 := cz.getD (Int.toNat 4) 0 - 32) (l := l) (cs := cs) hI4 ?h4 ?d1 ?d2 ?d4 _ ?dI ?dIc ?hQ2 4 0 h5 _ _ _ [Value.int (cz.getD (Int.toNat 4) 0 - 32) (tk3 + 1 + 1)] 0 _ _ rfl (Fr.as F5 (wdmap2_in (l := l) rfl rfl rfl)) N5 (by assumption) ?d3 ?dIw ?hw rfl (by simp)
    case hb2 =>
      apply Exists.intro
      apply Exists.intro
      · intro oc od osl nm qn ps bd sc dV kV doc pm an cdv ct h
        refine (fun h2 => ?_) (show (Mine.hd.heap_39 w.params).lookup 319 = some ⟨_, _, .func (fnOf _ _ _ _ _ _ _ _ _ _ _ _), _⟩ by k_dflt k_is)
        rw [h2] at h
        cases h
        exact ⟨rfl, _, _, _, _, _, _, _, rfl⟩
    case h4 => simp [hc5]
    case d1 => exact Nat.ne_of_gt (lt5 (L' + 1, _) (by k_mem))
    case d2 => k_ne
    case d4 => k_ne
    case dI => exact Nat.ne_of_lt (lt5 _ (.head _))
    case dIc => exact Nat.ne_of_lt (lt5 (_, W.listOf cs.toArray 0) (by k_mem))
    case d3 => k_ne
    case dIw => exact Nat.ne_of_lt (lt5 (_, W.listOf #[Value.int (cz.getD (Int.toNat 4) 0 - 32) (tk3 + 1 + 1)] 0) (by k_mem))
    case hw =>
      exact ⟨[tk3 + 1 + 1], rfl, rfl, List.pairwise_singleton .., fun t ht => by rw [List.mem_singleton.mp ht]; exact ⟨Nat.succ_pos _, by first | exact Nat.lt_succ_self _ | (dsimp only; show (@LT.lt Nat _ _ _); walk_at "lo")⟩⟩
    case hQ2 =>
      intro h6 tk6 m6 wl ws cap F6 N6 hn6 hw6
      dsimp only
      clear F5 N5 F4 N4
      k_steps
      obtain ⟨o, ho, rfl⟩ := N6
      have hm : cz.getD (Int.toNat 4) 0 ∈ cz := kso_getD (by rw [hc5]; decide)
      have hb4 := hcb _ hm
      exact ret wl ws _ cap _ (List.take 4 cz) h6 tk6 (fun b o e _ => F6.keep b o e) ho hn6 hw6 (by simp [hc5]) (fun c hc => hcb c (List.mem_of_mem_take hc)) (by walk_at "lo") (by walk_at "lo") rfl
end
end SWd5
section STog
open PySem PySem.W PyProof.Rows PySem.Calls PySem.Spec
theorem fresh_Tog : True := by
  w_top off
  trivial
theorem fold_fst (ns : List Int) : ∀ z : Int, (List.foldl (fun (σ : Int × Unit) n => (Builtin.bitXor σ.1 n, ())) (z, ()) ns).1 = ns.foldl Builtin.bitXor z := by
  induction ns with
  | nil => intro z; rfl
  | cons a r ih => intro z; exact ih _
section
variable (w : World) {p : Program} {loose : List Str} {mean : ExcName → Option Value} {mg mb : Str → Option Value}
  (dp un : Nat) (gd : Option (List Code)) (fr : List Env) (base : Heap)
set_option maxRecDepth 100000 in
set_option maxHeartbeats 4000000 in
theorem together_c (s : Shared) (Q E : Value → Shared → Prop)
  (H : Amid base fr s.heap) (XB : (Mine.hd.heap_39 w.params).In base) (TB : Top p loose mean mg mb base) (hd : dp + 1 < recursionLimit) (hu : un + 8 < cLine)
  {l : Addr} {vs : List Value} {ns : List Int} (hl : s.heap.IsList l vs.toArray) (hi : IntsAre vs ns) (h64 : ns.length < 64)
  (ret : ∀ z t (h' : Heap) (tk' : Nat), Keeps [] s.heap h' → z = ns.foldl Builtin.bitXor 0 → Q (.int z t) { s with heap := h', toks := tk' }) :
  wpAny (model PySem.Challenge.rw_kl0506_01.row.prog w) (kA dp un gd fr) (call (.ref 331) [.ref l]) Q E s := by
  refine wpAny_call ?_
  k_dflt (refine' enterP H XB TB ?k6 ?k7 ?k8 ?k9 ?kB ?_ ?c2 ?c3 ?c4 ?c5; (case k6 => k_is); (case k7 => k_is); (case k8 => ktr_room); (case k9 => exact BindsTo.of_eq rfl); (case c5 => decide); (case kB => exact locs rfl); (case c2 => exact rfl); (case c3 => exact rfl); (case c4 => exact rfl); k_whole; intro L' h' F' N' B' X' T' D'; (try dsimp only); (try k_fold))
  k_steps
  rename Fr _ _ _ _ => Fx
  exact ret _ _ _ _ (fun b o e _ => Fx.keep b o e) (fold_fst ns 0)
end
end STog
section SR3
open PySem PySem.W PyProof.Rows PySem.Calls PySem.Spec
local macro_rules | `(tactic| walk_at "no line") => `(tactic| fail "no line")
theorem fresh_R3 : True := by
  w_top off
  trivial
/-- the loop of _rank: its target and its body, named by where they stand -/
noncomputable def RankFor (K : Frag) (L : Addr) (env : Env) (target : Expr) (body : List Stmt) : Prop :=
  ∀ oc od osl nm qn ps bd sc dV kV doc pm an cdv ct, K.lookup 278 = some ⟨oc, od, .func (fnOf nm qn ps bd sc dV kV doc pm an cdv ct), osl⟩ →
    env = envOf qn sc L 278 cdv ∧ ∃ s1 s2 s3 s4 s5 s7 iter pos, bd = [s1, s2, s3, s4, s5, .For target iter body [] pos, s7]
noncomputable abbrev rkMap (iv : Int) (ti : Tok) (rs : Addr) (m : Str → Option Value) : Str → Option Value := fun y => if y = Str.ofString "i" then some (.int iv ti) else if y = Str.ofString "result" then some (.ref rs) else m y

noncomputable def rkF (iv : Int) : UInt64 := Float64.add (Float64.ofInt iv) (Float64.ofFrac (decide ((1 : Int) + 1 < 0) != decide ((2 : Int) < 0)) ((1 : Int) + 1).natAbs (Int.natAbs 2))
theorem rkmap_as {M : Str → Option Value} {rs : Addr} {v : Int} {t : Tok} (h : M (Str.ofString "result") = some (.ref rs)) : ∀ y, (if y = Str.ofString "i" then some (Value.int v t) else M y) = rkMap v t rs M y := fun y => by
  unfold rkMap
  split
  · rfl
  · split
    · rename_i e; rw [e, h]
    · rfl
theorem news_pick {g h : Heap} {L : Addr} {S gb it rs db kf dk tp l ak : Addr × Obj} {P : List (Addr × Obj)} (N : News g L h (S :: gb :: it :: rs :: db :: kf :: dk :: tp :: l :: ak :: P)) : News g L h (rs :: gb :: db :: it :: kf :: dk :: tp :: l :: P) := (nws N (.tail _ (.tail _ (.tail _ (.head _)))) (nws N (.tail _ (.head _)) (nws N (.tail _ (.tail _ (.tail _ (.tail _ (.head _))))) (nws N (.tail _ (.tail _ (.head _))) (nws N (.tail _ (.tail _ (.tail _ (.tail _ (.tail _ (.head _)))))) (nws N (.tail _ (.tail _ (.tail _ (.tail _ (.tail _ (.tail _ (.head _))))))) (nws N (.tail _ (.tail _ (.tail _ (.tail _ (.tail _ (.tail _ (.tail _ (.head _)))))))) (nws N (.tail _ (.tail _ (.tail _ (.tail _ (.tail _ (.tail _ (.tail _ (.tail _ (.head _))))))))) (ntl (ntl (ntl (ntl (ntl (ntl (ntl (ntl (ntl (ntl N))))))))))))))))))
noncomputable def GObj (n k : Nat) (gbo ito : Obj) (db it kf l : Addr) (a : Nat → Addr) (X : Nat → Int) (Kt : Nat → Tok) : Prop :=
  ∃ tn, (k + 1 < n ∧ gbo = gbNext db it kf k tn a X Kt ∧ ito = liObj l (k + 2)) ∨ (k + 1 = n ∧ gbo = gbTaken db it kf k tn X Kt ∧ ito = liEnd n)
set_option maxRecDepth 100000 in
set_option maxHeartbeats 4000000 in
theorem rank_body (w : World) {p : Program} {loose : List Str} {mean : ExcName → Option Value} {mg mb : Str → Option Value}
  (dp un : Nat) (gd : Option (List Code)) (fr : List Env) (base : Heap) (s : Shared) (E : Value → Shared → Prop) (R : Flow → Shared → Prop)
  (XB : (Mine.hd.heap_39 w.params).In base) (TB : Top p loose mean mg mb base) (hd : dp + 10 < recursionLimit) (hu : un + 100 < cLine)
  {L : Addr} {env : Env} {target : Expr} {body : List Stmt} (hb : RankFor (Mine.hd.heap_39 w.params) L env target body) (hE : PassesOwn (model PySem.Challenge.rw_kl0506_01.row.prog w) ((kA dp un gd fr).deeper env) env E)
  {g : Heap} {m : Str → Option Value} {iv : Int} {ti : Tok} {rs T gr dg gb db it kf dk tp l : Addr} {res : List Value} {tn tz : Tok} {n k lc : Nat} {a : Nat → Addr} {X : Nat → Int} {Kt tb : Nat → Tok} {ix : Nat → Nat} {items : Array Value} {P : List (Addr × Obj)}
  (B : Below (kA dp un gd fr) base fr g) (Dg : KtsDicts (fr.filterMap (·.frame)) g) (F : Fr g L s.heap (rkMap iv ti rs m)) (hk : k < n)
  (N : News g L s.heap ((T, tupO #[.int (X k) (Kt k), .ref gr]) :: (gr, grObj dg (.int (k + 1 : Nat) tn) (.ref gb) (.int (X k) (Kt k))) :: (dg, dictOf [] 0) :: (rs, W.listOf res.toArray 0) :: (gb, gbOpen db it kf k tn a X Kt) :: (db, dictOf [] 0) ::
    (it, liObj l (k + 1)) :: (kf, igObj dk tp) :: (dk, dictOf [] 0) :: (tp, tupO #[.int 0 tz]) :: (l, seqObj "list" items lc) :: (a k, tupO #[.int (X k) (Kt k), .int (ix k) (tb k)]) :: P))
  (hP : ∀ j < n, (a j, tupO #[.int (X j) (Kt j), .int (ix j) (tb j)]) ∈ P) (hPB : ∀ p ∈ P, (@LT.lt Nat _ p.1 rs)) (hi : ∀ j < n, items[j]? = some (.ref (a j))) (hin : items[n]? = none)
  (hiv : iv.natAbs < 1000) (hix : ∀ j < n, ix j < n) (hres : res.length = n) (hn1000 : n ≤ 1000) (hlr : (@Ne Nat l rs)) (hrg : (@LT.lt Nat _ rs gb)) (hri : (@LT.lt Nat _ rs it)) (hK : ∀ i < n, Kt i ≠ 0) (hKd : ∀ i, i + 1 < n → Kt i ≠ Kt (i + 1) ∧ X i ≠ X (i + 1))
  (hR : ∀ g' h' tk' m' ti' res' gbo ito, KtsTurn (fr.filterMap (·.frame)) g g' → Below (kA dp un gd fr) base fr g' → KtsDicts (fr.filterMap (·.frame)) g' → Fr g' L h' (rkMap (iv + 1) ti' rs m') → GObj n k gbo ito db it kf l a X Kt →
    News g' L h' ((rs, W.listOf (List.toArray res') 0) :: (gb, gbo) :: (db, dictOf [] 0) :: (it, ito) :: (kf, igObj dk tp) :: (dk, dictOf [] 0) :: (tp, tupO #[.int 0 tz]) :: (l, seqObj "list" items lc) :: P) → (∃ ft, res' = res.set (ix k) (.float (rkF iv) ft)) → R .next { s with heap := h', toks := tk' }) :
  wpAny (model PySem.Challenge.rw_kl0506_01.row.prog w) ((kA dp un gd fr).deeper env) (letOwnedTupleGo target (.ref gb) (.ref T)) (fun _ s₁ =>
    wpAny (model PySem.Challenge.rw_kl0506_01.row.prog w) ((kA dp un gd fr).deeper env) (assign target env (.ref T)) (fun _ s₂ => wpAny (model PySem.Challenge.rw_kl0506_01.row.prog w) ((kA dp un gd fr).deeper env) (execs body env) R E s₂) E s₁) E s := by
  have X0 : (Mine.hd.heap_39 w.params).In g := XB.keeps B.stays
  have T0 : Top p loose mean mg mb g := TB.keeps B.stays
  obtain ⟨rfl, s1, s2, s3, s4, s5, s7, iter, pos, hbd⟩ := hb _ _ _ _ _ _ _ _ _ _ _ _ _ _ _ (by k_dflt k_is)
  injection hbd with _ hbd
  injection hbd with _ hbd
  injection hbd with _ hbd
  injection hbd with _ hbd
  injection hbd with _ hbd
  injection hbd with e _
  injection e with e1 _ e2 _ _
  subst e1
  subst e2
  refine letGo_inst (N (gb, _) (by k_mem)).1 rfl ?_
  k_steps
  rename Fr _ _ _ _ => F1
  rename News _ _ _ _ => N1
  have H0 : Amid base fr g := ⟨B.stays, B.frames, Dg⟩
  have NP : News g L _ P := fun p hp => N1 p (.tail _ (.tail _ (.tail _ (.tail _ (.tail _ (.tail _ (.tail _ (.tail _ (.tail _ (.tail _ (.tail _ (.tail _ hp))))))))))))
  refine group_list w (dp + 1) (un + 3) gd (_ :: fr) base _ _ _ (amid_push B F1 Dg rfl rfl) XB TB (by walk_at "lo") (by walk_at "lo") hk (b := fun j => .int (ix j) (tb j))
    ⟨(N1 (db, _) (by k_mem)).1, (N1 (kf, _) (by k_mem)).1, (N1 (dk, _) (by k_mem)).1, (N1 (tp, _) (by k_mem)).1, (N1 (l, _) (by k_mem)).1, hi, fun j hj => (NP _ (hP j hj)).1, hin⟩
    (N1 (gr, _) (by k_mem)).1 (N1 (dg, _) (by k_mem)).1 (N1 (gb, _) (by k_mem)).1 (N1 (it, _) (by k_mem)).1 ?hO (fun j hj => off_push H0 rfl (NP _ (hP j hj)).2.2 (NP _ (hP j hj)).2.1) hK hKd ?_
  case hO =>
    repeat' (first | exact aN | refine aC ?_ ?_)
    · exact off_push H0 rfl (N1 (gr, _) (by k_mem)).2.2 (N1 (gr, _) (by k_mem)).2.1
    · exact off_push H0 rfl (N1 (dg, _) (by k_mem)).2.2 (N1 (dg, _) (by k_mem)).2.1
    · exact off_push H0 rfl (N1 (gb, _) (by k_mem)).2.2 (N1 (gb, _) (by k_mem)).2.1
    · exact off_push H0 rfl (N1 (db, _) (by k_mem)).2.2 (N1 (db, _) (by k_mem)).2.1
    · exact off_push H0 rfl (N1 (it, _) (by k_mem)).2.2 (N1 (it, _) (by k_mem)).2.1
    · exact off_push H0 rfl (N1 (kf, _) (by k_mem)).2.2 (N1 (kf, _) (by k_mem)).2.1
    · exact off_push H0 rfl (N1 (dk, _) (by k_mem)).2.2 (N1 (dk, _) (by k_mem)).2.1
    · exact off_push H0 rfl (N1 (tp, _) (by k_mem)).2.2 (N1 (tp, _) (by k_mem)).2.1
    · exact off_push H0 rfl (N1 (l, _) (by k_mem)).2.2 (N1 (l, _) (by k_mem)).2.1
  intro S c h2 tk2 k2 hS fS ga
  have hgb := (N1 (gb, _) (by k_mem))
  have hit := (N1 (it, _) (by k_mem))
  obtain ⟨g2, T2, F2, B2, D2, NN⟩ := turn_keeps B Dg F1 k2 (by
    repeat' (first | exact aN | refine aC ?_ ?_)
    · exact ⟨hgb.2.2, hgb.2.1⟩
    · exact ⟨hit.2.2, hit.2.1⟩)
  have N2 := NN ((rs, W.listOf res.toArray 0) :: (db, dictOf [] 0) :: (kf, igObj dk tp) :: (dk, dictOf [] 0) :: (tp, tupO #[.int 0 tz]) :: (l, seqObj "list" items lc) :: (a k, tupO #[.int (X k) (Kt k), .int (ix k) (tb k)]) :: P)
    (by
      repeat' (first | exact aN | refine aC ?_ ?_)
      · exact N1 (rs, _) (by k_mem)
      · exact N1 (db, _) (by k_mem)
      · exact N1 (kf, _) (by k_mem)
      · exact N1 (dk, _) (by k_mem)
      · exact N1 (tp, _) (by k_mem)
      · exact N1 (l, _) (by k_mem)
      · exact N1 (a k, _) (by k_mem)
      · exact NP)
    (by
      repeat' (first | exact aN | refine aC ?_ ?_)
      · exact not_in2 hgb.1 hit.1 (N1 (rs, _) (by k_mem)).1 (by intro q; cases q) (by intro q; injection q with q; revert q; decide)
      · exact not_in2 hgb.1 hit.1 (N1 (db, _) (by k_mem)).1 (by intro q; cases q) (by intro q; injection q with q; revert q; decide)
      · exact not_in2 hgb.1 hit.1 (N1 (kf, _) (by k_mem)).1 (by intro q; injection q with q; revert q; decide) (by intro q; cases q)
      · exact not_in2 hgb.1 hit.1 (N1 (dk, _) (by k_mem)).1 (by intro q; cases q) (by intro q; injection q with q; revert q; decide)
      · exact not_in2 hgb.1 hit.1 (N1 (tp, _) (by k_mem)).1 (by intro q; cases q) (by intro q; injection q with q; revert q; decide)
      · exact not_in2 hgb.1 hit.1 (N1 (l, _) (by k_mem)).1 (by intro q; cases q) (by intro q; injection q with q; revert q; decide)
      · exact not_in2 hgb.1 hit.1 (N1 (a k, _) (by k_mem)).1 (by intro q; cases q) (by intro q; injection q with q; revert q; decide)
      · intro q hq m
        have := hPB q hq
        simp only [List.mem_cons, List.not_mem_nil, or_false] at m
        rcases m with m | m
        · rw [m] at this; exact Nat.lt_irrefl _ (Nat.lt_trans hrg this)
        · rw [m] at this; exact Nat.lt_irrefl _ (Nat.lt_trans hri this))
  have hSg := T2.none_ _ (kts_none F1.keep fS)
  have hSL : (@Ne Nat S L) := fun q => by
    obtain ⟨oL, _, _, hoL, _⟩ := F1.ns
    rw [q, hoL] at fS; cases fS
  have hSrs : (@Ne Nat S rs) := fun q => by
    have := (N1 (rs, _) (by k_mem)).1
    rw [← q, fS] at this; cases this
  obtain ⟨gbo, ito, hgo, hio, hga⟩ : ∃ gbo ito, h2.get? gb = some gbo ∧ h2.get? it = some ito ∧ GObj n k gbo ito db it kf l a X Kt := by
    obtain ⟨tn', ⟨h1, h2, h3⟩ | ⟨h1, h2, h3⟩⟩ := ga
    · exact ⟨_, _, h2, h3, tn', .inl ⟨h1, rfl, rfl⟩⟩
    · exact ⟨_, _, h2, h3, tn', .inr ⟨h1, rfl, rfl⟩⟩
  replace N2 : News g2 L h2 ((S, seqL [.ref (a k)] c) :: (gb, gbo) :: (it, ito) :: _) := fun q hq => by
    rcases List.mem_cons.mp hq with rfl | hq
    · exact ⟨hS, hSL, hSg⟩
    rcases List.mem_cons.mp hq with rfl | hq
    · exact ⟨hgo, hgb.2.1, T2.none_ _ hgb.2.2⟩
    rcases List.mem_cons.mp hq with rfl | hq
    · exact ⟨hio, hit.2.1, T2.none_ _ hit.2.2⟩
    exact N2 q hq
  have X2 : (Mine.hd.heap_39 w.params).In g2 := XB.keeps B2.stays
  have T2' : Top p loose mean mg mb g2 := TB.keeps B2.stays
  have n_gb := neN (Nat.ne_of_gt hrg)
  have n_it := neN (Nat.ne_of_gt hri)
  have n_db := neO (N1 (db, _) (by k_mem)).1 (N1 (rs, _) (by k_mem)).1 (by intro q; injection q with q; revert q; decide)
  have n_kf := neO (N1 (kf, _) (by k_mem)).1 (N1 (rs, _) (by k_mem)).1 (by intro q; cases q)
  have n_dk := neO (N1 (dk, _) (by k_mem)).1 (N1 (rs, _) (by k_mem)).1 (by intro q; injection q with q; revert q; decide)
  have n_tp := neO (N1 (tp, _) (by k_mem)).1 (N1 (rs, _) (by k_mem)).1 (by intro q; injection q with q; revert q; decide)
  have n_ak := neO (N1 (a k, _) (by k_mem)).1 (N1 (rs, _) (by k_mem)).1 (by intro q; injection q with q; revert q; decide)
  dsimp only at n_db n_kf n_dk n_tp n_ak
  clear NN N1 NP F1 X0 T0 hS hgb hit hgo hio
  k_steps
  rename Fr _ _ _ _ => F3
  rename News _ _ _ _ => N3
  k_dflt (refine t_for ?_ (hE := hE))
  k_steps
  refine li_pyiter F3 N3 (by is_list) ?_
  intro I h4 F4 N4 lI
  have hIS := lI _ (.head _)
  k_lt lI
  refine ⟨I, 2, rfl, ?_⟩
  have hIall : ∀ p ∈ (S, seqL [Value.ref (a k)] c) :: (gb, gbo) :: (it, ito) :: (rs, W.listOf res.toArray 0) :: (db, dictOf [] 0) :: (kf, igObj dk tp) :: (dk, dictOf [] 0) :: (tp, tupO #[.int 0 tz]) :: (l, seqObj "list" items lc) :: (a k, tupO #[Value.int (X k) (Kt k), Value.int (↑(ix k)) (tb k)]) :: P, p.1 ≠ I := by
    refine List.forall_mem_cons.mpr ⟨by k_ne, ?_⟩
    refine List.forall_mem_cons.mpr ⟨by k_ne, ?_⟩
    refine List.forall_mem_cons.mpr ⟨by k_ne, ?_⟩
    refine List.forall_mem_cons.mpr ⟨by k_ne, ?_⟩
    refine List.forall_mem_cons.mpr ⟨by k_ne, ?_⟩
    refine List.forall_mem_cons.mpr ⟨by k_ne, ?_⟩
    refine List.forall_mem_cons.mpr ⟨by k_ne, ?_⟩
    refine List.forall_mem_cons.mpr ⟨by k_ne, ?_⟩
    refine List.forall_mem_cons.mpr ⟨by k_ne, ?_⟩
    refine List.forall_mem_cons.mpr ⟨by k_ne, ?_⟩
    k_all
  refine li_pynext F4 N4 (UpdF.head hIall) (by is_list) (x := .ref (a k)) rfl ?_
  intro h5 F5 N5
  dsimp only
  refine wpAny_letOwnedTupleGo_listiter ⟨_, (N5 _ (.head _)).1, rfl, rfl⟩ ?_
  clear F4 N4 F3 N3
  k_steps
  rename Fr _ _ _ _ => F6
  rename News _ _ _ _ => N6
  have ix1 := hix k hk
  have nIrs : (@Ne Nat I rs) := Nat.ne_of_gt lI.2.2.2.1
  have hrsall : ∀ p ∈ (db, dictOf [] 0) :: (kf, igObj dk tp) :: (dk, dictOf [] 0) :: (tp, tupO #[.int 0 tz]) :: (l, seqObj "list" items lc) :: (a k, tupO #[Value.int (X k) (Kt k), Value.int (↑(ix k)) (tb k)]) :: P, p.1 ≠ rs := by
    refine List.forall_mem_cons.mpr ⟨by k_ne, ?_⟩
    refine List.forall_mem_cons.mpr ⟨by k_ne, ?_⟩
    refine List.forall_mem_cons.mpr ⟨by k_ne, ?_⟩
    refine List.forall_mem_cons.mpr ⟨by k_ne, ?_⟩
    refine List.forall_mem_cons.mpr ⟨by k_ne, ?_⟩
    refine List.forall_mem_cons.mpr ⟨by k_ne, ?_⟩
    k_all
  refine set_li F6 N6 (UpdF.tail nIrs (UpdF.tail hSrs (UpdF.tail n_gb (UpdF.tail n_it (UpdF.head hrsall))))) (by rw [hres]; exact ix1) (by rw [hres]; exact hn1000) ?_
  intro h7 F7 N7
  clear F6 N6
  k_steps
  refine li_pyend F7 N7 ?ne (by is_list) rfl rfl ?_
  case ne =>
    refine List.forall_mem_cons.mpr ⟨by k_ne, ?_⟩
    refine List.forall_mem_cons.mpr ⟨by k_ne, ?_⟩
    refine List.forall_mem_cons.mpr ⟨by k_ne, ?_⟩
    refine List.forall_mem_cons.mpr ⟨by k_ne, ?_⟩
    refine List.forall_mem_cons.mpr ⟨by k_ne, ?_⟩
    refine List.forall_mem_cons.mpr ⟨by k_ne, ?_⟩
    refine List.forall_mem_cons.mpr ⟨by k_ne, ?_⟩
    refine List.forall_mem_cons.mpr ⟨by k_ne, ?_⟩
    refine List.forall_mem_cons.mpr ⟨by k_ne, ?_⟩
    refine List.forall_mem_cons.mpr ⟨by k_ne, ?_⟩
    k_all
  intro h8 F8 N8
  dsimp only
  clear F7 N7
  k_steps
  rename Fr _ _ _ _ => F9
  rename News _ _ _ _ => N9
  exact hR _ _ _ _ _ _ _ _ T2 B2 D2 (Fr.as F9 (rkmap_as rfl)) hga (news_pick N9) ⟨_, rfl⟩
end SR3
section SR4
open PySem PySem.W PyProof.Rows PySem.Calls PySem.Spec
set_option maxRecDepth 100000
theorem open_ledger {g h h' : Heap} {L : Addr} {m : Str → Option Value} {rs T gr dg gb db it kf dk tp l : Addr} {res : List Value} {tn tz : Tok} {k lc : Nat} {a : Nat → Addr} {X : Nat → Int} {Kt tb : Nat → Tok} {ix : Nat → Nat} {items : Array Value} {P : List (Addr × Obj)} {gbo : Obj} {j : Nat}
  (F : Fr g L h m) (hgc : gbo.cls = .ref 124)
  (N : News g L h ((rs, W.listOf res.toArray 0) :: (gb, gbo) :: (db, dictOf [] 0) :: (it, liObj l j) :: (kf, igObj dk tp) :: (dk, dictOf [] 0) :: (tp, tupO #[.int 0 tz]) :: (l, seqObj "list" items lc) :: P))
  (hP : (a k, tupO #[.int (X k) (Kt k), .int (ix k) (tb k)]) ∈ P) (hPB : ∀ p ∈ P, (@LT.lt Nat _ p.1 rs)) (hrg : (@LT.lt Nat _ rs gb)) (hri : (@LT.lt Nat _ rs it))
  (kk : Keeps [gb, it] h h') (hgb : h'.get? gb = some (gbOpen db it kf k tn a X Kt)) (hit : h'.get? it = some (liObj l (k + 1)))
  (hT : IsPair h' T (.int (X k) (Kt k)) (.ref gr)) (hgr : h'.get? gr = some (grObj dg (.int (k + 1 : Nat) tn) (.ref gb) (.int (X k) (Kt k)))) (hdg : h'.get? dg = some (dictOf [] 0))
  (fT : h.get? T = none) (fgr : h.get? gr = none) (fdg : h.get? dg = none) :
  Fr g L h' m ∧ News g L h' ((T, tupO #[.int (X k) (Kt k), .ref gr]) :: (gr, grObj dg (.int (k + 1 : Nat) tn) (.ref gb) (.int (X k) (Kt k))) :: (dg, dictOf [] 0) :: (rs, W.listOf res.toArray 0) :: (gb, gbOpen db it kf k tn a X Kt) :: (db, dictOf [] 0) ::
    (it, liObj l (k + 1)) :: (kf, igObj dk tp) :: (dk, dictOf [] 0) :: (tp, tupO #[.int 0 tz]) :: (l, seqObj "list" items lc) :: (a k, tupO #[.int (X k) (Kt k), .int (ix k) (tb k)]) :: P) := by
  obtain ⟨oL, _, _, hoL, _⟩ := F.ns
  have nL : ∀ b, h.get? b = none → b ≠ L := fun b e q => by rw [q, hoL] at e; cases e
  have ogb := N (gb, gbo) (by k_mem)
  have oit := N (it, liObj l j) (by k_mem)
  have NP : ∀ q ∈ P, h.get? q.1 = some q.2 ∧ q.1 ≠ L ∧ g.get? q.1 = none := fun q hq => N q (.tail _ (.tail _ (.tail _ (.tail _ (.tail _ (.tail _ (.tail _ (.tail _ hq))))))))
  have PW : ∀ q ∈ P, q.1 ∉ [gb, it] := fun q hq m => by
    have := hPB q hq
    simp only [List.mem_cons, List.not_mem_nil, or_false] at m
    rcases m with m | m
    · rw [m] at this; exact Nat.lt_irrefl _ (Nat.lt_trans hrg this)
    · rw [m] at this; exact Nat.lt_irrefl _ (Nat.lt_trans hri this)
  have up : ∀ {b : Addr} {o : Obj}, (h.get? b = some o ∧ b ≠ L ∧ g.get? b = none) → o.cls ≠ .ref 124 → o.cls ≠ .type "list_iterator" → (h'.get? b = some o ∧ b ≠ L ∧ g.get? b = none) := fun {b o} e c1 c2 =>
    ⟨kk _ _ e.1 (not_in2 ogb.1 oit.1 e.1 (by rw [hgc]; exact c1) c2), e.2⟩
  refine ⟨Fr.ofKeeps F kk (fun m => ?_) ?_, ?_⟩
  · simp only [List.mem_cons, List.not_mem_nil, or_false] at m
    rcases m with m | m
    · exact ogb.2.1 m.symm
    · exact oit.2.1 m.symm
  · repeat' (first | exact aN | refine aC ?_ ?_)
    · exact ogb.2.2
    · exact oit.2.2
  · show ∀ q ∈ _, _ ∧ _ ∧ _
    repeat' (first | exact aN | refine aC ?_ ?_)
    · exact ⟨hT, nL _ fT, kts_none F.keep fT⟩
    · exact ⟨hgr, nL _ fgr, kts_none F.keep fgr⟩
    · exact ⟨hdg, nL _ fdg, kts_none F.keep fdg⟩
    · exact up (N (rs, _) (by k_mem)) (by intro q; cases q) (by intro q; injection q with q; revert q; decide)
    · exact ⟨hgb, ogb.2⟩
    · exact up (N (db, _) (by k_mem)) (by intro q; cases q) (by intro q; injection q with q; revert q; decide)
    · exact ⟨hit, oit.2⟩
    · exact up (N (kf, _) (by k_mem)) (by intro q; injection q with q; revert q; decide) (by intro q; cases q)
    · exact up (N (dk, _) (by k_mem)) (by intro q; cases q) (by intro q; injection q with q; revert q; decide)
    · exact up (N (tp, _) (by k_mem)) (by intro q; cases q) (by intro q; injection q with q; revert q; decide)
    · exact up (N (l, _) (by k_mem)) (by intro q; cases q) (by intro q; injection q with q; revert q; decide)
    · exact ⟨kk _ _ (NP _ hP).1 (PW _ hP), (NP _ hP).2⟩
    · exact fun q hq => ⟨kk _ _ (NP q hq).1 (PW q hq), (NP q hq).2⟩

theorem rank_pick {g h : Heap} {L : Addr} {it gb db tp e kf dk rs l0 Dd : Addr × Obj} {P : List (Addr × Obj)} (N : News g L h (it :: gb :: db :: tp :: e :: kf :: dk :: rs :: l0 :: Dd :: P)) : News g L h (rs :: gb :: db :: it :: kf :: dk :: tp :: Dd :: P) := (nws N (.tail _ (.tail _ (.tail _ (.tail _ (.tail _ (.tail _ (.tail _ (.head _)))))))) (nws N (.tail _ (.head _)) (nws N (.tail _ (.tail _ (.head _))) (nws N (.head _) (nws N (.tail _ (.tail _ (.tail _ (.tail _ (.tail _ (.head _)))))) (nws N (.tail _ (.tail _ (.tail _ (.tail _ (.tail _ (.tail _ (.head _))))))) (nws N (.tail _ (.tail _ (.tail _ (.head _)))) (nws N (.tail _ (.tail _ (.tail _ (.tail _ (.tail _ (.tail _ (.tail _ (.tail _ (.tail _ (.head _)))))))))) (ntl (ntl (ntl (ntl (ntl (ntl (ntl (ntl (ntl (ntl N))))))))))))))))))
theorem getD_at {σ : List Nat} {j : Nat} (hj : j < σ.length) : σ.getD j 0 = σ[j] := by simp [List.getD, hj]
theorem getD_mem' {σ : List Nat} {j : Nat} (hj : j < σ.length) : σ.getD j 0 ∈ σ := by
  rw [getD_at hj]; exact List.getElem_mem hj
theorem perm_lt {σ : List Nat} {n j : Nat} (h : σ.Perm (List.range n)) (hj : j < n) : σ.getD j 0 < n := by
  have hl : σ.length = n := by simpa using h.length_eq
  have := h.mem_iff.mp (getD_mem' (hl ▸ hj : j < σ.length))
  simpa using this
theorem perm_inj {σ : List Nat} {n i j : Nat} (h : σ.Perm (List.range n)) (hi : i < n) (hj : j < n) (e : σ.getD i 0 = σ.getD j 0) : i = j := by
  have hl : σ.length = n := by simpa using h.length_eq
  have nd : σ.Nodup := h.nodup_iff.mpr List.nodup_range
  rw [getD_at (hl ▸ hi : i < σ.length), getD_at (hl ▸ hj : j < σ.length)] at e
  exact (List.getElem?_inj (hl ▸ hi : i < σ.length) nd).mp (by rw [List.getElem?_eq_getElem (hl ▸ hi : i < σ.length), List.getElem?_eq_getElem (hl ▸ hj : j < σ.length), e])
theorem keepsS_of {g h h' : Heap} {L : Addr} {m : Str → Option Value} {fs : List Addr} (T : KtsTurn fs g h) (F : Fr h L h' m) : KeepsS [] fs g h' := ⟨fun b o e _ q => F.keep _ _ (T.other b o e q), fun b o e _ q => by
  obtain ⟨sl, e2⟩ := T.frame b o e q
  exact ⟨sl, F.keep _ _ e2⟩⟩
theorem rkmap_in {M : Str → Option Value} {rs : Addr} {v v' : Int} {t : Tok} (h1 : M (Str.ofString "i") = some (.int v t)) (h2 : M (Str.ofString "result") = some (.ref rs)) (hv : v = v') : ∀ y, M y = rkMap v' t rs M y := fun y => by
  subst hv
  unfold rkMap
  split
  · rename_i e; rw [e, h1]
  · split
    · rename_i e; rw [e, h2]
    · rfl
/-- before the turn k of the loop -/
noncomputable def GBefore (n k : Nat) (gbo ito : Obj) (db it kf l : Addr) (a : Nat → Addr) (X : Nat → Int) (Kt : Nat → Tok) : Prop :=
  (k = 0 ∧ (∃ cg tn, gbo = gbObj db cg .none .none (.bool false) (.bool false) (.bool false) (.ref it) (.ref kf) (.int (0 : Nat) tn) .none) ∧ ito = liObj l 0) ∨ (∃ k', k = k' + 1 ∧ GObj n k' gbo ito db it kf l a X Kt)
noncomputable def ResOK (n k : Nat) (st : Int) (ix : Nat → Nat) (res : List Value) : Prop := res.length = n ∧ ∀ j < k, ∃ ft, res[ix j]? = some (.float (rkF (st - 1 + j)) ft)

section
variable (w : World) {p : Program} {loose : List Str} {mean : ExcName → Option Value} {mg mb : Str → Option Value}
  (dp un : Nat) (gd : Option (List Code)) (fr : List Env) (base : Heap) (E : Value → Shared → Prop) (Q : Flow → Shared → Prop)
set_option maxHeartbeats 4000000 in
theorem rank_turns (XB : (Mine.hd.heap_39 w.params).In base) (TB : Top p loose mean mg mb base) (hd : dp + 10 < recursionLimit) (hu : un + 100 < cLine)
  {L : Addr} {env : Env} {target : Expr} {body : List Stmt} (henv : ∃ name scope a cd, env = envOf name scope L a cd ∧ scope.kind = .function) (htg : ∃ es x1 pos, target = .Tuple es x1 pos) (hb : RankFor (Mine.hd.heap_39 w.params) L env target body) (hE : PassesOwn (model PySem.Challenge.rw_kl0506_01.row.prog w) ((kA dp un gd fr).deeper env) env E)
  {g₀ : Heap} {st : Int} {rs gb db it kf dk tp l : Addr} {tz : Tok} {n lc : Nat} {a : Nat → Addr} {X : Nat → Int} {Kt tb : Nat → Tok} {ix : Nat → Nat} {items : Array Value} {P : List (Addr × Obj)}
  (hst : st.natAbs < 100) (hn : n < 64) (hix : ∀ j < n, ix j < n) (hixi : ∀ i j, i < n → j < n → ix i = ix j → i = j) (hlr : (@Ne Nat l rs)) (hrg : (@LT.lt Nat _ rs gb)) (hri : (@LT.lt Nat _ rs it))
  (hP : ∀ j < n, (a j, tupO #[.int (X j) (Kt j), .int (ix j) (tb j)]) ∈ P) (hPB : ∀ p ∈ P, (@LT.lt Nat _ p.1 rs)) (hi : ∀ j < n, items[j]? = some (.ref (a j))) (hin : items[n]? = none)
  (hK : ∀ i < n, Kt i ≠ 0) (hKd : ∀ i, i + 1 < n → Kt i ≠ Kt (i + 1) ∧ X i ≠ X (i + 1)) (s : Shared)
  (hQ : ∀ g h tk m ti iv res, KtsTurn (fr.filterMap (·.frame)) g₀ g → Below (kA dp un gd fr) base fr g → KtsDicts (fr.filterMap (·.frame)) g → Fr g L h (rkMap iv ti rs m) → News g L h [(rs, W.listOf (List.toArray res) 0)] →
    ResOK n n st ix res → Q .next { s with heap := h, toks := tk }) :
  ∀ (j k : Nat) (g h : Heap) (tk : Nat) (m : Str → Option Value) (ti : Tok) (res : List Value) (gbo ito : Obj), k + j = n → 0 < n → KtsTurn (fr.filterMap (·.frame)) g₀ g → Below (kA dp un gd fr) base fr g → KtsDicts (fr.filterMap (·.frame)) g → Fr g L h (rkMap (st - 1 + k) ti rs m) →
    News g L h ((rs, W.listOf (List.toArray res) 0) :: (gb, gbo) :: (db, dictOf [] 0) :: (it, ito) :: (kf, igObj dk tp) :: (dk, dictOf [] 0) :: (tp, tupO #[.int 0 tz]) :: (l, seqObj "list" items lc) :: P) → GBefore n k gbo ito db it kf l a X Kt → ResOK n k st ix res →
    TRest PySem.Challenge.rw_kl0506_01.row.prog w ((kA dp un gd fr).deeper env) E env target body Q gb (j + 1) { s with heap := h, toks := tk } := by
  obtain ⟨m1, m2, m3, m4⟩ := gb_names w.params
  obtain ⟨es, x1, pos, rfl⟩ := htg
  obtain ⟨nm, sc, af, cd, rfl, hfk⟩ := henv
  have hf : (envOf nm sc L af cd).frame = some L := rfl
  intro j
  induction j with
  | zero =>
    intro k g h tk m ti res gbo ito hkn hpos T0 B Dg F N hgb hres
    have hk : k = n := by walk_at "lo"
    subst hk
    have H0 : Amid base fr g := ⟨B.stays, B.frames, Dg⟩
    have H1 : Amid base (envOf nm sc L af cd :: fr) h := amid_push B F Dg rfl hfk
    have X1 : (Mine.hd.heap_39 w.params).In h := XB.keeps H1.stays
    obtain ⟨rfl, _⟩ | ⟨k', rfl, tn, ⟨h1, _⟩ | ⟨h1, rfl, rfl⟩⟩ := hgb
    · exact absurd hpos (Nat.lt_irrefl _)
    · walk_at "lo"
    have ogb := N (gb, _) (by k_mem)
    have oit := N (it, _) (by k_mem)
    have odb := N (db, _) (by k_mem)
    refine own_next (od := some (dictOf [] 0)) X1 ⟨ogb.1, rfl, rfl, odb.1⟩ m2 m4 (gb_over w (dp + 1) (un + 3) gd (envOf nm sc L af cd :: fr) base _ _ _ H1 XB TB (by walk_at "lo") (by walk_at "lo") (gb := gb) (db := db) (it := it) (i := k' + 1) (cg := .int (k' + 1 : Nat) tn) (kf := .ref kf) (se := .int (k' + 1 : Nat) tn) (tk := .int (X k') (Kt k')) ?_ fun h' tk' e k' he => stop_pass he ?_)
    · repeat' (first | exact aN | refine aC ?_ ?_)
      · exact ⟨ogb.1, off_push H0 hf ogb.2.2 ogb.2.1⟩
      · exact ⟨odb.1, off_push H0 hf odb.2.2 odb.2.1⟩
      · exact ⟨oit.1, off_push H0 hf oit.2.2 oit.2.1⟩
    · obtain ⟨g2, T2, F2, B2, D2, NN⟩ := turn_keeps B Dg F k' (fun q hq => by
        rw [List.mem_singleton.mp hq]
        exact ⟨ogb.2.2, ogb.2.1⟩)
      refine hQ g2 h' tk' m ti _ res (T0.trans T2) B2 D2 F2 (NN _ (fun q hq => ?_) (fun q hq m => ?_)) hres
      · rw [List.mem_singleton.mp hq]; exact N (rs, _) (by k_mem)
      · rw [List.mem_singleton.mp hq, List.mem_singleton] at m
        exact Nat.ne_of_lt hrg m
  | succ j ih =>
    intro k g h tk m ti res gbo ito hkn hpos T0 B Dg F N hgb hres
    have hk : k < n := by walk_at "lo"
    have H0 : Amid base fr g := ⟨B.stays, B.frames, Dg⟩
    have H1 : Amid base (envOf nm sc L af cd :: fr) h := amid_push B F Dg rfl hfk
    have X1 : (Mine.hd.heap_39 w.params).In h := XB.keeps H1.stays
    have odb := N (db, _) (by k_mem)
    have next : ∀ h' tk' T gr dg tn, Keeps [gb, it] h h' → h'.get? gb = some (gbOpen db it kf k tn a X Kt) → h'.get? it = some (liObj l (k + 1)) → IsPair h' T (.int (X k) (Kt k)) (.ref gr) → h'.get? gr = some (grObj dg (.int (k + 1 : Nat) tn) (.ref gb) (.int (X k) (Kt k))) →
        h'.get? dg = some (dictOf [] 0) → h.get? T = none → h.get? gr = none → h.get? dg = none → gbo.cls = .ref 124 → (∃ j', ito = liObj l j') →
        wpAny (model PySem.Challenge.rw_kl0506_01.row.prog w) ((kA dp un gd fr).deeper (envOf nm sc L af cd)) (letOwnedTupleGo (.Tuple es x1 pos) (.ref gb) (.ref T)) (fun _ s₁' => wpAny (model PySem.Challenge.rw_kl0506_01.row.prog w) ((kA dp un gd fr).deeper (envOf nm sc L af cd)) (assign (.Tuple es x1 pos) (envOf nm sc L af cd) (.ref T)) (fun _ s₂ => wpAny (model PySem.Challenge.rw_kl0506_01.row.prog w) ((kA dp un gd fr).deeper (envOf nm sc L af cd)) (execs body (envOf nm sc L af cd)) (fun f s₃ => match f with
          | .next => TRest PySem.Challenge.rw_kl0506_01.row.prog w ((kA dp un gd fr).deeper (envOf nm sc L af cd)) E (envOf nm sc L af cd) (.Tuple es x1 pos) body Q gb (j + 1) s₃
          | .cont => TRest PySem.Challenge.rw_kl0506_01.row.prog w ((kA dp un gd fr).deeper (envOf nm sc L af cd)) E (envOf nm sc L af cd) (.Tuple es x1 pos) body Q gb (j + 1) s₃
          | .brk => Q .next s₃
          | .ret v => Q (.ret v) s₃) E s₂) E s₁') E { s with heap := h', toks := tk' } := by
      intro h' tk' T gr dg tn kk e1 e2 e3 e4 e5 f1 f2 f3 hgc hz; obtain ⟨j', rfl⟩ := hz
      obtain ⟨F', N'⟩ := open_ledger F hgc N (hP k hk) hPB hrg hri kk e1 e2 e3 e4 e5 f1 f2 f3
      refine rank_body w dp un gd fr base { s with heap := h', toks := tk' } E _ XB TB hd hu hb hE B Dg F' hk N' hP hPB hi hin (by walk_at "lo") hix hres.1 (by walk_at "lo") hlr hrg hri hK hKd ?_
      intro g' h'' tk'' m' ti' res' gbo' ito' T2 B2 D2 F2 hg2 N2 ⟨ft, hr⟩
      refine ih (k + 1) g' h'' tk'' m' ti' res' gbo' ito' (by walk_at "lo") hpos (T0.trans T2) B2 D2 (by
        have e : st - 1 + ((k + 1 : Nat) : Int) = st - 1 + (k : Int) + 1 := by walk_at "lo"
        rw [e]; exact F2) N2 (.inr ⟨k, rfl, hg2⟩) ⟨by rw [hr, List.length_set]; exact hres.1, fun i hi' => ?_⟩
      subst hr
      by_cases hik : i = k
      · subst hik
        exact ⟨ft, by rw [List.getElem?_set_self (by rw [hres.1]; exact hix i hk)]⟩
      · have hik' : i < k := by walk_at "lo"
        obtain ⟨ft', e⟩ := hres.2 i hik'
        exact ⟨ft', by rw [List.getElem?_set_ne (fun q => hik (hixi k i hk (by walk_at "lo") q).symm)]; exact e⟩
    obtain ⟨rfl, ⟨cg, tn, rfl⟩, rfl⟩ | ⟨k', rfl, tn, ⟨h1, rfl, rfl⟩ | ⟨h1, rfl, rfl⟩⟩ := hgb
    · have ogb := N (gb, _) (by k_mem)
      refine own_next (od := some (dictOf [] 0)) X1 ⟨ogb.1, rfl, rfl, odb.1⟩ m2 m4 (gb_first w (dp + 1) (un + 3) gd (envOf nm sc L af cd :: fr) base _ _ _ H1 XB TB (by walk_at "lo") (by walk_at "lo") (gb := gb) (db := db) (it := it) (kf := kf) (cg := cg) (tn := tn) (num := 0) (i := 0) (t := a 0) (b := .int (ix 0) (tb 0)) (items := items) (lc := lc) (tz := tz) (ky := Kt 0) (y := X 0) (l := l) (dk := dk) (tp := tp) ?_ (hi 0 hpos)
        fun h' tk' T gr dg tn' kk e1 e2 e3 e4 e5 f1 f2 f3 => next h' tk' T gr dg tn' kk e1 e2 e3 e4 e5 f1 f2 f3 rfl ⟨_, rfl⟩)
      have oP := N (a 0, _) (.tail _ (.tail _ (.tail _ (.tail _ (.tail _ (.tail _ (.tail _ (.tail _ (hP 0 hpos)))))))))
      repeat' (first | exact aN | refine aC ?_ ?_)
      · exact ⟨ogb.1, off_push H0 hf ogb.2.2 ogb.2.1⟩
      · exact ⟨odb.1, off_push H0 hf odb.2.2 odb.2.1⟩
      · exact ⟨(N (it, _) (by k_mem)).1, off_push H0 hf (N (it, _) (by k_mem)).2.2 (N (it, _) (by k_mem)).2.1⟩
      · exact ⟨(N (kf, _) (by k_mem)).1, off_push H0 hf (N (kf, _) (by k_mem)).2.2 (N (kf, _) (by k_mem)).2.1⟩
      · exact ⟨(N (dk, _) (by k_mem)).1, off_push H0 hf (N (dk, _) (by k_mem)).2.2 (N (dk, _) (by k_mem)).2.1⟩
      · exact ⟨(N (tp, _) (by k_mem)).1, off_push H0 hf (N (tp, _) (by k_mem)).2.2 (N (tp, _) (by k_mem)).2.1⟩
      · exact ⟨oP.1, off_push H0 hf oP.2.2 oP.2.1⟩
      · exact ⟨(N (l, _) (by k_mem)).1, off_push H0 hf (N (l, _) (by k_mem)).2.2 (N (l, _) (by k_mem)).2.1⟩
    · have ogb := N (gb, _) (by k_mem)
      have oit := N (it, _) (by k_mem)
      refine own_next (od := some (dictOf [] 0)) X1 ⟨ogb.1, rfl, rfl, odb.1⟩ m2 m4 (gb_mid w (dp + 1) (un + 3) gd (envOf nm sc L af cd :: fr) base _ _ _ H1 XB TB (by walk_at "lo") (by walk_at "lo") (gb := gb) (db := db) (it := it) (kf := kf) (cg := .int (k' + 1 : Nat) tn) (tn := tn) (tc := 0) (num := k' + 1) (t := a (k' + 1)) (kt := Kt k') (ky := Kt (k' + 1)) (x := X k') (y := X (k' + 1)) ?_ (hK k' (by walk_at "lo")) (hK _ h1) (hKd k' h1).1 (hKd k' h1).2
        fun h' tk' T gr dg tn' kk e1 e3 e4 e5 f1 f2 f3 => next h' tk' T gr dg tn' (kk.mono (by simp)) e1 (kk _ _ oit.1 (by
          rw [List.mem_singleton]
          exact neO oit.1 ogb.1 (by intro q; cases q))) e3 e4 e5 f1 f2 f3 rfl ⟨_, rfl⟩)
      repeat' (first | exact aN | refine aC ?_ ?_)
      · exact ⟨ogb.1, off_push H0 hf ogb.2.2 ogb.2.1⟩
      · exact ⟨odb.1, off_push H0 hf odb.2.2 odb.2.1⟩
    · walk_at "lo"
end
end SR4
section SR2
open PySem PySem.W PyProof.Rows PySem.Calls PySem.Spec
theorem fresh_R2 : True := by
  w_top off
  trivial
set_option maxRecDepth 100000 in
set_option maxHeartbeats 4000000 in
theorem rank_c (w : World) {p : Program} {loose : List Str} {mean : ExcName → Option Value} {mg mb : Str → Option Value}
  (dp un : Nat) (gd : Option (List Code)) (fr : List Env) (base : Heap) (s : Shared) (Q E : Value → Shared → Prop)
  (H : Amid base fr s.heap) (XB : (Mine.hd.heap_39 w.params).In base) (TB : Top p loose mean mg mb base) (hd : dp + 10 < recursionLimit) (hu : un + 100 < cLine)
  {args : Args} {binds : List (Str × Value)} {b : Bool} {st : Int} {ts tt : Tok} {l : Addr} {vs : List Value}
  (hbind : BindsOf (Mine.hd.heap_39 w.params) 278 args binds) (hbl : ∀ y ∈ binds, y.1 ∈ ([Str.ofString "data", Str.ofString "key", Str.ofString "reverse", Str.ofString "ties", Str.ofString "start"] : List Str))
  (b1 : binds.reverse.lookup (Str.ofString "data") = some (.ref l)) (b2 : binds.reverse.lookup (Str.ofString "key") = some .none) (b3 : binds.reverse.lookup (Str.ofString "reverse") = some (.bool b))
  (b4 : binds.reverse.lookup (Str.ofString "ties") = some (.str (Str.ofString "average") tt)) (b5 : binds.reverse.lookup (Str.ofString "start") = some (.int st ts))
  (hl : s.heap.IsList l vs.toArray) (hpos : vs.length ≠ 0) (h64 : vs.length < 64)
  {X : Nat → Int} {Tk : Nat → Tok} (hv : ∀ i < vs.length, vs.getD i Value.none = .int (X i) (Tk i)) (hX : ∀ i j, i < vs.length → j < vs.length → i ≠ j → X i ≠ X j)
  (hT0 : ∀ i < vs.length, Tk i ≠ 0) (hTd : ∀ i j, i < vs.length → j < vs.length → i ≠ j → Tk i ≠ Tk j) (hst : st.natAbs < 100)
  (ret : ∀ (D : Addr) (res : List Value) (σ : List Nat) (h' : Heap) (tk' : Nat), KeepsS [] (fr.filterMap (·.frame)) s.heap h' → h'.get? D = some (W.listOf (List.toArray res) 0) → s.heap.get? D = none → res.length = vs.length → σ.Perm (List.range vs.length) → (σ.map X).Pairwise (fun p q => if b = true then q ≤ p else p ≤ q) →
    (∀ j < vs.length, ∃ ft, res[σ.getD j 0]? = some (.float (rkF (st - 1 + j)) ft)) → Q (.ref D) { s with heap := h', toks := tk' }) :
  wpAny (model PySem.Challenge.rw_kl0506_01.row.prog w) (kA dp un gd fr) (call (.ref 278) args.pos args.kw) Q E s := by
  refine wpAny_call ?_
  k_dflt (refine' enterP H XB TB ?k6 ?k7 ?k8 ?k9 ?kB ?_ ?c2 ?c3 ?c4 ?c5; (case k6 => k_is); (case k7 => k_is); (case k8 => ktr_room); (case k9 => exact kp_binds (XB.keeps H.stays) (hbind _ _ _ _ (by k_is))); (case c5 => decide); (case kB => (intro y hy; have hy' := hbl y hy; simp only [List.mem_cons, List.not_mem_nil, or_false] at hy'; rcases hy' with e | e | e | e | e <;> (rw [e]; rfl))); (case c2 => exact rfl); (case c3 => exact rfl); (case c4 => exact rfl); intro L' h' F' N' B' X' T' D'; (try dsimp only); (try k_fold))
  replace F' := Fr.as F' (lookup_as b5)
  replace F' := Fr.as F' (lookup_as ((if_neg (by decide)).trans b4))
  replace F' := Fr.as F' (lookup_as ((if_neg (by decide)).trans ((if_neg (by decide)).trans b3)))
  replace F' := Fr.as F' (lookup_as ((if_neg (by decide)).trans ((if_neg (by decide)).trans ((if_neg (by decide)).trans b2))))
  replace F' := Fr.as F' (lookup_as ((if_neg (by decide)).trans ((if_neg (by decide)).trans ((if_neg (by decide)).trans ((if_neg (by decide)).trans b1)))))
  generalize hm0 : binds.reverse = br at F'
  k_steps
  rename Fr _ _ _ _ => F1
  rename News _ _ _ _ => N1
  have hc1 := (N1 _ (.head _)).1
  have hd1 := (N1 _ (.tail _ (.head _))).1
  have hne : (@Ne Nat _ _) := (neO hd1 hc1 (by intro q; first | (cases q; done) | (injection q with q; revert q; decide)))
  refine zip_own (xs := vs.toArray) ?hl ?hc ?_
  case hl =>
    obtain ⟨o, ho, r⟩ := hl
    exact ⟨o, F1.keep _ _ ho, r⟩
  case hc => exact count_self w (dp + 1) (un + 3 + 2) gd (_ :: fr) base _ (amid_push B' F1 D' rfl rfl) XB TB (by walk_at "lo") (by walk_at "lo") hc1 hd1 _
  intro z TI TO h2 tk2 k2 o1 o2 o3 hz hTI hTO hli
  have N2 := News.ofKeeps N1 k2 (by simp)
  have F2 := Fr.ofKeeps F1 k2 (by simp) (by simp)
  clear N1
  have lc : @LT.lt Nat _ _ _ := Heap.lt_size hc1
  have ld : @LT.lt Nat _ _ _ := Heap.lt_size hd1
  have hl1 : ∃ o, h2.get? l = some o ∧ o.cls = .type "list" := by
    obtain ⟨o, ho, hcl, _⟩ := hl
    exact ⟨o, F2.keep _ _ ho, hcl⟩
  have ll : @LT.lt Nat _ l s.heap.objs.size := by
    obtain ⟨o, ho, _⟩ := hl
    exact Heap.lt_size ho
  have lL : @LE.le Nat _ _ _ := F1.above
  have lL1 : @LT.lt Nat _ _ _ := F1.ns.lt
  dsimp only at hc1 hd1 hne o1 o2 o3 lc ld lL lL1
  k_steps
  refine sorted_zip w (dp + 1) _ gd (_ :: fr) base _ _ _ (amid_push B' F2 D' rfl rfl) XB TB (by walk_at "lo") ?hu (vs := vs) (f := true) (d := _) (l := l) hpos h64 ?hA ⟨hz, hTI, ⟨_, _, hTO⟩, hli, ⟨_, (N2 _ (.head _)).1⟩, (N2 _ (.tail _ (.head _))).1, ?hl⟩ ?hW hv hX b ?_
  case hu => show un + 3 + 40 < cLine; walk_at "lo"
  case hA =>
    have hlc := ne_list hl1 (N2 _ (.head _)).1 (by intro q; cases q)
    constructor <;> (refine neN ?_; (try dsimp only); walk_at "lo")
  case hl =>
    obtain ⟨o, ho, r⟩ := hl
    exact ⟨o, F2.keep _ _ ho, r⟩
  case hW =>
    repeat' (first | exact aN | refine aC ?_ ?_)
    all_goals (try dsimp only)
    · exact off_push H rfl (Heap.get?_none_of_le (by walk_at "lo")) (by refine neN ?_; walk_at "lo")
    · exact off_push H rfl (Heap.get?_none_of_le (by walk_at "lo")) (by refine neN ?_; walk_at "lo")
    · exact off_push H rfl (Heap.get?_none_of_le (by walk_at "lo")) (by refine neN ?_; walk_at "lo")
    · exact off_push H rfl (N2 _ (.head _)).2.2 (N2 _ (.head _)).2.1
    · exact off_push H rfl (N2 _ (.tail _ (.head _))).2.2 (N2 _ (.tail _ (.head _))).2.1
  intro Dd c' as tj σ h3 tk3 k3 hD hP hσ hsort fD fas inj
  obtain ⟨F3, N3⟩ := rank_ledger F2 k3 (by
    repeat' (first | exact aN | refine aC ?_ ?_)
    all_goals (try dsimp only)
    · refine neN ?_; walk_at "lo"
    · refine neN ?_; walk_at "lo"
    · refine neN ?_; walk_at "lo"
    · exact (N2 _ (.head _)).2.1) (by
    repeat' (first | exact aN | refine aC ?_ ?_)
    all_goals (try dsimp only)
    · exact Heap.get?_none_of_le (by walk_at "lo")
    · exact Heap.get?_none_of_le (by walk_at "lo")
    · exact Heap.get?_none_of_le (by walk_at "lo")
    · exact (N2 _ (.head _)).2.2) hD hP hσ fD fas
  clear N2 F2 F1
  k_steps
  rename Fr _ _ _ _ => F4
  rename News _ _ _ _ => N4
  have hσl : σ.length = vs.length := by simpa using hσ.length_eq
  refine len_list (items := (List.map (fun i => Value.ref (as i)) σ).toArray) (News.isList N4 (.tail _ (.head _))) (by simp [hσl]; walk_at "lo") ?_
  dsimp only
  have hsz0 : (List.map (fun i => Value.ref (as i)) σ).toArray.size = vs.length := by simp [hσl]
  refine KMa.mul F4 N4 (by is_list) (by rw [hsz0]; walk_at "lo") (by rw [hsz0]; walk_at "lo") (by rw [hsz0]; simp; walk_at "lo") (rep_flat _ _) ?_
  clear N4 F4
  rw [hsz0]
  intro rs h5 F5 N5 lt5
  have hPB : ∀ p ∈ prP σ as X Tk tj, (@LT.lt Nat _ p.1 rs) := fun p hp => lt5 p (.tail _ (.tail _ hp))
  k_steps
  k_dflt (refine t_for ?_)
  k_steps
  rename Fr _ _ _ _ => F6
  rename News _ _ _ _ => N6
  have NK := rank_pick N6
  obtain ⟨m1, m2, m3, m4⟩ := gb_names w.params
  refine own_iter (od := some (dictOf [] 0)) (X'.keeps F6.keep) ⟨(NK _ (.tail _ (.head _))).1, rfl, rfl, (NK _ (.tail _ (.tail _ (.head _)))).1⟩ m1 m3 m2 (gb_iter_c w (dp + 1) (un + 3) gd (_ :: fr) base _ _ _ (amid_push B' F6 D' rfl rfl) XB TB (by walk_at "lo") (by walk_at "lo") fun h7 tk7 k7 => ?_)
  have F7 := Fr.ofKeeps F6 k7 (by simp) (by simp)
  have N7 := News.ofKeeps NK k7 (by simp)
  have F8 := Fr.as F7 (rkmap_in (v' := st - 1 + ((0 : Nat) : Int)) rfl rfl (by simp))
  refine ⟨rfl, X'.keeps F7.keep, ⟨(N7 _ (.tail _ (.head _))).1, rfl, rfl, (N7 _ (.tail _ (.tail _ (.head _)))).1⟩, _, vs.length + 1, rfl, ?_⟩
  refine rank_turns w dp un gd fr base _ _ XB TB (by walk_at "lo") (by walk_at "lo") ⟨_, _, _, _, rfl, rfl⟩ ⟨_, _, _, rfl⟩ ?hb (by passes_own) (st := st) (n := vs.length) (a := fun j => as (σ.getD j 0)) (X := fun j => X (σ.getD j 0)) (Kt := fun j => Tk (σ.getD j 0)) (tb := fun j => tj (σ.getD j 0)) (ix := fun j => σ.getD j 0) (P := prP σ as X Tk tj)
    hst h64 (fun j hj => perm_lt hσ hj) (fun i j hi hj e => perm_inj hσ hi hj e) ?hlr ?hrg ?hri (fun j hj => ?hP) hPB (fun j hj => ?hi) ?hin (fun i hi => hT0 _ (perm_lt hσ hi)) (fun i hi => ?hKd) _ ?hQ vs.length 0 s.heap h7 tk7 _ _ (List.replicate vs.length (.int 0 _)) _ _ (by walk_at "lo") (by walk_at "lo") KtsTurn.refl B' D' F8 N7 (.inl ⟨rfl, ⟨_, _, rfl⟩, rfl⟩) ⟨by simp, fun j hj => absurd hj (Nat.not_lt_zero _)⟩
  case hb =>
    intro oc od osl nm qn ps bd sc dV kV doc pm an cdv ct h
    refine (fun h2 => ?_) (show (Mine.hd.heap_39 w.params).lookup 278 = some ⟨_, _, .func (fnOf _ _ _ _ _ _ _ _ _ _ _ _), _⟩ by k_dflt k_is)
    rw [h2] at h
    cases h
    exact ⟨rfl, _, _, _, _, _, _, _, _, rfl⟩
  case hlr => exact Nat.ne_of_lt (lt5 (Dd, _) (.tail _ (.head _)))
  case hrg => refine ltN ?_; walk_at "lo"
  case hri => refine ltN ?_; walk_at "lo"
  case hP => exact List.mem_map.mpr ⟨σ.getD j 0, getD_mem' (by walk_at "lo"), rfl⟩
  case hi => simp [List.getD, hσl, hj]
  case hin => simp [hσl]
  case hKd =>
    have hne' : σ.getD i 0 ≠ σ.getD (i + 1) 0 := fun e => by
      have := perm_inj hσ (by walk_at "lo") hi e
      walk_at "lo"
    exact ⟨hTd _ _ (perm_lt hσ (by walk_at "lo")) (perm_lt hσ hi) hne', hX _ _ (perm_lt hσ (by walk_at "lo")) (perm_lt hσ hi) hne'⟩
  case hQ =>
    intro g9 h9 tk9 m9 ti9 iv9 res9 T9 B9 D9 F9 N9 hres9
    have X9 : (Mine.hd.heap_39 w.params).In g9 := XB.keeps B9.stays
    have P9 : Top p loose mean mg mb g9 := TB.keeps B9.stays
    have frs := (NK (rs, _) (.head _)).2.2
    dsimp only
    clear NK N7 F7 F6 N6 F8
    k_steps
    rename Fr _ _ _ _ => Fx
    rename News _ _ _ _ => Nx
    exact ret rs res9 σ _ _ (keepsS_of T9 Fx) (Nx (rs, _) (.head _)).1 frs hres9.1 hσ hsort hres9.2
end SR2
section SLw0
open PySem PySem.W PyProof.Rows PySem.Calls PySem.Spec
/-- the law's own text, by where it stands -/
noncomputable def lawBody : List Stmt := match PySem.Challenge.pw_kl0506_01.main.body.getLast? with
  | some (.FunctionDef _ _ body _ _ _ _ _ _ _) => body
  | _ => []
noncomputable def lawScope0 : Scope := match PySem.Challenge.pw_kl0506_01.main.body.getLast? with
  | some (.FunctionDef _ _ _ _ _ _ scope _ _ _) => scope
  | _ => default
set_option maxRecDepth 100000 in
noncomputable def lawScopeE : { s : Scope // lawScope0 = s } := by
  refine ⟨?_, ?h⟩
  rotate_left
  · conv => lhs; whnf
noncomputable abbrev lawScope : Scope := lawScopeE.1
noncomputable abbrev lawEnv (L fa : Addr) (cd : Value) : Env := envOfC (Str.ofString "law") lawScope L fa cd
section
variable {M : Model} {A : Around} {Q : Flow → Shared → Prop} {E : Value → Shared → Prop} {s : Shared} {env : Env} {r : List Stmt}
theorem stop_for {a b c d e} (h : Stop (wpAny M A (execs (Stmt.For a b c d e :: r) env) Q E s)) : wpAny M A (execs (Stmt.For a b c d e :: r) env) Q E s := h
theorem stop_if {a b c d} (h : Stop (wpAny M A (execs (Stmt.If a b c d :: r) env) Q E s)) : wpAny M A (execs (Stmt.If a b c d :: r) env) Q E s := h
theorem stop_ifL {a b c d e x y z} (h : Stop (wpAny M A (execs (Stmt.If (Expr.Compare (Expr.List a b) c d e) x y z :: r) env) Q E s)) : wpAny M A (execs (Stmt.If (Expr.Compare (Expr.List a b) c d e) x y z :: r) env) Q E s := h
theorem stop_ifC {a b b' b'' f c d e x y z} (h : Stop (wpAny M A (execs (Stmt.If (Expr.Compare (Expr.Call a b (b' :: b'') f) c d e) x y z :: r) env) Q E s)) : wpAny M A (execs (Stmt.If (Expr.Compare (Expr.Call a b (b' :: b'') f) c d e) x y z :: r) env) Q E s := h
theorem stop_asgC {a b c d e} (h : Stop (wpAny M A (execs (Stmt.Assign a (Expr.Constant b c d) e :: r) env) Q E s)) : wpAny M A (execs (Stmt.Assign a (Expr.Constant b c d) e :: r) env) Q E s := h
theorem stop_asg {a b c} (h : Stop (wpAny M A (execs (Stmt.Assign a b c :: r) env) Q E s)) : wpAny M A (execs (Stmt.Assign a b c :: r) env) Q E s := h
end
end SLw0
section SPL5
open PySem PySem.W PyProof.Rows
theorem any_em {off x : Nat} : ∀ us : List Nat, ((us.map (em off)).any fun y => y == em off x) = us.any fun y => y == x
  | [] => rfl
  | a :: r => by
    have e : (em off a == em off x) = (a == x) := by
      by_cases h : a = x
      · subst h; simp
      · have : em off a ≠ em off x := fun q => h (em_inj q)
        rw [beq_false_of_ne this, beq_false_of_ne h]
    rw [List.map_cons, List.any_cons, List.any_cons, any_em r, e]
theorem wstep_em {off u0 c : Nat} {us : List Nat} (ho : OffW off) (hu : ∀ u ∈ us, u < 64) (h0 : u0 < 64) (hc : c < 64) : wstep (em off u0) (us.map (em off)) (c : Nat) = (nstep u0 us c).map (em off) := by
  unfold wstep nstep
  rw [em_xor ho h0 hc, any_em]
  split
  · rfl
  · rw [List.map_append, List.map_map, List.map_map]
    congr 1
    refine List.map_congr_left fun u h => ?_
    exact em_xor ho (hu u h) hc
theorem wsteps_em {off u0 : Nat} (ho : OffW off) : ∀ (cs : List Nat) (us : List Nat), Aff us → us[0]? = some u0 → (∀ c ∈ cs, c < 64) → (cs.map fun c : Nat => (c : Int)).foldl (wstep (em off u0)) (us.map (em off)) = (cs.foldl (nstep u0) us).map (em off)
  | [], _, _, _, _ => rfl
  | c :: r, us, A, h, hc => by
    have h0 := List.mem_of_getElem? h
    rw [List.map_cons, List.foldl_cons, List.foldl_cons, wstep_em ho A.lt (A.lt _ h0) (hc c (.head _))]
    exact wsteps_em ho r _ (A.step h0 (hc c (.head _))) (nstep_head h) fun c hc' => hc c (.tail _ hc')
/-- what the law's words are -/
structure LD (us : List Nat) (off u0 l : Nat) : Prop where
  aff : Aff us
  off : OffW off
  head : us[0]? = some u0
  mem : l ∈ us
  min : ∀ u ∈ us, l ≤ u
  len : us.length ≤ 16
theorem words_plain {z0 : Int} {cs : List Int} (h4 : cs.length = 4) (hc : ∀ c ∈ cs, 0 ≤ c ∧ c < 64) (h1 : -32 ≤ z0) (h2 : z0 < 32) :
    ∃ us off u0, Aff us ∧ OffW off ∧ us[0]? = some u0 ∧ us.length ≤ 16 ∧ z0 = em off u0 ∧ cs.foldl (wstep z0) [z0] = us.map (em off) := by
  obtain ⟨off, u0, ho, hu, rfl⟩ : ∃ off u0 : Nat, OffW off ∧ u0 < 64 ∧ z0 = em off u0 := by
    by_cases h : z0 < 0
    · exact ⟨64, (z0 + 64).toNat, .inr rfl, by walk_at "lo", by unfold em; walk_at "lo"⟩
    · exact ⟨0, z0.toNat, .inl rfl, by walk_at "lo", by unfold em; walk_at "lo"⟩
  have e : cs = (cs.map Int.toNat).map fun c : Nat => (c : Int) := by
    rw [List.map_map]
    conv => lhs; rw [← List.map_id cs]
    refine List.map_congr_left fun c h => ?_
    have := hc c h
    simp only [id, Function.comp]
    walk_at "lo"
  have hb : ∀ c ∈ cs.map Int.toNat, c < 64 := fun c h => by
    obtain ⟨d, hd, rfl⟩ := List.mem_map.mp h
    have := hc d hd
    walk_at "lo"
  have z := Aff.steps (u0 := u0) (cs.map Int.toNat) [u0] (Aff.one hu) rfl hb
  refine ⟨_, off, u0, z.1, ho, z.2.1, ?_, rfl, ?_⟩
  · have := z.2.2
    rw [List.length_map, h4] at this
    simpa using this
  · have := wsteps_em ho (cs.map Int.toNat) [u0] (Aff.one hu) rfl hb
    rw [← e] at this
    exact this
theorem min_cast : ∀ vs : List Nat, (vs.map fun v : Nat => (v : Int)).min? = vs.min?.map fun v : Nat => (v : Int) := fun vs => by
  cases h : vs.min? with
  | none => rw [List.min?_eq_none_iff] at h; subst h; rfl
  | some a =>
    obtain ⟨h1, h2⟩ := List.min?_eq_some_iff.mp h
    rw [Option.map_some, List.min?_eq_some_iff]
    refine ⟨List.mem_map_of_mem h1, fun b hb => ?_⟩
    obtain ⟨c, hc, rfl⟩ := List.mem_map.mp hb
    have := h2 c hc
    walk_at "lo"
theorem rowI_em {us : List Nat} {u0 t : Nat} (h : ∀ u ∈ us, u < 64) (h0 : u0 < 64) (ht : t < 6) : rowI ((us.map fun x => x ^^^ u0).map fun v : Nat => (v : Int)) (t : Nat) = (rowN us u0 t).map fun v : Nat => (v : Int) := by
  unfold rowI rowN
  rw [List.filter_map, min_cast]
  congr 2
  refine List.filter_congr fun v hv => ?_
  obtain ⟨u, hu, rfl⟩ := List.mem_map.mp hv
  have := bits_top (u ^^^ u0) (x_lo (t := 6) (h u hu) h0) t ht
  simp only [Function.comp, decide_eq_decide]
  exact this
theorem rowsI_em {us : List Nat} {u0 : Nat} (h : ∀ u ∈ us, u < 64) (h0 : u0 < 64) : ∀ (t : Nat) (acc : List Int), t ≤ 6 → rowsI ((us.map fun x => x ^^^ u0).map fun v : Nat => (v : Int)) t acc = acc ++ (rowsB us u0 t).map fun v : Nat => (v : Int)
  | 0, acc, _ => by simp [rowsI, rowsB]
  | t + 1, acc, ht => by
    rw [rowsI, rowsI_em h h0 t _ (by walk_at "lo"), rowI_em h h0 (by walk_at "lo"), rowsB]
    cases rowN us u0 t <;> simp
theorem kin_em {us : List Nat} {off u0 : Nat} (ho : OffW off) (h : ∀ u ∈ us, u < 64) (h0 : u0 < 64) : ((us.map (em off)).map fun x => Builtin.bitXor x (em off u0)) = (us.map fun x => x ^^^ u0).map fun v : Nat => (v : Int) := by
  rw [List.map_map, List.map_map]
  exact List.map_congr_left fun u hu => em_xor2 ho (h u hu) h0
end SPL5
open PySem PySem.W PyProof.Rows PySem.Calls PySem.Spec
local macro_rules | `(tactic| walk_at "m:6") => `(tactic| (k_here; (with_reducible refine stop_for ?_)))
section SLwA
open PySem PySem.W PyProof.Rows PySem.Calls PySem.Spec
theorem fresh_LwA : True := by
  w_top off
  trivial
local macro_rules | `(tactic| walk_at "call ref") => `(tactic| walk_at "m:0")
theorem fresh_ne {g h : Heap} {L : Addr} {m : Str → Option Value} (F : Fr g L h m) {b : Addr} (e : h.get? b = none) : (@Ne Nat b L) := fun q => by
  obtain ⟨o, _, _, ho, _⟩ := F.ns
  rw [q, ho] at e; cases e
theorem News.cons_fresh {g h : Heap} {L b : Addr} {o : Obj} {news : List (Addr × Obj)} (N : News g L h news) (hb : h.get? b = some o) (hg : g.get? b = none) (hL : (@Ne Nat b L)) : News g L h ((b, o) :: news) := fun p hp => by
  rcases List.mem_cons.mp hp with rfl | hp
  · exact ⟨hb, hL, hg⟩
  · exact N p hp
theorem fresh_news {g h : Heap} {L : Addr} {news : List (Addr × Obj)} (N : News g L h news) {b : Addr} (e : h.get? b = none) : ∀ p ∈ news, (@Ne Nat b p.1) := fun p hp q => by
  rw [q, (N p hp).1] at e; cases e
local macro_rules | `(tactic| walk_at "execs cons") => `(tactic| walk_at "m:6")
noncomputable abbrev lwM (rl fl : Addr) (z : Int) (t : Tok) (m : Str → Option Value) : Str → Option Value := fun y => if y = Str.ofString "rows" then some (.ref rl) else if y = Str.ofString "least" then some (.int z t) else if y = Str.ofString "left" then some (.ref fl) else m y
theorem lwM_in {M : Str → Option Value} {rl fl : Addr} {z : Int} {t : Tok} (h1 : M (Str.ofString "rows") = some (.ref rl)) (h2 : M (Str.ofString "least") = some (.int z t)) (h3 : M (Str.ofString "left") = some (.ref fl)) : ∀ y, M y = lwM rl fl z t M y := fun y => by
  unfold lwM
  split
  · rename_i e; rw [e, h1]
  · split
    · rename_i e; rw [e, h2]
    · split
      · rename_i e; rw [e, h3]
      · rfl
/-- the law's lists stand apart from its cells -/
noncomputable def LApart (L rl wl : Addr) : Prop := (@Ne Nat rl wl) ∧ (@Ne Nat rl (L + 1 + 1 + 1 + 1 + 1)) ∧ (@Ne Nat rl (L + 1 + 1 + 1 + 1)) ∧ (@Ne Nat rl (L + 1 + 1 + 1)) ∧ (@Ne Nat rl (L + 1 + 1)) ∧ (@Ne Nat rl (L + 1)) ∧ (@Ne Nat rl 281) ∧
  (@Ne Nat wl (L + 1 + 1 + 1 + 1 + 1)) ∧ (@Ne Nat wl (L + 1 + 1 + 1 + 1)) ∧ (@Ne Nat wl (L + 1 + 1 + 1)) ∧ (@Ne Nat wl (L + 1 + 1)) ∧ (@Ne Nat wl (L + 1)) ∧ (@Ne Nat wl 281) ∧ (@LT.lt Nat _ 281 L)
noncomputable abbrev lawM0 (l : Addr) (m : Str → Option Value) : Str → Option Value := fun y => if y = Str.ofString "script" then some (.ref l) else m y
set_option maxRecDepth 100000 in
set_option maxHeartbeats 4000000 in
theorem law_a (w : World) {p : Program} {loose : List Str} {mean : ExcName → Option Value} {mg mb : Str → Option Value}
  (dp un : Nat) (gd : Option (List Code)) (fr : List Env) (base : Heap) (s : Shared) (E : Value → Shared → Prop) (Q : Flow → Shared → Prop)
  (XB : (Mine.hd.heap_39 w.params).In base) (TB : Top p loose mean mg mb base) (hd : dp + 12 < recursionLimit) (hu : un + 120 < cLine)
  {L fa l : Addr} {cd : Value} {g : Heap} {m : Str → Option Value} {sv : List Value} {ns : List Int} {o1 o2 o3 o4 o5 o0 : Obj} {v1 v2 v3 v4 v5 : Option Value}
  (B : Below (kA dp un gd fr) base fr g) (D : KtsDicts (fr.filterMap (·.frame)) g) (hl : g.IsList l sv.toArray) (hi : IntsAre sv ns) (h64 : ns.length < 64)
  (F : Fr g L s.heap (lawM0 l m))
  (h1 : o1.data = .cell v1) (h2 : o2.data = .cell v2) (h3 : o3.data = .cell v3) (h4 : o4.data = .cell v4) (h5 : o5.data = .cell v5)
  (N : News g L s.heap [(L + 1 + 1 + 1 + 1 + 1, o5), (L + 1 + 1 + 1 + 1, o4), (L + 1 + 1 + 1, o3), (L + 1 + 1, o2), (L + 1, o1), (281, o0)]) (l0 : (@LT.lt Nat _ 281 L))
  (hQ : ∀ us off u0 lz wl ws wc rl rv rc n lt h tk m' o1', LD us off u0 lz → WTok ws (us.map (em off)) n → IntsAre rv ((rowsB us u0 6).map fun v : Nat => (v : Int)) → Fr g L h (lwM rl wl (em off lz) lt m') →
    News g L h [(rl, W.listOf (List.toArray rv) rc), (wl, W.listOf (List.toArray ws) wc), (L + 1 + 1 + 1 + 1 + 1, o5), (L + 1 + 1 + 1 + 1, o4), (L + 1 + 1 + 1, o3), (L + 1 + 1, o2), (L + 1, o1'), (281, o0)] → o1'.data = .cell (some (.ref wl)) → LApart L rl wl →
    wpAny (model PySem.Challenge.rw_kl0506_01.row.prog w) ((kA dp un gd fr).deeper (lawEnv L fa cd)) (execs (lawBody.drop 4) (lawEnv L fa cd)) Q E { s with heap := h, toks := tk }) :
  wpAny (model PySem.Challenge.rw_kl0506_01.row.prog w) ((kA dp un gd fr).deeper (lawEnv L fa cd)) (execs (lawBody.drop 0) (lawEnv L fa cd)) Q E s := by
  have X0 : (Mine.hd.heap_39 w.params).In g := XB.keeps B.stays
  have T0 : Top p loose mean mg mb g := TB.keeps B.stays
  dsimp only [lawEnv, lawScope, lawScopeE]
  conv in (lawBody.drop 0) => whnf
  k_steps
  refine stop_in ?_
  refine words_c w (dp + 1) _ gd (_ :: fr) base _ _ _ (amid_push B F D rfl rfl) XB TB (by walk_at "lo") ?hu (F.lst hl) hi h64 ?_
  case hu => show un + 3 + 30 < cLine; walk_at "lo"
  intro wl ws zs cap z0 cs h2' tk2 k2 hD fr2 hw hc4 hcb hz0 hz1 hzs
  obtain ⟨us, off, u0, hA, hO, hu0, hlen, rfl, hzs'⟩ := words_plain hc4 hcb hz0 hz1
  rw [hzs'] at hzs
  subst hzs
  have N2 : News g L h2' ((wl, W.listOf ws.toArray cap) :: _) := News.cons_fresh (News.ofKeeps N k2 (by simp)) hD (fresh0 F.keep fr2) (fresh_ne F fr2)
  have nw : (@Ne Nat wl (L + 1 + 1 + 1 + 1 + 1)) ∧ (@Ne Nat wl (L + 1 + 1 + 1 + 1)) ∧ (@Ne Nat wl (L + 1 + 1 + 1)) ∧ (@Ne Nat wl (L + 1 + 1)) ∧ (@Ne Nat wl (L + 1)) ∧ (@Ne Nat wl 281) :=
    let z := fresh_news N fr2
    ⟨z _ (.head _), z _ (.tail _ (.head _)), z _ (.tail _ (.tail _ (.head _))), z _ (.tail _ (.tail _ (.tail _ (.head _)))), z _ (.tail _ (.tail _ (.tail _ (.tail _ (.head _))))), z _ (.tail _ (.tail _ (.tail _ (.tail _ (.tail _ (.head _)))))) ⟩
  have F2 := Fr.ofKeeps F k2 (by simp) (by simp)
  clear F N
  k_steps
  refine stop_in ?_
  rename Fr _ _ _ _ => F3
  rename News _ _ _ _ => N3
  have hwi := hw.ints
  have hu0' := List.mem_of_getElem? hu0
  obtain ⟨t0, ht0⟩ : ∃ t0, ws.toArray[0]? = some (.int (em off u0) t0) := by
    have h0 : 0 < ws.length := by rw [hwi.length, List.length_map]; exact List.length_pos_of_mem hu0'
    obtain ⟨z, t, e, hz'⟩ := IntsAre.at hwi 0 ws[0] (by simp [h0])
    rw [List.getElem?_map, hu0] at hz'
    cases hz'
    exact ⟨t, by simp [h0, e]⟩
  have hl64 : (us.map (em off)).length < 64 := by rw [List.length_map]; walk_at "lo"
  refine rows_c w (dp + 1) _ gd (_ :: fr) base _ _ _ (amid_push B F3 D rfl rfl) XB TB (by walk_at "lo") ?hu2 (vs := ws) (by is_list) hwi hl64 ht0 ?_
  case hu2 => show un + 3 + 30 < cLine; walk_at "lo"
  intro rl rv rc h4' tk4 k4 hD4 fr4 hr
  rw [kin_em hO hA.lt (hA.lt _ hu0'), rowsI_em hA.lt (hA.lt _ hu0') 6 [] (Nat.le_refl _), List.nil_append] at hr
  have N4 := News.cons_fresh (News.ofKeeps N3 k4 (by simp)) hD4 (fresh0 F3.keep fr4) (fresh_ne F3 fr4)
  have nr : LApart L rl wl :=
    let z := fresh_news N3 fr4
    ⟨z _ (.head _), z _ (.tail _ (.head _)), z _ (.tail _ (.tail _ (.head _))), z _ (.tail _ (.tail _ (.tail _ (.head _)))), z _ (.tail _ (.tail _ (.tail _ (.tail _ (.head _))))), z _ (.tail _ (.tail _ (.tail _ (.tail _ (.tail _ (.head _)))))), z _ (.tail _ (.tail _ (.tail _ (.tail _ (.tail _ (.tail _ (.head _))))))), nw.1, nw.2.1, nw.2.2.1, nw.2.2.2.1, nw.2.2.2.2.1, nw.2.2.2.2.2, l0⟩
  have F4 := Fr.ofKeeps F3 k4 (by simp) (by simp)
  have hpos : 0 < (us.map (em off)).length := by rw [List.length_map]; exact List.length_pos_of_mem hu0'
  clear F3 N3
  k_steps
  refine stop_in ?_
  rename Fr _ _ _ _ => F5
  rename News _ _ _ _ => N5
  rename _ ∈ List.map (em off) us => hM
  rename ∀ a, a ∈ List.map (em off) us → _ => hMl
  obtain ⟨lz, hlz, e⟩ := List.mem_map.mp hM
  subst e
  refine hQ us off u0 lz wl ws _ rl rv _ tk2 _ _ _ _ _ ⟨hA, hO, hu0, hlz, fun u hu => em_le.mp (hMl _ (List.mem_map_of_mem hu)), hlen⟩ hw hr (Fr.as F5 (lwM_in rfl rfl rfl)) N5 (by assumption) nr
end SLwA
section SPL6
open PySem PySem.W PyProof.Rows
theorem dbl_pw {l : Nat} : ∀ (k : Nat) (rs : List Nat), (dbl l rs).Pairwise (· < ·) → (dbl l (rs.drop k)).Pairwise (· < ·)
  | 0, _, h => h
  | k + 1, [], h => h
  | k + 1, r :: rs, h => by
    rw [dbl, List.pairwise_append] at h
    exact dbl_pw k rs h.1
theorem med_eq {off : Nat} {D : List Nat} {sd ls : List Int} (hp : sd.Perm ls) (hs : sd.Pairwise (· ≤ ·)) (hl : ls.Perm (D.map (em off))) (hD : D.Pairwise (· < ·)) : sd = D.map (em off) := by
  refine List.Perm.eq_of_pairwise (le := (· ≤ ·)) (fun a b _ _ h1 h2 => Int.le_antisymm h1 h2) hs ?_ (hp.trans hl)
  rw [List.pairwise_map]
  exact hD.imp fun h => em_le.mpr (Nat.le_of_lt h)
theorem getD_map_em {off i x : Nat} {D : List Nat} (h : D[i]? = some x) : (D.map (em off)).getD i 0 = em off x := by
  rw [List.getD, List.getElem?_map, h]; rfl
theorem mid_em (off l r : Nat) (rs : List Nat) : ((dbl l (r :: rs)).map (em off)).getD ((dbl l (r :: rs)).length / 2) 0 = em off (l ^^^ r) := by
  refine getD_map_em ?_
  rw [dbl_len, List.length_cons, Nat.pow_succ, Nat.mul_div_cancel _ (by decide)]
  exact dbl_mid l r rs
noncomputable def xl (rs : List Nat) : Nat := rs.foldr (fun a b => a ^^^ b) 0
theorem low_em (off l r : Nat) (rs : List Nat) : ((dbl l (r :: rs)).map (em off)).getD (((dbl l (r :: rs)).length - 1) / 2) 0 = em off (l ^^^ xl rs) := by
  refine getD_map_em ?_
  have hp := Nat.two_pow_pos rs.length
  rw [dbl_len, List.length_cons, Nat.pow_succ, show (2 ^ rs.length * 2 - 1) / 2 = 2 ^ rs.length - 1 by walk_at "lo"]
  exact dbl_low l r rs
theorem xl_lt : ∀ rs : List Nat, (∀ r ∈ rs, r < 64) → xl rs < 64
  | [], _ => by decide
  | r :: rs, h => x_lo (t := 6) (h r (.head _)) (xl_lt rs fun r hr => h r (.tail _ hr))
theorem xl_fold : ∀ (rs : List Nat) (a : Nat), a < 64 → (∀ r ∈ rs, r < 64) → (rs.map fun v : Nat => (v : Int)).foldl Builtin.bitXor (a : Nat) = ((a ^^^ xl rs : Nat) : Int)
  | [], a, _, _ => by simp [xl]
  | r :: rs, a, ha, h => by
    rw [List.map_cons, List.foldl_cons, bx_nn a ha r (h r (.head _)), xl_fold rs _ (x_lo (t := 6) ha (h r (.head _))) fun r hr => h r (.tail _ hr), Nat.xor_assoc]
    rfl
theorem low_filter {off l r : Nat} {rs : List Nat} {ls : List Int} (hp : ls.Perm ((dbl l (r :: rs)).map (em off))) (hD : (dbl l (r :: rs)).Pairwise (· < ·)) : (ls.filter fun x => decide (x < em off (l ^^^ r))).Perm ((dbl l rs).map (em off)) := by
  refine (hp.filter _).trans ?_
  have hm : l ^^^ r ∈ (dbl l rs).map fun x => x ^^^ r := by
    rw [mem_mapx, x_cancel]
    exact List.mem_of_getElem? (dbl_head l rs)
  rw [dbl, List.pairwise_append] at hD
  rw [dbl, List.map_append, List.filter_append, List.filter_map, List.filter_map]
  have e1 : (dbl l rs).filter ((fun x => decide (x < em off (l ^^^ r))) ∘ em off) = dbl l rs := by
    rw [List.filter_eq_self]
    intro a ha
    simp only [Function.comp, decide_eq_true_eq, em_lt]
    exact hD.2.2 a ha _ hm
  have e2 : ((dbl l rs).map fun x => x ^^^ r).filter ((fun x => decide (x < em off (l ^^^ r))) ∘ em off) = [] := by
    rw [List.filter_eq_nil_iff]
    intro a ha
    simp only [Function.comp, decide_eq_true_eq, em_lt]
    intro h
    have hh : ((dbl l rs).map fun x => x ^^^ r)[0]? = some (l ^^^ r) := by rw [List.getElem?_map, dbl_head]; rfl
    have := hD.2.1
    cases hL : (dbl l rs).map fun x => x ^^^ r with
    | nil => rw [hL] at ha; cases ha
    | cons b t =>
      rw [hL] at hh ha this
      simp only [List.getElem?_cons_zero, Option.some.injEq] at hh
      subst hh
      rcases List.mem_cons.mp ha with rfl | ha
      · walk_at "lo"
      · have := (List.pairwise_cons.mp this).1 a ha
        walk_at "lo"
  rw [e1, e2]
  simp
theorem high_least {off l r : Nat} (ho : OffW off) (hl : l < 64) (hr : r < 64) : Builtin.bitXor (em off (l ^^^ r)) (em off l) = (r : Int) := by
  rw [em_xor2 ho (x_lo (t := 6) hl hr) hl, x_right, Nat.xor_self, Nat.zero_xor]
theorem low_high {off l r : Nat} {rs : List Nat} (ho : OffW off) (hl : l < 64) (hr : r < 64) (h : ∀ r ∈ rs, r < 64) : Builtin.bitXor (em off (l ^^^ xl rs)) (em off (l ^^^ r)) = ((xl (r :: rs) : Nat) : Int) := by
  rw [em_xor2 ho (x_lo (t := 6) hl (xl_lt rs h)) (x_lo (t := 6) hl hr)]
  congr 1
  rw [show l ^^^ xl rs ^^^ (l ^^^ r) = r ^^^ xl rs ^^^ l ^^^ l by ac_rfl, x_cancel]
  rfl
theorem rows_len {us : List Nat} {u0 : Nat} : ∀ t, (rowsB us u0 t).length ≤ t
  | 0 => Nat.le_refl _
  | t + 1 => by
    have := rows_len (us := us) (u0 := u0) t
    rw [rowsB]
    split
    · rw [List.length_cons]; walk_at "lo"
    · walk_at "lo"
end SPL6
section SLwB0
open PySem PySem.W PyProof.Rows PySem.Calls PySem.Spec
set_option maxRecDepth 100000
theorem ne8 {I a1 a2 a3 a4 a5 a6 a7 a8 : Addr} {o1 o2 o3 o4 o5 o6 o7 o8 : Obj} (h1 : @Ne Nat I a1) (h2 : @Ne Nat I a2) (h3 : @Ne Nat I a3) (h4 : @Ne Nat I a4) (h5 : @Ne Nat I a5) (h6 : @Ne Nat I a6) (h7 : @Ne Nat I a7) (h8 : @Ne Nat I a8) : ∀ p ∈ [(a1, o1), (a2, o2), (a3, o3), (a4, o4), (a5, o5), (a6, o6), (a7, o7), (a8, o8)], p.1 ≠ I :=
  List.forall_mem_cons.mpr ⟨Ne.symm h1, List.forall_mem_cons.mpr ⟨Ne.symm h2, List.forall_mem_cons.mpr ⟨Ne.symm h3, List.forall_mem_cons.mpr ⟨Ne.symm h4, List.forall_mem_cons.mpr ⟨Ne.symm h5, List.forall_mem_cons.mpr ⟨Ne.symm h6, List.forall_mem_cons.mpr ⟨Ne.symm h7, List.forall_mem_cons.mpr ⟨Ne.symm h8, List.forall_mem_nil _⟩⟩⟩⟩⟩⟩⟩⟩
theorem ne9 {I a1 a2 a3 a4 a5 a6 a7 a8 a9 : Addr} {o1 o2 o3 o4 o5 o6 o7 o8 o9 : Obj} (h1 : @Ne Nat I a1) (h2 : @Ne Nat I a2) (h3 : @Ne Nat I a3) (h4 : @Ne Nat I a4) (h5 : @Ne Nat I a5) (h6 : @Ne Nat I a6) (h7 : @Ne Nat I a7) (h8 : @Ne Nat I a8) (h9 : @Ne Nat I a9) : ∀ p ∈ [(a1, o1), (a2, o2), (a3, o3), (a4, o4), (a5, o5), (a6, o6), (a7, o7), (a8, o8), (a9, o9)], p.1 ≠ I :=
  List.forall_mem_cons.mpr ⟨Ne.symm h1, List.forall_mem_cons.mpr ⟨Ne.symm h2, List.forall_mem_cons.mpr ⟨Ne.symm h3, List.forall_mem_cons.mpr ⟨Ne.symm h4, List.forall_mem_cons.mpr ⟨Ne.symm h5, List.forall_mem_cons.mpr ⟨Ne.symm h6, List.forall_mem_cons.mpr ⟨Ne.symm h7, List.forall_mem_cons.mpr ⟨Ne.symm h8, List.forall_mem_cons.mpr ⟨Ne.symm h9, List.forall_mem_nil _⟩⟩⟩⟩⟩⟩⟩⟩⟩
noncomputable def NextAnd (f : Flow) (P : Prop) : Prop := f = .next ∧ P
section
variable {prog : Program} {w : World} {A : Around} {E : Value → Shared → Prop} {env : Env}
/-- a loop by an invariant -/
theorem trest_ind {target : Expr} {body : List Stmt} {Q : Flow → Shared → Prop} {I : Addr} (J : Nat → Shared → Prop) (n : Nat)
    (turn : ∀ i s, i < n → J i s → wpAny (model prog w) A (pyNext (.ref I)) (fun r s₁ => ∃ y, r = some y ∧ wpAny (model prog w) A (letOwnedTupleGo target (.ref I) y) (fun _ s₁' => wpAny (model prog w) A (assign target env y) (fun _ s₂ =>
      wpAny (model prog w) A (execs body env) (fun f s₃ => NextAnd f (J (i + 1) s₃)) E s₂) E s₁') E s₁) E s)
    (fin : ∀ s, J n s → wpAny (model prog w) A (pyNext (.ref I)) (fun r s₁ => r = none ∧ Q .next s₁) E s) :
    ∀ k i s, i + k = n → J i s → TRest prog w A E env target body Q I (k + 1) s := by
  intro k
  induction k with
  | zero =>
    intro i s hik hJ
    obtain rfl : i = n := by walk_at "lo"
    refine wpAny_mono (fin s hJ) (fun r s₁ h => ?_) fun _ _ e => e
    obtain ⟨rfl, h⟩ := h
    exact h
  | succ k ih =>
    intro i s hik hJ
    refine wpAny_mono (turn i s (by walk_at "lo") hJ) (fun r s₁ h => ?_) fun _ _ e => e
    obtain ⟨y, rfl, h⟩ := h
    refine wpAny_mono h (fun _ s₂ h₂ => wpAny_mono h₂ (fun _ s₃ h₃ => wpAny_mono h₃ (fun f s₄ h₄ => ?_) fun _ _ e => e) fun _ _ e => e) fun _ _ e => e
    obtain ⟨rfl, h₄⟩ := h₄
    exact ih (i + 1) s₄ (by walk_at "lo") h₄
end
end SLwB0
open PySem PySem.W PyProof.Rows PySem.Calls PySem.Spec
local macro_rules | `(tactic| walk_at "m:7") => `(tactic| (k_here; k_dflt (refine t_for ?_ (by intro _; rfl) (by first | assumption | passes_own))))
local macro_rules | `(tactic| walk_at "m:8") => `(tactic| (k_here; k_dflt (refine LCt.Assign_ListComp_T (F₀ := by k_asm) (by rfl) (by with_unfolding_all rfl) (by with_unfolding_all rfl) (by decide) (by rfl) (by decide) (by rfl) (by rfl) (by rfl) ?_)))
section SLwB
open PySem PySem.W PyProof.Rows PySem.Calls PySem.Spec
theorem fresh_LwB : True := by
  w_top off
  trivial
local macro_rules | `(tactic| walk_at "call ref") => `(tactic| walk_at "m:0")
local macro_rules | `(tactic| walk_at "exec For") => `(tactic| walk_at "m:7")
local macro_rules | `(tactic| walk_at "exec For Name Call cons nil") => `(tactic| walk_at "m:7")
local macro_rules | `(tactic| walk_at "execs cons") => `(tactic| (k_here; (with_reducible refine stop_ifL ?_)))
local macro_rules | `(tactic| walk_at "subscriptTail Name Slice ref ref") => `(tactic| walk_at "m:0")
local macro_rules | `(tactic| walk_at "exec Assign cons ListComp") => `(tactic| walk_at "m:8")
local macro_rules | `(tactic| walk_at "CompSrcT") => `(tactic| walk_at "m:0")
theorem lb_pick {g h : Heap} {L : Addr} {D5 D' I fl rl wl c5 c4 c3 c2 c1 t : Addr × Obj} (N : News g L h [D5, D', I, fl, rl, wl, c5, c4, c3, c2, c1, t]) : News g L h [I, D5, rl, wl, c5, c4, c3, c2, c1, t] := (nws N (.tail _ (.tail _ (.head _))) (nws N (.head _) (ntl (ntl (ntl (ntl N))))))
theorem lb_start {g h : Heap} {L : Addr} {I rl wl c5 c4 c3 c2 c1 t : Addr × Obj} (N : News g L h [I, rl, wl, c5, c4, c3, c2, c1, t]) : News g L h [I, wl, rl, wl, c5, c4, c3, c2, c1, t] := (nws N (.head _) (nws N (.tail _ (.tail _ (.head _))) (ntl N)))
/-- the ledger of the first loop -/
noncomputable abbrev lbNews (L I fl rl wl : Addr) (oI : Obj) (lv rv ws : List Value) (lc rc wc : Nat) (o5 o4 o3 o2 o1 o0 : Obj) : List (Addr × Obj) :=
  [(I, oI), (fl, W.listOf lv.toArray lc), (rl, W.listOf rv.toArray rc), (wl, W.listOf ws.toArray wc), (L + 1 + 1 + 1 + 1 + 1, o5), (L + 1 + 1 + 1 + 1, o4), (L + 1 + 1 + 1, o3), (L + 1 + 1, o2), (L + 1, o1), (281, o0)]
set_option maxRecDepth 100000 in
set_option maxHeartbeats 4000000 in
theorem law_b (w : World) {p : Program} {loose : List Str} {mean : ExcName → Option Value} {mg mb : Str → Option Value}
  (dp un : Nat) (gd : Option (List Code)) (fr : List Env) (base : Heap) (s : Shared) (E : Value → Shared → Prop) (Q : Flow → Shared → Prop)
  (XB : (Mine.hd.heap_39 w.params).In base) (TB : Top p loose mean mg mb base) (hd : dp + 12 < recursionLimit) (hu : un + 120 < cLine)
  {L fa rl wl : Addr} {cd : Value} {g : Heap} {m : Str → Option Value} {us : List Nat} {off u0 lz : Nat} {ws rv : List Value} {wc rc n : Nat} {lt : Tok} {o1 o2 o3 o4 o5 o0 : Obj} {v2 : Option Value}
  (B : Below (kA dp un gd fr) base fr g) (D : KtsDicts (fr.filterMap (·.frame)) g) (ld : LD us off u0 lz) (hw : WTok ws (us.map (em off)) n) (hr : IntsAre rv ((rowsB us u0 6).map fun v : Nat => (v : Int)))
  (F : Fr g L s.heap (lwM rl wl (em off lz) lt m))
  (h1 : o1.data = .cell (some (.ref wl))) (h2 : o2.data = .cell v2)
  (N : News g L s.heap [(rl, W.listOf rv.toArray rc), (wl, W.listOf ws.toArray wc), (L + 1 + 1 + 1 + 1 + 1, o5), (L + 1 + 1 + 1 + 1, o4), (L + 1 + 1 + 1, o3), (L + 1 + 1, o2), (L + 1, o1), (281, o0)]) (ap : LApart L rl wl)
  (hE : PassesOwn (model PySem.Challenge.rw_kl0506_01.row.prog w) ((kA dp un gd fr).deeper (lawEnv L fa cd)) (lawEnv L fa cd) E)
  (hQ : ∀ fl lv lc h tk m' o2' v2', IntsAre lv [em off lz] → Fr g L h (lwM rl fl (em off lz) lt m') →
    News g L h [(fl, W.listOf (List.toArray lv) lc), (rl, W.listOf rv.toArray rc), (wl, W.listOf ws.toArray wc), (L + 1 + 1 + 1 + 1 + 1, o5), (L + 1 + 1 + 1 + 1, o4), (L + 1 + 1 + 1, o3), (L + 1 + 1, o2'), (L + 1, o1), (281, o0)] → o2'.data = .cell v2' →
    wpAny (model PySem.Challenge.rw_kl0506_01.row.prog w) ((kA dp un gd fr).deeper (lawEnv L fa cd)) (execs (lawBody.drop 5) (lawEnv L fa cd)) Q E { s with heap := h, toks := tk }) :
  wpAny (model PySem.Challenge.rw_kl0506_01.row.prog w) ((kA dp un gd fr).deeper (lawEnv L fa cd)) (execs (lawBody.drop 4) (lawEnv L fa cd)) Q E s := by
  have X0 : (Mine.hd.heap_39 w.params).In g := XB.keeps B.stays
  have T0 : Top p loose mean mg mb g := TB.keeps B.stays
  dsimp only [lawEnv, lawScope, lawScopeE] at hE hQ ⊢
  conv in (lawBody.drop 4) => whnf
  obtain ⟨rI, hrI⟩ : ∃ rI, rI = (rowsB us u0 6).map fun v : Nat => (v : Int) := ⟨_, rfl⟩
  rw [← hrI] at hr
  have hrl : rI.length = (rowsB us u0 6).length := by rw [hrI, List.length_map]
  have hn6 : rI.length < 64 := by have := rows_len (us := us) (u0 := u0) 6; walk_at "lo"
  obtain ⟨hpw, hperm⟩ := dbl_perm ld.aff (List.mem_of_getElem? ld.head) ld.mem ld.min
  have hm16 : 2 ^ (rowsB us u0 6).length ≤ 16 := by
    have := hperm.length_eq
    rw [dbl_len] at this
    have := ld.len
    walk_at "lo"
  have hr64 : ∀ r ∈ rowsB us u0 6, r < 64 := rows_lt 6
  have hl64 := ld.aff.lt _ ld.mem
  delta LApart at ap
  k_steps
  rename IsRange _ _ _ _ _ _ _ _ => R1
  rename Fr _ _ _ _ => F1
  rename News _ _ _ _ => N1
  refine ri_pyiter F1 N1 R1 (small_one (by walk_at "lo") (by walk_at "lo") (by walk_at "lo") (by walk_at "lo")) ((rangeSize_nat _ _).trans (show (((rI.length : Int) - 0).toNat : Int) = (rI.length : Int) by walk_at "lo")) ?_
  intro I h2' F2 N2 lt2
  refine ⟨I, rI.length + 1, rfl, ?_⟩
  have i1 := Nat.ne_of_gt (lt2 _ (.head _))
  have i2 := Nat.ne_of_gt (lt2 _ (.tail _ (.head _)))
  have i3 := Nat.ne_of_gt (lt2 _ (.tail _ (.tail _ (.head _))))
  have i4 := Nat.ne_of_gt (lt2 _ (.tail _ (.tail _ (.tail _ (.head _)))))
  have i5 := Nat.ne_of_gt (lt2 _ (.tail _ (.tail _ (.tail _ (.tail _ (.head _))))))
  have i6 := Nat.ne_of_gt (lt2 _ (.tail _ (.tail _ (.tail _ (.tail _ (.tail _ (.head _)))))))
  have i7 := Nat.ne_of_gt (lt2 _ (.tail _ (.tail _ (.tail _ (.tail _ (.tail _ (.tail _ (.head _))))))))
  have i8 := Nat.ne_of_gt (lt2 _ (.tail _ (.tail _ (.tail _ (.tail _ (.tail _ (.tail _ (.tail _ (.head _)))))))))
  dsimp only at i1 i2 i3 i4 i5 i6 i7 i8
  obtain ⟨J, jE, jN⟩ : ∃ J : Nat → Shared → Prop, (∀ k s' (C : Shared → Prop), J k s' → (∀ h tk m fl lv ls lc o2' v2', Fr g L h (lwM rl fl (em off lz) lt m) → News g L h (lbNews L I fl rl wl (riObj (k : Int) ((rI.length : Int) - (k : Int)) 1) lv rv ws lc rc wc o5 o4 o3 o2' o1 o0) → o2'.data = .cell v2' → IntsAre lv ls → ls.Perm ((dbl lz ((rowsB us u0 6).drop k)).map (em off)) → (@Ne Nat fl (L + 1 + 1)) → (@Ne Nat I fl) → C { s with heap := h, toks := tk }) → C s') ∧ (∀ (k : Nat) h tk m fl lv ls lc o2' v2', Fr g L h (lwM rl fl (em off lz) lt m) → News g L h (lbNews L I fl rl wl (riObj (k : Int) ((rI.length : Int) - (k : Int)) 1) lv rv ws lc rc wc o5 o4 o3 o2' o1 o0) → o2'.data = .cell v2' → IntsAre lv ls → ls.Perm ((dbl lz ((rowsB us u0 6).drop k)).map (em off)) → (@Ne Nat fl (L + 1 + 1)) → (@Ne Nat I fl) → J k { s with heap := h, toks := tk }) :=
    ⟨fun k s' => ∀ C : Shared → Prop, (∀ h tk m fl lv ls lc o2' v2', Fr g L h (lwM rl fl (em off lz) lt m) → News g L h (lbNews L I fl rl wl (riObj (k : Int) ((rI.length : Int) - (k : Int)) 1) lv rv ws lc rc wc o5 o4 o3 o2' o1 o0) → o2'.data = .cell v2' → IntsAre lv ls → ls.Perm ((dbl lz ((rowsB us u0 6).drop k)).map (em off)) → (@Ne Nat fl (L + 1 + 1)) → (@Ne Nat I fl) → C { s with heap := h, toks := tk }) → C s', fun _ _ C j f => j C f, fun _ _ _ _ _ _ _ _ _ _ x0 x1 x2 x3 x4 x5 x6 _ f => f _ _ _ _ _ _ _ _ _ x0 x1 x2 x3 x4 x5 x6⟩
  refine trest_ind J rI.length ?turn ?fin rI.length 0 _ (by walk_at "lo") ?init
  case init =>
    refine jN 0 _ _ m wl ws (us.map (em off)) wc o2 v2 F2 ?_ h2 hw.ints (hperm.symm.map _) (by walk_at "lo") i2
    rw [show (rI.length : Int) - ((0 : Nat) : Int) = (rI.length : Int) by walk_at "lo"]
    exact lb_start N2
  case fin =>
    intro s' hs
    refine jE _ s' _ hs ?_
    intro h tk m' fl lv ls lc o2' v2' F3 N3 h2c hli hp hf1 hf2
    refine ri_pyend (s := { s with heap := h, toks := tk }) F3 N3 (ne9 hf2 i1 i2 i3 i4 i5 i6 i7 i8) (by walk_at "lo") rfl fun h4 F4 N4 => ⟨rfl, ?_⟩
    rw [hrl, List.drop_length, dbl, List.map_singleton, List.perm_singleton] at hp
    subst hp
    clear F3 N3 F1 N1 F2 N2
    k_steps
    refine stop_in ?_
    exact hQ fl lv lc _ _ _ _ _ hli F4 N4 h2c
  case turn =>
    intro i s' hi hs
    refine jE _ s' _ hs ?_
    intro h tk m' fl lv ls lc o2' v2' F3 N3 h2c hli hp hf1 hf2
    have hir : i < (rowsB us u0 6).length := by walk_at "lo"
    refine ri_pynext (s := { s with heap := h, toks := tk }) F3 N3 (UpdF.head (ne9 hf2 i1 i2 i3 i4 i5 i6 i7 i8)) (by walk_at "lo") fun h4 F4 N4 => ⟨_, rfl, ?_⟩
    clear F3 N3 F1 N1 F2 N2
    (try dsimp only [lbNews] at N4)
    obtain ⟨r, rs, hdrop, hri⟩ : ∃ r rs, (rowsB us u0 6).drop i = r :: rs ∧ rI.getD i 0 = (r : Int) := ⟨_, _, List.drop_eq_getElem_cons hir, by rw [hrI]; simp [List.getD, hir]⟩
    rw [hdrop] at hp
    have hpw2 : (dbl lz (r :: rs)).Pairwise (· < ·) := hdrop ▸ dbl_pw i _ hpw
    have hll : ls.length = (dbl lz (r :: rs)).length := by rw [hp.length_eq, List.length_map]
    have hll2 : 0 < ls.length := by rw [hll, dbl_len]; exact Nat.two_pow_pos _
    have hrs : (r :: rs).length ≤ (rowsB us u0 6).length := by rw [← hdrop, List.length_drop]; walk_at "lo"
    have hll3 : ls.length < 64 := by
      rw [hll, dbl_len]
      have := Nat.pow_le_pow_right (show 0 < 2 by decide) hrs
      walk_at "lo"
    refine wpAny_pure ?_
    k_steps
    refine stop_in ?_
    rename Fr _ _ _ _ => F5
    rename News _ _ _ _ => N5
    refine median_high_c w (dp + 1) _ gd (_ :: fr) base _ _ _ (amid_push B F5 D rfl rfl) XB TB (by walk_at "lo") ?hu1 (vs := lv) (by is_list) hli hll2 hll3 ?_
    case hu1 => show un + 3 + 8 < cLine; walk_at "lo"
    intro sd ix t5 h6 tk6 k6 q1 q2 q3
    have e1 : sd.getD ix 0 = em off (lz ^^^ r) := by rw [q3, med_eq q1 q2 hp hpw2, hll, mid_em]
    rw [e1]
    have N6 := News.ofKeeps N5 k6 (by simp)
    have F6 := Fr.ofKeeps F5 k6 (by simp) (by simp)
    clear N5 F5
    k_steps
    · rename Builtin.bitXor _ _ ≠ _ => hne
      exact absurd ((high_least ld.off hl64 (hr64 r (List.mem_of_mem_drop (hdrop ▸ List.mem_cons_self)))).trans (by rw [Int.toNat_natCast, hri])) hne
    · refine stop_in ?_
      rename Fr _ _ _ _ => F7
      rename News _ _ _ _ => N7
      refine median_low_c w (dp + 1) _ gd (_ :: fr) base _ _ _ (amid_push B F7 D rfl rfl) XB TB (by walk_at "lo") ?hu2 (vs := lv) (by is_list) hli hll2 hll3 ?_
      case hu2 => show un + 3 + 8 < cLine; walk_at "lo"
      intro sd ix t5 h8 tk8 k8 q1 q2 q3
      have e2 : sd.getD ix 0 = em off (lz ^^^ xl rs) := by rw [q3, med_eq q1 q2 hp hpw2, hll, low_em]
      rw [e2]
      have N8 := News.ofKeeps N7 k8 (by simp)
      have F8 := Fr.ofKeeps F7 k8 (by simp) (by simp)
      clear N7 F7
      k_steps
      refine stop_in ?_
      k_dflt (refine' kmk_slice_ints ?slF ?slN ?sll ?slp ?slq ?sli ?slm ?slc ?_ ?sls ?slt ?slz; (case slF => k_asm); (case slN => k_asm); (case sll => is_list); (case slp => exact IsPart.int _ _); (case slq => exact IsPart.none); (case sli => assumption); (case slm => exact kmk_from (by assumption) (by walk_at "lo")); (case slc => exact List.length_drop ..); (case sls => with_unfolding_all rfl); (case slt => kmk_pure); (case slz => (rw [sizeLine_eq, List.size_toArray, (by assumption : IntsAre _ _).length]; walk_at "lo")))
      intro D' ws' h' F' N' l1 hI' hC' hL'
      (try k_lt l1)
      (try k_sweep)
      k_steps
      refine stop_in ?_
      rename Fr _ _ _ _ => F9
      rename News _ _ _ _ => N9
      rename IntsAre _ (List.drop _ _) => hdr
      have edr : List.drop ((i : Int)).toNat rI = (r :: rs).map fun v : Nat => (v : Int) := by rw [Int.toNat_natCast, hrI, ← List.map_drop, hdrop]
      rw [edr] at hdr
      have hr64' : ∀ x ∈ r :: rs, x < 64 := fun x hx => hr64 x (List.mem_of_mem_drop (hdrop ▸ hx))
      refine together_c w (dp + 1) _ gd (_ :: fr) base _ _ _ (amid_push B F9 D rfl rfl) XB TB (by walk_at "lo") ?hu3 (by is_list) hdr (by rw [List.length_map]; walk_at "lo") ?_
      case hu3 => show un + 3 + 8 < cLine; walk_at "lo"
      intro z tz h10 tk10 k10 ez
      rw [show (0 : Int) = ((0 : Nat) : Int) from rfl, xl_fold _ 0 (by decide) hr64', Nat.zero_xor] at ez
      subst ez
      have N10 := News.ofKeeps N9 k10 (by simp)
      have F10 := Fr.ofKeeps F9 k10 (by simp) (by simp)
      clear N9 F9
      k_steps
      · rename Builtin.bitXor _ _ ≠ _ => hne
        exact absurd (low_high ld.off hl64 (hr64' r (.head _)) fun x hx => hr64' x (.tail _ hx)) hne
      · refine stop_in ?_
        rename Fr _ _ _ _ => F11
        rename News _ _ _ _ => N11
        have hll4 := hli.length
        refine LCt.CompSrcT.ledger (its := lv.toArray) (k := lc) rfl F11 N11 (by k_mem) (by rw [sizeLine_eq, List.size_toArray]; walk_at "lo") fun g' => ?_
        refine lct_turns (n := lv.toArray.size) (fun i ys => IntsAre ys ((ls.take i).filter fun x => decide (x < em off (lz ^^^ r)))) (.inr ⟨_, by k_mem, rfl, _, rfl⟩) ?turn2 ?fin2 _ 0 [] (by walk_at "lo") (by simpa using IntsAre.nil)
        case turn2 =>
          intro i2 ys v I5 oI5 C5 oC5 D5 m5 h5 tk5 E5 hlt hv hJ hC hx F5 N5 off5 ne5
          obtain ⟨z, tz, rfl, hz⟩ := IntsAre.at hli i2 v (by simpa using hv)
          clear F11 N11
          have i2l : i2 < ls.length := (List.getElem?_eq_some_iff.mp hz).1
          have etk : (ls.take (i2 + 1)).filter (fun x => decide (x < em off (lz ^^^ r))) = (ls.take i2).filter (fun x => decide (x < em off (lz ^^^ r))) ++ if z < em off (lz ^^^ r) then [z] else [] := by
            rw [List.take_add_one, hz, List.filter_append]
            simp only [Option.toList_some, List.filter_cons, List.filter_nil, decide_eq_true_eq]
          k_steps
          · have hzx : z < em off (lz ^^^ r) := by assumption
            rw [if_pos hzx] at etk
            exact ⟨_, _, rfl, F5, N5, by rw [etk]; exact hJ.append (.cons _ _ .nil)⟩
          · have hzx : ¬ z < em off (lz ^^^ r) := by first | assumption | walk_at "lo"
            rw [if_neg hzx, List.append_nil] at etk
            exact ⟨_, _, rfl, F5, N5, by rw [etk]; exact hJ⟩
        case fin2 =>
          intro ys hJ D5 h tk F N offD
          rw [List.take_of_length_le (by rw [List.size_toArray]; walk_at "lo")] at hJ
          simp only [LCg.Off1, and_true] at offD
          k_steps
          have e1 : ((i + 1 : Nat) : Int) = (i : Int) + 1 := by walk_at "lo"
          have e2 : (rI.length : Int) - ((i + 1 : Nat) : Int) = (rI.length : Int) - (i : Int) - 1 := by walk_at "lo"
          refine ⟨rfl, jN (i + 1) h tk _ D5 ys _ ys.length _ _ (Fr.as F (lwM_in rfl rfl rfl)) ?_ (by assumption) hJ ?_ (by k_ne) (by k_ne)⟩
          · rw [e2, e1]; exact lb_pick N
          · rw [show (rowsB us u0 6).drop (i + 1) = rs by rw [← List.drop_drop, hdrop]; rfl]
            exact low_filter hp hpw2
end SLwB
section SLwC
open PySem PySem.W PyProof.Rows PySem.Calls PySem.Spec
theorem fresh_LwC : True := by
  w_top off
  trivial
theorem News.tl {g h : Heap} {L : Addr} {a : Addr × Obj} {r : List (Addr × Obj)} (N : News g L h (a :: r)) : News g L h r := fun q hq => N q (.tail _ hq)
theorem lc_pick {g h : Heap} {L : Addr} {nl a b rl wl c5 c4 c3 c2 c1 t : Addr × Obj} (N : News g L h [nl, a, b, rl, wl, c5, c4, c3, c2, c1, t]) : News g L h [nl, rl, wl, c5, c4, c3, c2, c1, t] := (nws N (.head _) (ntl (ntl (ntl N))))
local macro_rules | `(tactic| walk_at "call ref") => `(tactic| walk_at "m:0")
local macro_rules | `(tactic| walk_at "execs cons") => `(tactic| walk_at "m:6")
set_option maxRecDepth 100000 in
set_option maxHeartbeats 4000000 in
theorem law_c (w : World) {p : Program} {loose : List Str} {mean : ExcName → Option Value} {mg mb : Str → Option Value}
  (dp un : Nat) (gd : Option (List Code)) (fr : List Env) (base : Heap) (s : Shared) (E : Value → Shared → Prop) (Q : Flow → Shared → Prop)
  (XB : (Mine.hd.heap_39 w.params).In base) (TB : Top p loose mean mg mb base) (hd : dp + 12 < recursionLimit) (hu : un + 120 < cLine)
  {L fa rl wl fl : Addr} {cd : Value} {g : Heap} {m : Str → Option Value} {z : Int} {ws rv lv : List Value} {wc rc lc : Nat} {lt : Tok} {o1 o2 o3 o4 o5 o0 : Obj} {v3 : Option Value}
  (B : Below (kA dp un gd fr) base fr g) (D : KtsDicts (fr.filterMap (·.frame)) g) (hli : IntsAre lv [z])
  (F : Fr g L s.heap (lwM rl fl z lt m)) (h3 : o3.data = .cell v3)
  (N : News g L s.heap [(fl, W.listOf lv.toArray lc), (rl, W.listOf rv.toArray rc), (wl, W.listOf ws.toArray wc), (L + 1 + 1 + 1 + 1 + 1, o5), (L + 1 + 1 + 1 + 1, o4), (L + 1 + 1 + 1, o3), (L + 1 + 1, o2), (L + 1, o1), (281, o0)]) (ap : LApart L rl wl)
  (hQ : ∀ nl lnv nc h tk m' o3', IntsAre lnv [z] → Fr g L h (lwM rl fl z lt m') →
    News g L h [(nl, W.listOf (List.toArray lnv) nc), (rl, W.listOf rv.toArray rc), (wl, W.listOf ws.toArray wc), (L + 1 + 1 + 1 + 1 + 1, o5), (L + 1 + 1 + 1 + 1, o4), (L + 1 + 1 + 1, o3'), (L + 1 + 1, o2), (L + 1, o1), (281, o0)] → o3'.data = .cell (some (.ref nl)) → (@Ne Nat nl (L + 1 + 1 + 1)) ∧ (@Ne Nat nl (L + 1 + 1 + 1 + 1)) →
    wpAny (model PySem.Challenge.rw_kl0506_01.row.prog w) ((kA dp un gd fr).deeper (lawEnv L fa cd)) (execs (lawBody.drop 7) (lawEnv L fa cd)) Q E { s with heap := h, toks := tk }) :
  wpAny (model PySem.Challenge.rw_kl0506_01.row.prog w) ((kA dp un gd fr).deeper (lawEnv L fa cd)) (execs (lawBody.drop 5) (lawEnv L fa cd)) Q E s := by
  have X0 : (Mine.hd.heap_39 w.params).In g := XB.keeps B.stays
  have T0 : Top p loose mean mg mb g := TB.keeps B.stays
  dsimp only [lawEnv, lawScope, lawScopeE] at hQ ⊢
  conv in (lawBody.drop 5) => whnf
  delta LApart at ap
  k_steps
  refine stop_in ?_
  rename Fr _ _ _ _ => F5
  rename News _ _ _ _ => N5
  refine median_low_c w (dp + 1) _ gd (_ :: fr) base _ _ _ (amid_push B F5 D rfl rfl) XB TB (by walk_at "lo") ?hu1 (vs := lv) (by is_list) hli (by simp) (by simp) ?_
  case hu1 => show un + 3 + 8 < cLine; walk_at "lo"
  intro sd ix t5 h6 tk6 k6 q1 q2 q3
  have e1 : sd.getD ix 0 = z := by rw [List.perm_singleton.mp q1, q3]; simp
  rw [e1]
  have N6 := News.ofKeeps N5 k6 (by simp)
  have F6 := Fr.ofKeeps F5 k6 (by simp) (by simp)
  clear N5 F5
  k_steps
  refine stop_in ?_
  rename Fr _ _ _ _ => F5
  rename News _ _ _ _ => N5
  refine median_high_c w (dp + 1) _ gd (_ :: fr) base _ _ _ (amid_push B F5 D rfl rfl) XB TB (by walk_at "lo") ?hu2 (vs := lv) (by is_list) hli (by simp) (by simp) ?_
  case hu2 => show un + 3 + 8 < cLine; walk_at "lo"
  intro sd2 ix2 t7 h8 tk8 k8 q4 q5 q6
  have e2 : sd2.getD ix2 0 = z := by rw [List.perm_singleton.mp q4, q6]; simp
  rw [e2]
  have N8 := News.tl (News.ofKeeps N5 k8 (by simp))
  have F8 := Fr.ofKeeps F5 k8 (by simp) (by simp)
  clear N5 F5
  k_steps
  refine stop_in ?_
  rename Fr _ _ _ _ => F9
  rename News _ _ _ _ => N9
  refine hQ _ [.int z lt] _ _ _ _ _ (.cons _ _ .nil) F9 (lc_pick N9) (by assumption) ⟨by k_ne, by k_ne⟩
end SLwC
section SLwD0
open PySem PySem.W PyProof.Rows PySem.Calls PySem.Spec
set_option maxRecDepth 100000
noncomputable abbrev lwN (rl : Addr) (z : Int) (t : Tok) (m : Str → Option Value) : Str → Option Value := fun y => if y = Str.ofString "rows" then some (.ref rl) else if y = Str.ofString "least" then some (.int z t) else m y
theorem lwN_in {M : Str → Option Value} {rl : Addr} {z : Int} {t : Tok} (h1 : M (Str.ofString "rows") = some (.ref rl)) (h2 : M (Str.ofString "least") = some (.int z t)) : ∀ y, M y = lwN rl z t M y := fun y => by
  unfold lwN
  split
  · rename_i e; rw [e, h1]
  · split
    · rename_i e; rw [e, h2]
    · rfl
section
variable {prog : Program} {w : World} {A : Around} {E : Value → Shared → Prop} {s : Shared} {h₀ : Heap} {L l it : Addr} {m : Str → Option Value} {news : List (Addr × Obj)} {g : Obj → List (Addr × Obj)} {items : Array Value} {x : Value} {i : Nat} {o : Obj}
noncomputable def IsRv (o : Obj) (l : Addr) (i : Int) : Prop := o.cls = .type "list_reverseiterator" ∧ o.data = .fields #[.ref l, rawInt i]
theorem rv_pyiter {Q : Value → Shared → Prop} (N : News h₀ L s.heap news) (hm : (it, o) ∈ news) {k : Int} (hr : IsRv o l k) (h : Q (.ref it) s) : wpAny (model prog w) A (pyIter (.ref it)) Q E s :=
  wpAny_pyIter_revIter ⟨o, (N _ hm).1, hr⟩ h
theorem rv_pynext {Q : Option Value → Shared → Prop} (F : Fr h₀ L s.heap m) (N : News h₀ L s.heap news) (U : UpdF it o news g) (hr : IsRv o l (i : Int)) (hl : s.heap.IsList l items) (hx : items[i]? = some x)
    (h : ∀ h' o', IsRv o' l ((i : Int) - 1) → Fr h₀ L h' m → News h₀ L h' (g o') → Q (some x) { s with heap := h' }) : wpAny (model prog w) A (pyNext (.ref it)) Q E s := by
  obtain ⟨pre, post, hn, hg, a, b⟩ := U.split
  subst hn
  have hm := N (it, o) (List.mem_append_right _ (.head _))
  refine wpAny_pyNext_rev_item ⟨o, hm.1, hr⟩ hl hx fun h' hit hs => ?_
  obtain ⟨o', ho', hc⟩ := hit
  refine h h' o' hc (F.change hs hm.2.1 hm.2.2) ?_
  rw [hg]
  exact N.setIn a b hs ho'
theorem rv_pyend {Q : Option Value → Shared → Prop} (F : Fr h₀ L s.heap m) (N : News h₀ L s.heap ((it, o) :: news)) (ne : ∀ p ∈ news, p.1 ≠ it) (hr : IsRv o l (-1)) (hh : A.handled = none)
    (h : ∀ h', Fr h₀ L h' m → News h₀ L h' news → Q none { s with heap := h' }) : wpAny (model prog w) A (pyNext (.ref it)) Q E s := by
  have hm := N (it, o) (.head _)
  refine wpAny_pyNext_rev_end hh ⟨o, hm.1, hr⟩ fun h' he => ?_
  refine h h' ⟨F.ns.at' fun o e => he _ o (Ne.symm hm.2.1) e, fun b o e => he _ o (fun q => by rw [q, hm.2.2] at e; cases e) (F.keep b o e), F.above⟩ fun p hp => ⟨he _ _ (ne p hp) (N p (.tail _ hp)).1, (N p (.tail _ hp)).2⟩
end
end SLwD0
open PySem PySem.W PyProof.Rows PySem.Calls PySem.Spec
local macro_rules | `(tactic| walk_at "m:9") => `(tactic| (k_here; (with_reducible refine stop_if ?_)))
section SLwD
open PySem PySem.W PyProof.Rows PySem.Calls PySem.Spec
theorem fresh_LwD : True := by
  w_top off
  trivial
local macro_rules | `(tactic| walk_at "call ref") => `(tactic| walk_at "m:0")
local macro_rules | `(tactic| walk_at "exec For") => `(tactic| walk_at "m:7")
local macro_rules | `(tactic| walk_at "exec For Name Call cons nil") => `(tactic| walk_at "m:7")
local macro_rules | `(tactic| walk_at "execs cons") => `(tactic| walk_at "m:9")
theorem ld_pick {g h : Heap} {L : Addr} {D' D I nl rl wl c5 c4 c3 c2 c1 t : Addr × Obj} (N : News g L h [D', D, I, nl, rl, wl, c5, c4, c3, c2, c1, t]) : News g L h [I, D', rl, wl, c5, c4, c3, c2, c1, t] := (nws N (.tail _ (.tail _ (.head _))) (nws N (.head _) (ntl (ntl (ntl (ntl N))))))
set_option maxRecDepth 100000 in
set_option maxHeartbeats 4000000 in
theorem law_d (w : World) {p : Program} {loose : List Str} {mean : ExcName → Option Value} {mg mb : Str → Option Value}
  (dp un : Nat) (gd : Option (List Code)) (fr : List Env) (base : Heap) (s : Shared) (E : Value → Shared → Prop) (Q : Flow → Shared → Prop)
  (XB : (Mine.hd.heap_39 w.params).In base) (TB : Top p loose mean mg mb base)
  {L fa rl wl nl : Addr} {cd : Value} {g : Heap} {m : Str → Option Value} {us : List Nat} {off u0 lz : Nat} {ws rv lnv : List Value} {wc rc nc : Nat} {lt : Tok} {o1 o2 o3 o4 o5 o0 : Obj} {v4 : Option Value}
  (B : Below (kA dp un gd fr) base fr g) (ld : LD us off u0 lz) (hr : IntsAre rv ((rowsB us u0 6).map fun v : Nat => (v : Int))) (hli : IntsAre lnv [em off lz])
  (F : Fr g L s.heap (lwN rl (em off lz) lt m)) (h3 : o3.data = .cell (some (.ref nl))) (h4 : o4.data = .cell v4)
  (N : News g L s.heap [(nl, W.listOf lnv.toArray nc), (rl, W.listOf rv.toArray rc), (wl, W.listOf ws.toArray wc), (L + 1 + 1 + 1 + 1 + 1, o5), (L + 1 + 1 + 1 + 1, o4), (L + 1 + 1 + 1, o3), (L + 1 + 1, o2), (L + 1, o1), (281, o0)]) (ap : LApart L rl wl) (nlf : (@Ne Nat nl (L + 1 + 1 + 1)) ∧ (@Ne Nat nl (L + 1 + 1 + 1 + 1)))
  (hE : PassesOwn (model PySem.Challenge.rw_kl0506_01.row.prog w) ((kA dp un gd fr).deeper (lawEnv L fa cd)) (lawEnv L fa cd) E)
  (hQ : ∀ nl lnv nc h tk m' o3' o4' v4', IntsAre lnv ((dbl lz (rowsB us u0 6)).map (em off)) → Fr g L h (lwN rl (em off lz) lt m') →
    News g L h [(nl, W.listOf (List.toArray lnv) nc), (rl, W.listOf rv.toArray rc), (wl, W.listOf ws.toArray wc), (L + 1 + 1 + 1 + 1 + 1, o5), (L + 1 + 1 + 1 + 1, o4'), (L + 1 + 1 + 1, o3'), (L + 1 + 1, o2), (L + 1, o1), (281, o0)] → o3'.data = .cell (some (.ref nl)) → o4'.data = .cell v4' → (@Ne Nat nl (L + 1 + 1 + 1)) ∧ (@Ne Nat nl (L + 1 + 1 + 1 + 1)) →
    wpAny (model PySem.Challenge.rw_kl0506_01.row.prog w) ((kA dp un gd fr).deeper (lawEnv L fa cd)) (execs (lawBody.drop 8) (lawEnv L fa cd)) Q E { s with heap := h, toks := tk }) :
  wpAny (model PySem.Challenge.rw_kl0506_01.row.prog w) ((kA dp un gd fr).deeper (lawEnv L fa cd)) (execs (lawBody.drop 7) (lawEnv L fa cd)) Q E s := by
  have X0 : (Mine.hd.heap_39 w.params).In g := XB.keeps B.stays
  have T0 : Top p loose mean mg mb g := TB.keeps B.stays
  dsimp only [lawEnv, lawScope, lawScopeE] at hE hQ ⊢
  conv in (lawBody.drop 7) => whnf
  obtain ⟨rI, hrI⟩ : ∃ rI, rI = (rowsB us u0 6).map fun v : Nat => (v : Int) := ⟨_, rfl⟩
  rw [← hrI] at hr
  have hrl : rI.length = (rowsB us u0 6).length := by rw [hrI, List.length_map]
  have hn6 : rI.length < 64 := by have := rows_len (us := us) (u0 := u0) 6; walk_at "lo"
  have hr64 : ∀ r ∈ rowsB us u0 6, r < 64 := rows_lt 6
  have hl64 := ld.aff.lt _ ld.mem
  delta LApart at ap
  k_steps
  rename Fr _ _ _ _ => F1
  rename News _ _ _ _ => N1
  have hrv := hr.length
  refine rv_pyiter N1 (.head _) ⟨rfl, rfl⟩ ?_
  rename nl < _ ∧ _ => l1
  rename_i I hh1
  refine ⟨I, rI.length + 1, rfl, ?_⟩
  have i0 := Nat.ne_of_gt l1.1
  have i1 := Nat.ne_of_gt l1.2.1
  have i2 := Nat.ne_of_gt l1.2.2.1
  have i3 := Nat.ne_of_gt l1.2.2.2.1
  have i4 := Nat.ne_of_gt l1.2.2.2.2.1
  have i5 := Nat.ne_of_gt l1.2.2.2.2.2.1
  have i6 := Nat.ne_of_gt l1.2.2.2.2.2.2.1
  have i7 := Nat.ne_of_gt l1.2.2.2.2.2.2.2.1
  have i8 := Nat.ne_of_gt l1.2.2.2.2.2.2.2.2
  obtain ⟨J, jE, jN⟩ : ∃ J : Nat → Shared → Prop, (∀ k s' (C : Shared → Prop), J k s' → (∀ h tk m nl lnv nc o3' o4' v4' oI, Fr g L h (lwN rl (em off lz) lt m) → News g L h [(I, oI), (nl, W.listOf (List.toArray lnv) nc), (rl, W.listOf rv.toArray rc), (wl, W.listOf ws.toArray wc), (L + 1 + 1 + 1 + 1 + 1, o5), (L + 1 + 1 + 1 + 1, o4'), (L + 1 + 1 + 1, o3'), (L + 1 + 1, o2), (L + 1, o1), (281, o0)] → IsRv oI rl ((rI.length : Int) - 1 - (k : Int)) → o3'.data = .cell (some (.ref nl)) → o4'.data = .cell v4' → IntsAre lnv ((dbl lz ((rowsB us u0 6).drop (rI.length - k))).map (em off)) → (@Ne Nat nl (L + 1 + 1 + 1)) → (@Ne Nat nl (L + 1 + 1 + 1 + 1)) → (@Ne Nat I nl) → C { s with heap := h, toks := tk }) → C s') ∧ (∀ (k : Nat) h tk m nl lnv nc o3' o4' v4' oI, Fr g L h (lwN rl (em off lz) lt m) → News g L h [(I, oI), (nl, W.listOf (List.toArray lnv) nc), (rl, W.listOf rv.toArray rc), (wl, W.listOf ws.toArray wc), (L + 1 + 1 + 1 + 1 + 1, o5), (L + 1 + 1 + 1 + 1, o4'), (L + 1 + 1 + 1, o3'), (L + 1 + 1, o2), (L + 1, o1), (281, o0)] → IsRv oI rl ((rI.length : Int) - 1 - (k : Int)) → o3'.data = .cell (some (.ref nl)) → o4'.data = .cell v4' → IntsAre lnv ((dbl lz ((rowsB us u0 6).drop (rI.length - k))).map (em off)) → (@Ne Nat nl (L + 1 + 1 + 1)) → (@Ne Nat nl (L + 1 + 1 + 1 + 1)) → (@Ne Nat I nl) → J k { s with heap := h, toks := tk }) :=
    ⟨fun k s' => ∀ C : Shared → Prop, (∀ h tk m nl lnv nc o3' o4' v4' oI, Fr g L h (lwN rl (em off lz) lt m) → News g L h [(I, oI), (nl, W.listOf (List.toArray lnv) nc), (rl, W.listOf rv.toArray rc), (wl, W.listOf ws.toArray wc), (L + 1 + 1 + 1 + 1 + 1, o5), (L + 1 + 1 + 1 + 1, o4'), (L + 1 + 1 + 1, o3'), (L + 1 + 1, o2), (L + 1, o1), (281, o0)] → IsRv oI rl ((rI.length : Int) - 1 - (k : Int)) → o3'.data = .cell (some (.ref nl)) → o4'.data = .cell v4' → IntsAre lnv ((dbl lz ((rowsB us u0 6).drop (rI.length - k))).map (em off)) → (@Ne Nat nl (L + 1 + 1 + 1)) → (@Ne Nat nl (L + 1 + 1 + 1 + 1)) → (@Ne Nat I nl) → C { s with heap := h, toks := tk }) → C s', fun _ _ C j f => j C f, fun _ _ _ _ _ _ _ _ _ _ _ x0 x1 x2 x3 x4 x5 x6 x7 x8 _ f => f _ _ _ _ _ _ _ _ _ _ x0 x1 x2 x3 x4 x5 x6 x7 x8⟩
  refine trest_ind J rI.length ?turn ?fin rI.length 0 _ (by walk_at "lo") ?init
  case init =>
    refine jN 0 _ _ m nl lnv nc o3 o4 v4 _ F1 N1 ⟨rfl, ?_⟩ h3 h4 ?_ nlf.1 nlf.2 i0
    · rw [hrv, show (rI.length : Int) - 1 - ((0 : Nat) : Int) = (rI.length : Int) - 1 by walk_at "lo"]; rfl
    · rw [hrl, Nat.sub_zero, List.drop_length]; exact hli
  case fin =>
    intro s' hs
    refine jE _ s' _ hs ?_
    intro h tk m' nl' lnv' nc' o3' o4' v4' oI F3 N3 hrv3 h3c h4c hli3 f1 f2 f3
    rw [show (rI.length : Int) - 1 - (rI.length : Int) = -1 by walk_at "lo"] at hrv3
    refine rv_pyend (s := { s with heap := h, toks := tk }) F3 N3 (ne9 f3 i1 i2 i3 i4 i5 i6 i7 i8) hrv3 rfl fun h4 F4 N4 => ⟨rfl, ?_⟩
    rw [Nat.sub_self, List.drop_zero] at hli3
    clear F3 N3 F1 N1
    k_steps
    refine stop_in ?_
    exact hQ nl' lnv' nc' _ _ _ _ _ _ hli3 F4 N4 h3c h4c ⟨f1, f2⟩
  case turn =>
    intro i s' hi hs
    refine jE _ s' _ hs ?_
    intro h tk m' nl' lnv' nc' o3' o4' v4' oI F3 N3 hrv3 h3c h4c hli3 f1 f2 f3
    have hj : rI.length - (i + 1) < (rowsB us u0 6).length := by walk_at "lo"
    obtain ⟨r, rs, hdrop, hri⟩ : ∃ r rs, (rowsB us u0 6).drop (rI.length - (i + 1)) = r :: rs ∧ rI[rI.length - (i + 1)]? = some (r : Int) := ⟨_, _, List.drop_eq_getElem_cons hj, (congrArg (fun q : List Int => q[rI.length - (i + 1)]?) hrI).trans (by simp [hj])⟩
    have hdrop2 : (rowsB us u0 6).drop (rI.length - i) = rs := by
      rw [show rI.length - i = (rI.length - (i + 1)) + 1 by walk_at "lo", ← List.drop_drop, hdrop]; rfl
    rw [hdrop2] at hli3
    have hjv : rI.length - (i + 1) < rv.length := by walk_at "lo"
    obtain ⟨z, tz, ez, hz⟩ := IntsAre.at hr (rI.length - (i + 1)) rv[rI.length - (i + 1)] (List.getElem?_eq_getElem hjv)
    rw [hri] at hz
    cases hz
    have hr64r : r < 64 := hr64 r (List.mem_of_mem_drop (hdrop ▸ List.mem_cons_self))
    have hrs64 : ∀ x ∈ rs, x < 64 := fun x hx => hr64 x (List.mem_of_mem_drop (hdrop2 ▸ hx))
    rw [show (rI.length : Int) - 1 - (i : Int) = ((rI.length - (i + 1) : Nat) : Int) by walk_at "lo"] at hrv3
    refine rv_pynext (s := { s with heap := h, toks := tk }) (items := rv.toArray) F3 N3 (UpdF.head (ne9 f3 i1 i2 i3 i4 i5 i6 i7 i8)) hrv3 ⟨_, (N3 (rl, _) (by k_mem)).1, rfl, _, rfl⟩ (x := .int (r : Int) tz) (by rw [← ez]; simp [hjv]) fun h4 oI' hrv4 F4 N4 => ⟨_, rfl, ?_⟩
    clear F3 N3 F1 N1
    have hls : ((dbl lz rs).map (em off)).length < 64 := by
      have h1 := (dbl_perm ld.aff (List.mem_of_getElem? ld.head) ld.mem ld.min).2.length_eq
      have h2 := ld.len
      rw [dbl_len] at h1
      have h3 : rs.length ≤ (rowsB us u0 6).length := by rw [← hdrop2, List.length_drop]; walk_at "lo"
      have h4 := Nat.pow_le_pow_right (show 0 < 2 by decide) h3
      rw [List.length_map, dbl_len]
      walk_at "lo"
    have edbl : (dbl lz (r :: rs)).map (em off) = (dbl lz rs).map (em off) ++ ((dbl lz rs).map (em off)).map fun k' => Builtin.bitXor k' (r : Int) := by
      rw [dbl, List.map_append, List.map_map, List.map_map]
      congr 1
      exact List.map_congr_left fun u hu => (em_xor ld.off (dbl_mem rs hrs64 hl64 hu) hr64r).symm
    refine wpAny_pure ?_
    k_steps
    rename Fr _ _ _ _ => Fx
    rename News _ _ _ _ => Nx
    rename IntsAre _ (_ ++ _) => hIa
    rw [← edbl, ← hdrop] at hIa
    refine ⟨rfl, jN (i + 1) _ _ _ _ _ 0 _ _ _ oI' Fx (ld_pick Nx) ?_ (by assumption) (by assumption) hIa (by k_ne) (by k_ne) (by k_ne)⟩
    rw [show (rI.length : Int) - 1 - ((i + 1 : Nat) : Int) = ((rI.length - (i + 1) : Nat) : Int) - 1 by walk_at "lo"]
    exact hrv4
end SLwD
section SRB
open PySem PySem.W PyProof.Rows PySem.Calls PySem.Spec
theorem mem_of_all {binds : List (Str × Value)} {ks : List Str} (h : (binds.all fun y => ks.contains y.1) = true) : ∀ y ∈ binds, y.1 ∈ ks := fun y hy => List.contains_iff_mem.mp (List.all_eq_true.mp h y hy)
set_option maxRecDepth 100000 in
set_option maxHeartbeats 4000000 in
theorem rank_binds1 (w : World) (l : Addr) : ∃ binds ts tt, BindsOf (Mine.hd.heap_39 w.params) 278 ⟨[.ref l], []⟩ binds ∧ (∀ y ∈ binds, y.1 ∈ ([Str.ofString "data", Str.ofString "key", Str.ofString "reverse", Str.ofString "ties", Str.ofString "start"] : List Str)) ∧
   binds.reverse.lookup (Str.ofString "data") = some (.ref l) ∧ binds.reverse.lookup (Str.ofString "key") = some .none ∧ binds.reverse.lookup (Str.ofString "reverse") = some (.bool false) ∧
   binds.reverse.lookup (Str.ofString "ties") = some (.str (Str.ofString "average") tt) ∧ binds.reverse.lookup (Str.ofString "start") = some (.int 1 ts) := by
  apply Exists.intro
  apply Exists.intro
  apply Exists.intro
  refine ⟨?_, ?_, ?_, ?_, ?_, ?_, ?_⟩
  · intro oc od osl fd h S
    refine (fun h2 => ?_) (show (Mine.hd.heap_39 w.params).lookup 278 = some ⟨_, _, .func (fnOf _ _ _ _ _ _ _ _ _ _ _ _), _⟩ by k_dflt k_is)
    rw [h2] at h
    cases h
    with_unfolding_all rfl
  · exact mem_of_all (by with_unfolding_all exact rfl)
  · rfl
  · rfl
  · rfl
  · rfl
  · rfl
set_option maxRecDepth 100000 in
set_option maxHeartbeats 4000000 in
theorem rank_binds2 (w : World) (l : Addr) (t0 : Tok) : ∃ binds ts tt, BindsOf (Mine.hd.heap_39 w.params) 278 ⟨[.ref l], [(Str.ofString "reverse", .bool true), (Str.ofString "start", .int 0 t0)]⟩ binds ∧ (∀ y ∈ binds, y.1 ∈ ([Str.ofString "data", Str.ofString "key", Str.ofString "reverse", Str.ofString "ties", Str.ofString "start"] : List Str)) ∧
   binds.reverse.lookup (Str.ofString "data") = some (.ref l) ∧ binds.reverse.lookup (Str.ofString "key") = some .none ∧ binds.reverse.lookup (Str.ofString "reverse") = some (.bool true) ∧
   binds.reverse.lookup (Str.ofString "ties") = some (.str (Str.ofString "average") tt) ∧ binds.reverse.lookup (Str.ofString "start") = some (.int 0 ts) := by
  apply Exists.intro
  apply Exists.intro
  apply Exists.intro
  refine ⟨?_, ?_, ?_, ?_, ?_, ?_, ?_⟩
  · intro oc od osl fd h S
    refine (fun h2 => ?_) (show (Mine.hd.heap_39 w.params).lookup 278 = some ⟨_, _, .func (fnOf _ _ _ _ _ _ _ _ _ _ _ _), _⟩ by k_dflt k_is)
    rw [h2] at h
    cases h
    with_unfolding_all rfl
  · exact mem_of_all (by with_unfolding_all exact rfl)
  · rfl
  · rfl
  · rfl
  · rfl
  · rfl
end SRB
section SLwE0
open PySem PySem.W PyProof.Rows PySem.Calls PySem.Spec
set_option maxRecDepth 100000
theorem eqAt_fi {A : Around} {s : Shared} {a : UInt64} {t : Tok} {n : Int} {u : Tok} : SeqAt.EqAt A s (.float a t) (.int n u) (Float64.cmpInt a n == some Ordering.eq) := fun prog w E Q hq => by
  unfold eqBool
  refine wpAny_holding ?_
  refine wpAny_ite_split (fun hab => absurd (eq_of_beq hab) (by intro q; cases q)) (fun _ => ?_)
  exact wpAny_bind (eq_fi (wpAny_truthy_bool hq))
/-- a list of floats is not other than a list of ints if each is equal to each -/
theorem ne_fi_list {prog : Program} {w : World} {A : Around} {E : Value → Shared → Prop} {s : Shared} {a b : Addr} {xs ys : List Value} {Q : Value → Shared → Prop} (ha : s.heap.IsList a xs.toArray) (hb : s.heap.IsList b ys.toArray) (hu : A.units < cLine) (hl : xs.length = ys.length)
    (he : ∀ j, j < xs.length → ∃ x t n u, xs[j]? = some (.float x t) ∧ ys[j]? = some (.int n u) ∧ Float64.cmpInt x n = some Ordering.eq)
    (h : Q (.bool false) s) : wpAny (model prog w) A (compareOp .NotEq (.ref a) (.ref b)) Q E s := by
  refine SeqAt.RcNeAt.lists (e := fun _ => true) ha hb (by simpa using hl) hu (fun j h1 h2 => ?_) prog w E Q ?_
  · obtain ⟨x, t, n, u, e1, e2, e3⟩ := he j (by simpa using h1)
    have f1 : xs.toArray[j] = .float x t := by
      have := (List.getElem?_eq_some_iff.mp e1).2
      simpa using this
    have f2 : ys.toArray[j] = .int n u := by
      have := (List.getElem?_eq_some_iff.mp e2).2
      simpa using this
    rw [f1, f2]
    have := eqAt_fi (A := A.in1) (s := s) (a := x) (t := t) (n := n) (u := u)
    rw [e3] at this
    exact this
  · have : (!(List.range xs.toArray.size).all fun _ => true) = false := by simp
    rw [this]
    exact h
/-- what _rank asks of the words -/
theorem WTok.rank {ws : List Value} {zs : List Int} {n : Nat} (h : WTok ws zs n) (hz : zs.Nodup) : ∃ Tk : Nat → Tok, ws.length = zs.length ∧ (∀ i < ws.length, ws.getD i Value.none = .int (zs.getD i 0) (Tk i)) ∧ (∀ i j, i < ws.length → j < ws.length → i ≠ j → zs.getD i 0 ≠ zs.getD j 0) ∧
    (∀ i < ws.length, Tk i ≠ 0) ∧ (∀ i j, i < ws.length → j < ws.length → i ≠ j → Tk i ≠ Tk j) := by
  obtain ⟨ts, e1, e2, e3, e4⟩ := h
  have hl : ws.length = zs.length := by rw [e1, List.length_zipWith, ← e2]; walk_at "lo"
  refine ⟨fun i => ts.getD i 0, hl, fun i hi => ?_, fun i j hi hj hij => ?_, fun i hi => ?_, fun i j hi hj hij => ?_⟩
  · have hi1 : i < zs.length := by walk_at "lo"
    have hi2 : i < ts.length := by walk_at "lo"
    have e : (List.zipWith Value.int zs ts)[i]? = some (.int zs[i] ts[i]) := by
      rw [List.getElem?_eq_getElem (by rw [List.length_zipWith]; walk_at "lo"), List.getElem_zipWith]
    rw [e1]
    simp only [List.getD, e, List.getElem?_eq_getElem hi1, List.getElem?_eq_getElem hi2, Option.getD_some]
  · have hi1 : i < zs.length := by walk_at "lo"
    have hj1 : j < zs.length := by walk_at "lo"
    simp only [List.getD, List.getElem?_eq_getElem hi1, List.getElem?_eq_getElem hj1, Option.getD_some]
    intro q
    exact hij ((List.getElem_inj hz).mp q)
  · have hi2 : i < ts.length := by walk_at "lo"
    simp only [List.getD, List.getElem?_eq_getElem hi2, Option.getD_some]
    exact Nat.ne_of_gt (e4 _ (List.getElem_mem hi2)).1
  · have hi2 : i < ts.length := by walk_at "lo"
    have hj2 : j < ts.length := by walk_at "lo"
    simp only [List.getD, List.getElem?_eq_getElem hi2, List.getElem?_eq_getElem hj2, Option.getD_some]
    have hnd : ts.Nodup := e3.imp fun h => Nat.ne_of_lt h
    intro q
    exact hij ((List.getElem_inj hnd).mp q)
end SLwE0
section SLwE1
open PySem PySem.W PyProof.Rows PySem.Calls PySem.Spec
set_option maxRecDepth 100000
theorem kf_ints_of : ∀ {vs : List Value} {ns : List Int}, IntsAre vs ns → kf_ints vs = true
  | _, _, .nil => rfl
  | _, _, .cons _ _ r => by unfold kf_ints; exact kf_ints_of r
theorem kf_at_of {z : Int} : ∀ {vs : List Value} {ns : List Int} {j : Nat}, IntsAre vs ns → ns[j]? = some z → (∀ i, i < j → ns[i]? ≠ some z) → kf_at z vs = some j
  | _, _, j, .nil, h, _ => by simp at h
  | _, _, 0, .cons n t r, h, _ => by
    simp only [List.getElem?_cons_zero, Option.some.injEq] at h
    subst h
    unfold kf_at
    simp [isInt]
  | _, _, j + 1, .cons n t r, h, hn => by
    have h0 : n ≠ z := fun q => hn 0 (Nat.succ_pos _) (by simp [q])
    have ih := kf_at_of (z := z) r (j := j) (by simpa using h) fun i hi => by have := hn (i + 1) (by walk_at "lo"); simpa using this
    unfold kf_at
    simp only [isInt, beq_false_of_ne h0, ih, cond_false]
theorem index_led {prog : Program} {w : World} {A : Around} {E : Value → Shared → Prop} {s : Shared} {h₀ : Heap} {L D : Addr} {news : List (Addr × Obj)} {vs : List Value} {ns : List Int} {n j : Nat} {z : Int} {t : Tok} {Q : Value → Shared → Prop}
    (N : News h₀ L s.heap news) (hm : (D, W.listOf vs.toArray n) ∈ news) (hi : IntsAre vs ns) (h64 : ns.length < 64) (hj : ns[j]? = some z) (hn : ∀ i, i < j → ns[i]? ≠ some z)
    (h : Q (.int (j : Int) s.toks) { s with toks := s.toks + 1 }) : wpAny (model prog w) A (call (.builtin "list.index") [.ref D, .int z t]) Q E s :=
  kf_index N hm (by simpa using kf_ints_of hi) (j := j) (by simpa using kf_at_of hi hj hn) rfl (by rw [sizeLine_eq]; have := hi.length; simp; walk_at "lo") h
theorem rk_hv {iv : Int} (h : iv.natAbs < 2 ^ 40) : HV (rkF iv) (2 * iv + 2) := by
  unfold rkF
  have e : Float64.ofFrac (decide ((1 : Int) + 1 < 0) != decide ((2 : Int) < 0)) ((1 : Int) + 1).natAbs (Int.natAbs 2) = Float64.ofFrac false 2 2 := rfl
  rw [e]
  exact hv_add (hv_ofInt (by walk_at "lo")) (hv_half (n := 2) (by decide)) (by walk_at "lo")
theorem rk_cmp {iv n : Int} (h : iv.natAbs < 2 ^ 40) (e : n = iv + 1) : Float64.cmpInt (rkF iv) n = some Ordering.eq := by
  rw [hv_cmpInt (rk_hv h), e, show 2 * (iv + 1) = 2 * iv + 2 by walk_at "lo"]
  exact congrArg some (by rw [compare, instOrdInt]; simp [compareOfLessAndEq])
end SLwE1
section SPL7
open PySem PySem.W PyProof.Rows
noncomputable def ix (z : Int) : List Int → Nat
  | [] => 0
  | a :: r => if a = z then 0 else ix z r + 1
theorem ix_at {z : Int} : ∀ {l : List Int}, z ∈ l → l[ix z l]? = some z
  | [], h => by cases h
  | a :: r, h => by
    unfold ix
    split
    · rename_i e; simp [e]
    · rename_i e
      rcases List.mem_cons.mp h with rfl | h
      · exact absurd rfl e
      · simpa using ix_at h
theorem ix_first {z : Int} : ∀ {l : List Int} (i : Nat), i < ix z l → l[i]? ≠ some z
  | [], i, h => by unfold ix at h; walk_at "lo"
  | a :: r, i, h => by
    unfold ix at h
    split at h
    · walk_at "lo"
    · rename_i e
      cases i with
      | zero => simpa using e
      | succ i => simpa using ix_first i (by walk_at "lo")
theorem ix_eq {z : Int} {l : List Int} {j : Nat} (hn : l.Nodup) (h : l[j]? = some z) : ix z l = j := by
  have h1 := ix_at (List.mem_of_getElem? h)
  have a1 := (List.getElem?_eq_some_iff.mp h1)
  have a2 := (List.getElem?_eq_some_iff.mp h)
  obtain ⟨b1, c1⟩ := a1
  obtain ⟨b2, c2⟩ := a2
  exact (List.getElem_inj hn).mp (c1.trans c2.symm)
theorem map_range_getD (zs : List Int) : (List.range zs.length).map (fun i => zs.getD i 0) = zs := by
  apply List.ext_getElem?
  intro i
  rw [List.getElem?_map]
  by_cases h : i < zs.length
  · simp [h, List.getD]
  · rw [List.getElem?_eq_none (by simpa using h), List.getElem?_eq_none (by simpa using h)]; rfl
theorem perm_at {σ : List Nat} {n i : Nat} (h : σ.Perm (List.range n)) (hi : i < n) : ∃ j, j < n ∧ σ.getD j 0 = i ∧ σ[j]? = some i := by
  have hm : i ∈ σ := h.mem_iff.mpr (List.mem_range.mpr hi)
  obtain ⟨j, hj, e⟩ := List.getElem_of_mem hm
  have hl : σ.length = n := by simpa using h.length_eq
  exact ⟨j, by walk_at "lo", by simp [List.getD, hj, e], by simp [hj, e]⟩
theorem rank_up {σ : List Nat} {zs Lst : List Int} (hσ : σ.Perm (List.range zs.length)) (hs : (σ.map fun i => zs.getD i 0).Pairwise (· ≤ ·)) (hp : Lst.Perm zs) (hL : Lst.Pairwise (· < ·)) {i : Nat} (hi : i < zs.length) :
    ∃ j, j < zs.length ∧ σ.getD j 0 = i ∧ ix (zs.getD i 0) Lst = j := by
  have e : (σ.map fun i => zs.getD i 0) = Lst := by
    refine List.Perm.eq_of_pairwise (le := (· ≤ ·)) (fun a b _ _ h1 h2 => Int.le_antisymm h1 h2) hs (hL.imp fun h => Int.le_of_lt h) ?_
    refine (hσ.map _).trans ?_
    rw [map_range_getD]
    exact hp.symm
  obtain ⟨j, j1, j2, j3⟩ := perm_at hσ hi
  refine ⟨j, j1, j2, ix_eq (hL.imp fun h => by walk_at "lo") ?_⟩
  rw [← e, List.getElem?_map, j3]; rfl
theorem rank_down {σ : List Nat} {zs Lst : List Int} (hσ : σ.Perm (List.range zs.length)) (hs : (σ.map fun i => zs.getD i 0).Pairwise (fun p q => q ≤ p)) (hp : Lst.Perm zs) (hL : Lst.Pairwise (· < ·)) {i : Nat} (hi : i < zs.length) :
    ∃ j, j < zs.length ∧ σ.getD j 0 = i ∧ ix (zs.getD i 0) Lst = zs.length - 1 - j := by
  have e : (σ.map fun i => zs.getD i 0) = Lst.reverse := by
    refine List.Perm.eq_of_pairwise (le := fun p q => q ≤ p) (fun a b _ _ h1 h2 => Int.le_antisymm h2 h1) hs ?_ ?_
    · rw [List.pairwise_reverse]; exact hL.imp fun h => Int.le_of_lt h
    · refine (hσ.map _).trans ?_
      rw [map_range_getD]
      exact hp.symm.trans (List.reverse_perm _).symm
  obtain ⟨j, j1, j2, j3⟩ := perm_at hσ hi
  have hl := hp.length_eq
  refine ⟨j, j1, j2, ix_eq (hL.imp fun h => by walk_at "lo") ?_⟩
  have : Lst.reverse[j]? = some (zs.getD i 0) := by rw [← e, List.getElem?_map, j3]; rfl
  rw [List.getElem?_reverse (by walk_at "lo")] at this
  rw [← hl]
  exact this
end SPL7
open PySem PySem.W PyProof.Rows PySem.Calls PySem.Spec
local macro_rules | `(tactic| walk_at "m:10") => `(tactic| (k_here; k_dflt (refine' index_led ?N ?m ?i ?l ?j ?n ?_; (case N => k_asm); (case m => k_mem); (case i => assumption); (case l => assumption); (case j => assumption); (case n => assumption))))
section SLwE
open PySem PySem.W PyProof.Rows PySem.Calls PySem.Spec
theorem fresh_LwE : True := by
  w_top off
  trivial
local macro_rules | `(tactic| walk_at "call ref") => `(tactic| walk_at "m:0")
local macro_rules | `(tactic| walk_at "execs cons") => `(tactic| (k_here; (with_reducible refine stop_ifC ?_)))
theorem le_pick {g h : Heap} {L : Addr} {a b nl rl wl c5 c4 c3 c2 c1 t : Addr × Obj} (N : News g L h [a, b, nl, rl, wl, c5, c4, c3, c2, c1, t]) : News g L h [nl, rl, wl, c5, c4, c3, c2, c1, t] := fun q hq => N q (.tail _ (.tail _ hq))
local macro_rules | `(tactic| walk_at "eval ListComp") => `(tactic| walk_at "m:5")
local macro_rules | `(tactic| walk_at "call builtin:list.index") => `(tactic| walk_at "m:10")
local macro_rules | `(tactic| walk_at "compareOp NotEq ref ref") => `(tactic| walk_at "m:0")
set_option maxRecDepth 100000 in
set_option maxHeartbeats 4000000 in
theorem law_e (w : World) {p : Program} {loose : List Str} {mean : ExcName → Option Value} {mg mb : Str → Option Value}
  (dp un : Nat) (gd : Option (List Code)) (fr : List Env) (base : Heap) (s : Shared) (E : Value → Shared → Prop) (Q : Flow → Shared → Prop)
  (XB : (Mine.hd.heap_39 w.params).In base) (TB : Top p loose mean mg mb base) (hd : dp + 12 < recursionLimit) (hu : un + 120 < cLine)
  {L fa rl wl nl : Addr} {cd : Value} {g : Heap} {m : Str → Option Value} {us : List Nat} {off u0 lz : Nat} {ws rv lnv : List Value} {wc rc nc n : Nat} {lt : Tok} {o1 o2 o3 o4 o5 o0 : Obj}
  (B : Below (kA dp un gd fr) base fr g) (D : KtsDicts (fr.filterMap (·.frame)) g) (ld : LD us off u0 lz) (hw : WTok ws (us.map (em off)) n) (hli : IntsAre lnv ((dbl lz (rowsB us u0 6)).map (em off)))
  (F : Fr g L s.heap (lwN rl (em off lz) lt m)) (h1 : o1.data = .cell (some (.ref wl))) (h3 : o3.data = .cell (some (.ref nl)))
  (N : News g L s.heap [(nl, W.listOf lnv.toArray nc), (rl, W.listOf rv.toArray rc), (wl, W.listOf ws.toArray wc), (L + 1 + 1 + 1 + 1 + 1, o5), (L + 1 + 1 + 1 + 1, o4), (L + 1 + 1 + 1, o3), (L + 1 + 1, o2), (L + 1, o1), (281, o0)])
  (hQ : ∀ g' h tk m', KtsTurn (fr.filterMap (·.frame)) g g' → Below (kA dp un gd fr) base fr g' → KtsDicts (fr.filterMap (·.frame)) g' → Fr g' L h (lwN rl (em off lz) lt m') →
    News g' L h [(nl, W.listOf (List.toArray lnv) nc), (rl, W.listOf rv.toArray rc), (wl, W.listOf ws.toArray wc), (L + 1 + 1 + 1 + 1 + 1, o5), (L + 1 + 1 + 1 + 1, o4), (L + 1 + 1 + 1, o3), (L + 1 + 1, o2), (L + 1, o1), (281, o0)] →
    wpAny (model PySem.Challenge.rw_kl0506_01.row.prog w) ((kA dp un gd fr).deeper (lawEnv L fa cd)) (execs (lawBody.drop 9) (lawEnv L fa cd)) Q E { s with heap := h, toks := tk }) :
  wpAny (model PySem.Challenge.rw_kl0506_01.row.prog w) ((kA dp un gd fr).deeper (lawEnv L fa cd)) (execs (lawBody.drop 8) (lawEnv L fa cd)) Q E s := by
  have X0 : (Mine.hd.heap_39 w.params).In g := XB.keeps B.stays
  have T0 : Top p loose mean mg mb g := TB.keeps B.stays
  dsimp only [lawEnv, lawScope, lawScopeE] at hQ ⊢
  conv in (lawBody.drop 8) => whnf
  k_steps
  refine stop_in ?_
  rename Fr _ _ _ _ => F1
  rename News _ _ _ _ => N1
  have hnd : (us.map (em off)).Nodup := by
    rw [List.Nodup, List.pairwise_map]
    exact ld.aff.nodup.imp fun hn e => hn (em_inj e)
  obtain ⟨Tk, hwl, r1, r2, r3, r4⟩ := hw.rank hnd
  obtain ⟨binds, ts, tt, b0, b1, b2, b3, b4, b5, b6⟩ := rank_binds1 w wl
  have hul : (us.map (em off)).length = us.length := List.length_map ..
  have hup := List.length_pos_of_mem ld.mem
  have hu16 := ld.len
  refine rank_c w (dp + 1) _ gd (_ :: fr) base _ _ _ (amid_push B F1 D rfl rfl) XB TB (by walk_at "lo") ?hu1 (vs := ws) b0 b1 b2 b3 b4 b5 b6 (by is_list) (by walk_at "lo") (by walk_at "lo") (X := fun i => (us.map (em off)).getD i 0) (Tk := Tk) r1 r2 r3 r4 (by decide) ?_
  case hu1 => show un + 3 + 100 < cLine; walk_at "lo"
  intro D2 res σ h2 tk2 k2 hD2 fr2 hres hσ hsort hrk
  obtain ⟨g', T', F', B', D', nw'⟩ := turn_keeps (name := Str.ofString "law") (scope := lawScope) (a := fa) (cd := cd) (W := []) B D F1 k2 (by simp)
  have N' := News.cons_fresh (nw' _ N1 (by simp)) hD2 (T'.none_ _ (fresh0 F1.keep fr2)) (fresh_ne F1 fr2)
  clear F1 N1 X0 T0 nw' k2
  have X0 : (Mine.hd.heap_39 w.params).In g' := XB.keeps B'.stays
  have T0 : Top p loose mean mg mb g' := TB.keeps B'.stays
  clear B D
  have hwi := hw.ints
  have hln := hli.length
  obtain ⟨hpw, hperm⟩ := dbl_perm ld.aff (List.mem_of_getElem? ld.head) ld.mem ld.min
  obtain ⟨zs, hzs⟩ : ∃ zs, zs = us.map (em off) := ⟨_, rfl⟩
  obtain ⟨Ls, hLs⟩ : ∃ Ls, Ls = (dbl lz (rowsB us u0 6)).map (em off) := ⟨_, rfl⟩
  have hLp : Ls.Perm zs := by rw [hLs, hzs]; exact hperm.map _
  have hLw : Ls.Pairwise (· < ·) := by rw [hLs, List.pairwise_map]; exact hpw.imp fun h => em_lt.mpr h
  rw [← hzs] at hw hwi hul hwl r1 r2 hsort
  rw [← hLs] at hli hln
  have hll : Ls.length = zs.length := hLp.length_eq
  have hl64 : Ls.length < 64 := by walk_at "lo"
  k_steps
  rename Fr _ _ _ _ => F3
  rename News _ _ _ _ => N3
  refine ⟨wl, ws, _, _, rfl, rfl, F3, N3, .inr ⟨_, by k_mem, rfl, _, rfl⟩, by walk_at "lo", fun i ys tk => IntsAre ys ((zs.take i).map fun z => (ix z Ls : Int) + 1), by simpa using IntsAre.nil, fun _ _ _ _ _ h => h, ?turn, ?fin⟩
  case turn =>
    intro i ys v I5 C5 D5 oC5 m5 h5 tk5 E5 hv hJ hC hx F5 N5 off5 ne5
    obtain ⟨z, t, rfl, hz⟩ := IntsAre.at hwi i v hv
    have hzL := hLp.mem_iff.mpr (List.mem_of_getElem? hz)
    have hj1 := ix_at hzL
    have hj2 := fun i => ix_first (z := z) (l := Ls) i
    clear F3 N3
    k_steps
    refine ⟨_, _, rfl, F5, N5, ?_⟩
    rw [List.take_add_one, hz, List.map_append]
    exact hJ.append (.cons _ _ .nil)
  case fin =>
    intro D5 h5 tk5 ys hJ F5 N5 hD5
    have hwl2 := hwi.length
    rw [hwl2, List.take_length] at hJ
    clear F3 N3
    k_steps
    refine stop_in ?_
    rename News _ _ _ _ => N7
    have hyl := hJ.length
    rw [List.length_map] at hyl
    refine ne_fi_list (xs := res) (ys := ys) (by is_list) (by is_list) ?hu3 (by walk_at "lo") ?he ?_
    case hu3 => show un + 3 < cLine; walk_at "lo"
    case he =>
      intro i hi
      rw [hwl] at hσ
      obtain ⟨j, j1, j2, j3⟩ := rank_up hσ (by simpa using hsort) hLp hLw (i := i) (by walk_at "lo")
      obtain ⟨ft, e⟩ := hrk j (by walk_at "lo")
      rw [j2] at e
      obtain ⟨n, u, e2, hn⟩ := IntsAre.at hJ i ys[i] (List.getElem?_eq_getElem (by walk_at "lo"))
      refine ⟨_, ft, n, u, e, by rw [← e2]; exact List.getElem?_eq_getElem (by walk_at "lo"), rk_cmp (by walk_at "lo") ?_⟩
      rw [List.getElem?_map, List.getElem?_eq_getElem (show i < zs.length by walk_at "lo")] at hn
      have hgi : zs.getD i 0 = zs[i] := by simp [List.getD, show i < zs.length by walk_at "lo"]
      rw [hgi] at j3
      simp only [Option.map_some, Option.some.injEq, j3] at hn
      walk_at "lo"
    k_steps
    refine stop_in ?_
    rename Fr _ _ _ _ => F9
    rename News _ _ _ _ => N9
    exact hQ g' _ _ _ T' B' D' F9 (le_pick N9)
end SLwE
section SLwF
open PySem PySem.W PyProof.Rows PySem.Calls PySem.Spec
local macro_rules | `(tactic| walk_at "no line") => `(tactic| fail "no line")
theorem fresh_LwF : True := by
  w_top off
  trivial
local macro_rules | `(tactic| walk_at "call ref") => `(tactic| walk_at "m:0")
local macro_rules | `(tactic| walk_at "execs cons") => `(tactic| (k_here; (with_reducible refine stop_asgC ?_)))
theorem lf_pick {g h : Heap} {L : Addr} {a b nl rl wl c5 c4 c3 c2 c1 t : Addr × Obj} (N : News g L h [a, b, nl, rl, wl, c5, c4, c3, c2, c1, t]) : News g L h [nl, rl, wl, c5, c4, c3, c2, c1, t] := fun q hq => N q (.tail _ (.tail _ hq))
local macro_rules | `(tactic| walk_at "eval ListComp") => `(tactic| walk_at "m:5")
local macro_rules | `(tactic| walk_at "call builtin:list.index") => `(tactic| walk_at "m:10")
local macro_rules | `(tactic| walk_at "compareOp NotEq ref ref") => `(tactic| walk_at "m:0")
set_option maxRecDepth 100000 in
set_option maxHeartbeats 4000000 in
theorem law_f (w : World) {p : Program} {loose : List Str} {mean : ExcName → Option Value} {mg mb : Str → Option Value}
  (dp un : Nat) (gd : Option (List Code)) (fr : List Env) (base : Heap) (s : Shared) (E : Value → Shared → Prop) (Q : Flow → Shared → Prop)
  (XB : (Mine.hd.heap_39 w.params).In base) (TB : Top p loose mean mg mb base) (hd : dp + 12 < recursionLimit) (hu : un + 120 < cLine)
  {L fa rl wl nl : Addr} {cd : Value} {g : Heap} {m : Str → Option Value} {us : List Nat} {off u0 lz : Nat} {ws rv lnv : List Value} {wc rc nc n : Nat} {lt : Tok} {o1 o2 o3 o4 o5 o0 : Obj}
  (B : Below (kA dp un gd fr) base fr g) (D : KtsDicts (fr.filterMap (·.frame)) g) (ld : LD us off u0 lz) (hw : WTok ws (us.map (em off)) n) (hli : IntsAre lnv ((dbl lz (rowsB us u0 6)).map (em off)))
  (F : Fr g L s.heap (lwN rl (em off lz) lt m)) (h1 : o1.data = .cell (some (.ref wl))) (h3 : o3.data = .cell (some (.ref nl)))
  (N : News g L s.heap [(nl, W.listOf lnv.toArray nc), (rl, W.listOf rv.toArray rc), (wl, W.listOf ws.toArray wc), (L + 1 + 1 + 1 + 1 + 1, o5), (L + 1 + 1 + 1 + 1, o4), (L + 1 + 1 + 1, o3), (L + 1 + 1, o2), (L + 1, o1), (281, o0)])
  (hQ : ∀ g' h tk m', KtsTurn (fr.filterMap (·.frame)) g g' → Below (kA dp un gd fr) base fr g' → KtsDicts (fr.filterMap (·.frame)) g' → Fr g' L h (lwN rl (em off lz) lt m') →
    News g' L h [(nl, W.listOf (List.toArray lnv) nc), (rl, W.listOf rv.toArray rc), (wl, W.listOf ws.toArray wc), (L + 1 + 1 + 1 + 1 + 1, o5), (L + 1 + 1 + 1 + 1, o4), (L + 1 + 1 + 1, o3), (L + 1 + 1, o2), (L + 1, o1), (281, o0)] →
    wpAny (model PySem.Challenge.rw_kl0506_01.row.prog w) ((kA dp un gd fr).deeper (lawEnv L fa cd)) (execs (lawBody.drop 10) (lawEnv L fa cd)) Q E { s with heap := h, toks := tk }) :
  wpAny (model PySem.Challenge.rw_kl0506_01.row.prog w) ((kA dp un gd fr).deeper (lawEnv L fa cd)) (execs (lawBody.drop 9) (lawEnv L fa cd)) Q E s := by
  have X0 : (Mine.hd.heap_39 w.params).In g := XB.keeps B.stays
  have T0 : Top p loose mean mg mb g := TB.keeps B.stays
  dsimp only [lawEnv, lawScope, lawScopeE] at hQ ⊢
  conv in (lawBody.drop 9) => whnf
  k_steps
  refine stop_in ?_
  show wpAny _ _ (call (.ref 278) [.ref wl] [(Str.ofString "reverse", .bool true), (Str.ofString "start", .int 0 s.toks)]) _ _ _
  rename Fr _ _ _ _ => F1
  rename News _ _ _ _ => N1
  have hnd : (us.map (em off)).Nodup := by
    rw [List.Nodup, List.pairwise_map]
    exact ld.aff.nodup.imp fun hn e => hn (em_inj e)
  obtain ⟨Tk, hwl, r1, r2, r3, r4⟩ := hw.rank hnd
  obtain ⟨binds, ts, tt, b0, b1, b2, b3, b4, b5, b6⟩ := rank_binds2 w wl s.toks
  have hul : (us.map (em off)).length = us.length := List.length_map ..
  have hup := List.length_pos_of_mem ld.mem
  have hu16 := ld.len
  refine rank_c w (dp + 1) _ gd (_ :: fr) base _ _ _ ?hH XB TB (by walk_at "lo") ?hu1 (args := ⟨[.ref wl], [(Str.ofString "reverse", .bool true), (Str.ofString "start", .int 0 s.toks)]⟩) (vs := ws) b0 b1 b2 b3 b4 b5 b6 (by is_list) (by walk_at "lo") (by walk_at "lo") (X := fun i => (us.map (em off)).getD i 0) (Tk := Tk) r1 r2 r3 r4 (by decide) ?_
  case hH => exact (amid_push B F1 D rfl rfl)
  case hu1 => show un + 3 + 100 < cLine; walk_at "lo"
  intro D2 res σ h2 tk2 k2 hD2 fr2 hres hσ hsort hrk
  obtain ⟨g', T', F', B', D', nw'⟩ := turn_keeps (name := Str.ofString "law") (scope := lawScope) (a := fa) (cd := cd) (W := []) B D F1 k2 (by simp)
  have N' := News.cons_fresh (nw' _ N1 (by simp)) hD2 (T'.none_ _ (fresh0 F1.keep fr2)) (fresh_ne F1 fr2)
  clear F1 N1 X0 T0 nw' k2
  have X0 : (Mine.hd.heap_39 w.params).In g' := XB.keeps B'.stays
  have T0 : Top p loose mean mg mb g' := TB.keeps B'.stays
  clear B D
  have hwi := hw.ints
  have hln := hli.length
  obtain ⟨hpw, hperm⟩ := dbl_perm ld.aff (List.mem_of_getElem? ld.head) ld.mem ld.min
  obtain ⟨zs, hzs⟩ : ∃ zs, zs = us.map (em off) := ⟨_, rfl⟩
  obtain ⟨Ls, hLs⟩ : ∃ Ls, Ls = (dbl lz (rowsB us u0 6)).map (em off) := ⟨_, rfl⟩
  have hLp : Ls.Perm zs := by rw [hLs, hzs]; exact hperm.map _
  have hLw : Ls.Pairwise (· < ·) := by rw [hLs, List.pairwise_map]; exact hpw.imp fun h => em_lt.mpr h
  rw [← hzs] at hw hwi hul hwl r1 r2 hsort
  rw [← hLs] at hli hln
  have hll : Ls.length = zs.length := hLp.length_eq
  have hl64 : Ls.length < 64 := by walk_at "lo"
  k_steps
  rename Fr _ _ _ _ => F3
  rename News _ _ _ _ => N3
  refine ⟨wl, ws, _, _, rfl, rfl, F3, N3, .inr ⟨_, by k_mem, rfl, _, rfl⟩, by walk_at "lo", fun i ys tk => IntsAre ys ((zs.take i).map fun z => (zs.length : Int) - 1 - (ix z Ls : Int)), by simpa using IntsAre.nil, fun _ _ _ _ _ h => h, ?turn, ?fin⟩
  case turn =>
    intro i ys v I5 C5 D5 oC5 m5 h5 tk5 E5 hv hJ hC hx F5 N5 off5 ne5
    obtain ⟨z, t, rfl, hz⟩ := IntsAre.at hwi i v hv
    have hzL := hLp.mem_iff.mpr (List.mem_of_getElem? hz)
    have hj1 := ix_at hzL
    have hj2 := fun i => ix_first (z := z) (l := Ls) i
    clear F3 N3
    k_steps
    refine ⟨_, _, rfl, F5, N5, ?_⟩
    rw [List.take_add_one, hz, List.map_append]
    exact hJ.append (.cons _ _ .nil)
  case fin =>
    intro D5 h5 tk5 ys hJ F5 N5 hD5
    have hwl2 := hwi.length
    rw [hwl2, List.take_length] at hJ
    clear F3 N3
    k_steps
    refine stop_in ?_
    rename News _ _ _ _ => N7
    have hyl := hJ.length
    rw [List.length_map] at hyl
    refine ne_fi_list (xs := res) (ys := ys) (by is_list) (by is_list) ?hu3 (by walk_at "lo") ?he ?_
    case hu3 => show un + 3 < cLine; walk_at "lo"
    case he =>
      intro i hi
      rw [hwl] at hσ
      obtain ⟨j, j1, j2, j3⟩ := rank_down hσ (by simpa using hsort) hLp hLw (i := i) (by walk_at "lo")
      obtain ⟨ft, e⟩ := hrk j (by walk_at "lo")
      rw [j2] at e
      obtain ⟨n, u, e2, hn⟩ := IntsAre.at hJ i ys[i] (List.getElem?_eq_getElem (by walk_at "lo"))
      refine ⟨_, ft, n, u, e, by rw [← e2]; exact List.getElem?_eq_getElem (by walk_at "lo"), rk_cmp (by walk_at "lo") ?_⟩
      rw [List.getElem?_map, List.getElem?_eq_getElem (show i < zs.length by walk_at "lo")] at hn
      have hgi : zs.getD i 0 = zs[i] := by simp [List.getD, show i < zs.length by walk_at "lo"]
      rw [hgi] at j3
      simp only [Option.map_some, Option.some.injEq, j3] at hn
      walk_at "lo"
    k_steps
    refine stop_in ?_
    rename Fr _ _ _ _ => F9
    rename News _ _ _ _ => N9
    exact hQ g' _ _ _ T' B' D' F9 (lf_pick N9)
end SLwF
section SLwG
open PySem PySem.W PyProof.Rows PySem.Calls PySem.Spec
theorem fresh_LwG : True := by
  w_top off
  trivial
local macro_rules | `(tactic| walk_at "call ref") => `(tactic| walk_at "m:0")
local macro_rules | `(tactic| walk_at "exec For") => `(tactic| walk_at "m:7")
local macro_rules | `(tactic| walk_at "exec For Name Name cons nil") => `(tactic| walk_at "m:7")
local macro_rules | `(tactic| walk_at "execs cons") => `(tactic| walk_at "m:9")
theorem or_fold : ∀ (rs : List Nat) (a : Nat), a < 64 → (∀ r ∈ rs, r < 64) → (rs.map fun v : Nat => (v : Int)).foldl Builtin.bitOr (a : Nat) = ((a ||| orl rs : Nat) : Int)
  | [], a, _, _ => by simp [orl]
  | r :: rs, a, ha, h => by
    rw [List.map_cons, List.foldl_cons, bo_nn a ha r (h r (.head _)), or_fold rs _ (Nat.or_lt_two_pow (n := 6) ha (h r (.head _))) fun r hr => h r (.tail _ hr), orl, Nat.or_assoc]
set_option maxRecDepth 100000 in
set_option maxHeartbeats 4000000 in
theorem law_g (w : World) {p : Program} {loose : List Str} {mean : ExcName → Option Value} {mg mb : Str → Option Value}
  (dp un : Nat) (gd : Option (List Code)) (fr : List Env) (base : Heap) (s : Shared) (E : Value → Shared → Prop) (Q : Flow → Shared → Prop)
  (XB : (Mine.hd.heap_39 w.params).In base) (TB : Top p loose mean mg mb base)
  {L fa rl wl : Addr} {cd : Value} {g : Heap} {m : Str → Option Value} {us : List Nat} {off u0 lz : Nat} {ws rv : List Value} {wc rc : Nat} {lt : Tok} {o1 o2 o3 o4 o5 o0 : Obj} {v4 v5 : Option Value}
  (B : Below (kA dp un gd fr) base fr g) (ld : LD us off u0 lz) (hr : IntsAre rv ((rowsB us u0 6).map fun v : Nat => (v : Int)))
  (F : Fr g L s.heap (lwN rl (em off lz) lt m)) (h4 : o4.data = .cell v4) (h5 : o5.data = .cell v5)
  (N : News g L s.heap [(rl, W.listOf rv.toArray rc), (wl, W.listOf ws.toArray wc), (L + 1 + 1 + 1 + 1 + 1, o5), (L + 1 + 1 + 1 + 1, o4), (L + 1 + 1 + 1, o3), (L + 1 + 1, o2), (L + 1, o1), (281, o0)]) (ap : LApart L rl wl)
  (hE : PassesOwn (model PySem.Challenge.rw_kl0506_01.row.prog w) ((kA dp un gd fr).deeper (lawEnv L fa cd)) (lawEnv L fa cd) E)
  (hQ : ∀ h tk m' o4' o5' t5, Fr g L h (lwN rl (em off lz) lt m') →
    News g L h [(rl, W.listOf rv.toArray rc), (wl, W.listOf ws.toArray wc), (L + 1 + 1 + 1 + 1 + 1, o5'), (L + 1 + 1 + 1 + 1, o4'), (L + 1 + 1 + 1, o3), (L + 1 + 1, o2), (L + 1, o1), (281, o0)] → o5'.data = .cell (some (.int (orl (rowsB us u0 6) : Nat) t5)) →
    wpAny (model PySem.Challenge.rw_kl0506_01.row.prog w) ((kA dp un gd fr).deeper (lawEnv L fa cd)) (execs (lawBody.drop 12) (lawEnv L fa cd)) Q E { s with heap := h, toks := tk }) :
  wpAny (model PySem.Challenge.rw_kl0506_01.row.prog w) ((kA dp un gd fr).deeper (lawEnv L fa cd)) (execs (lawBody.drop 10) (lawEnv L fa cd)) Q E s := by
  have X0 : (Mine.hd.heap_39 w.params).In g := XB.keeps B.stays
  have T0 : Top p loose mean mg mb g := TB.keeps B.stays
  dsimp only [lawEnv, lawScope, lawScopeE] at hE hQ ⊢
  conv in (lawBody.drop 10) => whnf
  obtain ⟨rI, hrI⟩ : ∃ rI, rI = (rowsB us u0 6).map fun v : Nat => (v : Int) := ⟨_, rfl⟩
  rw [← hrI] at hr
  have hrl : rI.length = (rowsB us u0 6).length := by rw [hrI, List.length_map]
  have hn6 : rI.length < 64 := by have := rows_len (us := us) (u0 := u0) 6; walk_at "lo"
  have hr64 : ∀ r ∈ rowsB us u0 6, r < 64 := rows_lt 6
  delta LApart at ap
  have hrv := hr.length
  k_steps
  rename Fr _ _ _ _ => F1
  rename News _ _ _ _ => N1
  refine li_pyiter F1 N1 (by is_list) ?_
  intro I h2 F2 N2 lt2
  refine ⟨I, rI.length + 1, rfl, ?_⟩
  have i1 := Nat.ne_of_gt (lt2 _ (.head _))
  have i2 := Nat.ne_of_gt (lt2 _ (.tail _ (.head _)))
  have i3 := Nat.ne_of_gt (lt2 _ (.tail _ (.tail _ (.head _))))
  have i4 := Nat.ne_of_gt (lt2 _ (.tail _ (.tail _ (.tail _ (.head _)))))
  have i5 := Nat.ne_of_gt (lt2 _ (.tail _ (.tail _ (.tail _ (.tail _ (.head _))))))
  have i6 := Nat.ne_of_gt (lt2 _ (.tail _ (.tail _ (.tail _ (.tail _ (.tail _ (.head _)))))))
  have i7 := Nat.ne_of_gt (lt2 _ (.tail _ (.tail _ (.tail _ (.tail _ (.tail _ (.tail _ (.head _))))))))
  have i8 := Nat.ne_of_gt (lt2 _ (.tail _ (.tail _ (.tail _ (.tail _ (.tail _ (.tail _ (.tail _ (.head _)))))))))
  dsimp only at i1 i2 i3 i4 i5 i6 i7 i8
  obtain ⟨J, jE, jN⟩ : ∃ J : Nat → Shared → Prop, (∀ k s' (C : Shared → Prop), J k s' → (∀ h tk m o4' o5' v4' t5, Fr g L h (lwN rl (em off lz) lt m) → News g L h [(I, liObj rl k), (rl, W.listOf rv.toArray rc), (wl, W.listOf ws.toArray wc), (L + 1 + 1 + 1 + 1 + 1, o5'), (L + 1 + 1 + 1 + 1, o4'), (L + 1 + 1 + 1, o3), (L + 1 + 1, o2), (L + 1, o1), (281, o0)] → o4'.data = .cell v4' → o5'.data = .cell (some (.int ((rI.take k).foldl Builtin.bitOr 0) t5)) → C { s with heap := h, toks := tk }) → C s') ∧ (∀ (k : Nat) h tk m o4' o5' v4' t5, Fr g L h (lwN rl (em off lz) lt m) → News g L h [(I, liObj rl k), (rl, W.listOf rv.toArray rc), (wl, W.listOf ws.toArray wc), (L + 1 + 1 + 1 + 1 + 1, o5'), (L + 1 + 1 + 1 + 1, o4'), (L + 1 + 1 + 1, o3), (L + 1 + 1, o2), (L + 1, o1), (281, o0)] → o4'.data = .cell v4' → o5'.data = .cell (some (.int ((rI.take k).foldl Builtin.bitOr 0) t5)) → J k { s with heap := h, toks := tk }) :=
    ⟨fun k s' => ∀ C : Shared → Prop, (∀ h tk m o4' o5' v4' t5, Fr g L h (lwN rl (em off lz) lt m) → News g L h [(I, liObj rl k), (rl, W.listOf rv.toArray rc), (wl, W.listOf ws.toArray wc), (L + 1 + 1 + 1 + 1 + 1, o5'), (L + 1 + 1 + 1 + 1, o4'), (L + 1 + 1 + 1, o3), (L + 1 + 1, o2), (L + 1, o1), (281, o0)] → o4'.data = .cell v4' → o5'.data = .cell (some (.int ((rI.take k).foldl Builtin.bitOr 0) t5)) → C { s with heap := h, toks := tk }) → C s', fun _ _ C j f => j C f, fun _ _ _ _ _ _ _ _ x0 x1 x2 x3 _ f => f _ _ _ _ _ _ _ x0 x1 x2 x3⟩
  refine trest_ind J rI.length ?turn ?fin rI.length 0 _ (by walk_at "lo") ?init
  case init =>
    exact jN 0 _ _ m o4 _ v4 _ F2 N2 h4 (by assumption)
  case fin =>
    intro s' hs
    refine jE _ s' _ hs ?_
    intro h tk m' o4' o5' v4' t5 F3 N3 h4c h5c
    refine li_pyend (s := { s with heap := h, toks := tk }) (items := rv.toArray) F3 N3 (ne8 i1 i2 i3 i4 i5 i6 i7 i8) ⟨_, (N3 (rl, _) (by k_mem)).1, rfl, _, rfl⟩ (by simp; walk_at "lo") rfl fun h4 F4 N4 => ⟨rfl, ?_⟩
    rw [List.take_length, hrI, show (0 : Int) = ((0 : Nat) : Int) from rfl, or_fold _ 0 (by decide) hr64, Nat.zero_or] at h5c
    clear F3 N3 F1 N1 F2 N2
    k_steps
    refine stop_in ?_
    exact hQ _ _ _ _ _ _ F4 N4 h5c
  case turn =>
    intro i s' hi hs
    refine jE _ s' _ hs ?_
    intro h tk m' o4' o5' v4' t5 F3 N3 h4c h5c
    have hiv : i < rv.length := by walk_at "lo"
    obtain ⟨z, tz, ez, hz⟩ := IntsAre.at hr i rv[i] (List.getElem?_eq_getElem hiv)
    refine li_pynext (s := { s with heap := h, toks := tk }) (items := rv.toArray) F3 N3 (UpdF.head (ne8 i1 i2 i3 i4 i5 i6 i7 i8)) ⟨_, (N3 (rl, _) (by k_mem)).1, rfl, _, rfl⟩ (x := .int z tz) (by rw [← ez]; simp [hiv]) fun h4 F4 N4 => ⟨_, rfl, ?_⟩
    clear F3 N3 F1 N1 F2 N2
    have etk : (rI.take (i + 1)).foldl Builtin.bitOr 0 = Builtin.bitOr ((rI.take i).foldl Builtin.bitOr 0) z := by
      rw [List.take_add_one, hz, List.foldl_append]; rfl
    refine wpAny_pure ?_
    k_steps
    rename Fr _ _ _ _ => Fx
    rename News _ _ _ _ => Nx
    exact ⟨rfl, jN (i + 1) _ _ _ _ _ _ _ Fx Nx (by assumption) (by rw [etk]; assumption)⟩
end SLwG
section SLwH
open PySem PySem.W PyProof.Rows PySem.Calls PySem.Spec
theorem fresh_LwH : True := by
  w_top off
  trivial
local macro_rules | `(tactic| walk_at "call ref") => `(tactic| walk_at "m:0")
local macro_rules | `(tactic| walk_at "execs cons") => `(tactic| (k_here; (with_reducible refine stop_asg ?_)))
theorem hsum_lt : ∀ l < 64, ∀ m < 64, hsum l m ≤ 126 := by decide +kernel
theorem hs_off {off l m : Nat} (ho : OffW off) (hl : l < 64) (hm : m < 64) : 2 * Builtin.bitAnd (em off l) (Builtin.bitNot (m : Nat)) + (m : Nat) = (hsum l m : Nat) - 2 * (off : Int) := by
  rcases ho with rfl | rfl
  · exact hs_off0 l hl m hm
  · exact hs_off64 l hl m hm
theorem orl_perm_sum {us : List Nat} {l : Nat} {rows : List Nat} (hp : (dbl l rows).Perm us) (hl : l < 64) (hr : ∀ r ∈ rows, r < 64) : 2 * us.sum = us.length * hsum l (orl rows) := by
  rw [← hp.sum_nat, ← hp.length_eq, dbl_len]
  exact sum_dbl hl hr
theorem fm_hv {us : List Nat} {off l : Nat} {rows : List Nat} {x y : UInt64} (ho : OffW off) (hp : (dbl l rows).Perm us) (hl : l < 64) (hr : ∀ r ∈ rows, r < 64) (hpos : 0 < us.length) (hlen : us.length ≤ 16)
    (hx : HV x (2 * (us.map (em off)).sum)) (hy : y = Float64.div x (Float64.ofInt ((us.map (em off)).length : Nat))) : HV y ((hsum l (orl rows) : Nat) - 2 * (off : Int)) := by
  subst hy
  have hm : orl rows < 64 := orl_lt (n := 6) rows hr
  have h1 := orl_perm_sum hp hl hr
  have h2 := hsum_lt l hl _ hm
  have h3 : off = 0 ∨ off = 64 := ho
  rw [List.length_map]
  refine hv_div hx (hv_ofInt (i := (us.length : Nat)) (by walk_at "lo")) (by walk_at "lo") ?_ (by walk_at "lo")
  rw [sum_em]
  have h4 : (2 * us.sum : Int) = (us.length : Int) * (hsum l (orl rows) : Int) := by exact_mod_cast h1
  rw [show (2 : Int) * (2 * ((us.sum : Int) - (off : Int) * (us.length : Int))) = 2 * ((2 * us.sum : Int) - 2 * ((off : Int) * (us.length : Int))) by walk_at "lo", h4]
  rw [Int.sub_mul, Int.mul_sub, Int.mul_comm (us.length : Int)]
  rw [show (hsum l (orl rows) : Int) * (2 * (us.length : Int)) = 2 * ((hsum l (orl rows) : Int) * (us.length : Int)) by rw [Int.mul_left_comm]]
  rw [show (2 : Int) * (off : Int) * (2 * (us.length : Int)) = 2 * (2 * ((off : Int) * (us.length : Int))) by rw [Int.mul_assoc, Int.mul_left_comm (off : Int)]]
set_option maxRecDepth 100000 in
set_option maxHeartbeats 4000000 in
theorem law_h (w : World) {p : Program} {loose : List Str} {mean : ExcName → Option Value} {mg mb : Str → Option Value}
  (dp un : Nat) (gd : Option (List Code)) (fr : List Env) (base : Heap) (s : Shared) (E : Value → Shared → Prop) (Q : Flow → Shared → Prop)
  (XB : (Mine.hd.heap_39 w.params).In base) (TB : Top p loose mean mg mb base) (hd : dp + 12 < recursionLimit) (hu : un + 120 < cLine)
  {L fa rl wl : Addr} {cd : Value} {g : Heap} {m : Str → Option Value} {us : List Nat} {off u0 lz : Nat} {ws rv : List Value} {wc rc n : Nat} {lt t5 : Tok} {o1 o2 o3 o4 o5 o0 : Obj}
  (B : Below (kA dp un gd fr) base fr g) (D : KtsDicts (fr.filterMap (·.frame)) g) (ld : LD us off u0 lz) (hw : WTok ws (us.map (em off)) n)
  (F : Fr g L s.heap (lwN rl (em off lz) lt m)) (h1 : o1.data = .cell (some (.ref wl))) (h5 : o5.data = .cell (some (.int (orl (rowsB us u0 6) : Nat) t5)))
  (N : News g L s.heap [(rl, W.listOf rv.toArray rc), (wl, W.listOf ws.toArray wc), (L + 1 + 1 + 1 + 1 + 1, o5), (L + 1 + 1 + 1 + 1, o4), (L + 1 + 1 + 1, o3), (L + 1 + 1, o2), (L + 1, o1), (281, o0)])
  (hQ : ∀ h tk m', Fr g L h (lwN rl (em off lz) lt m') →
    News g L h [(rl, W.listOf rv.toArray rc), (wl, W.listOf ws.toArray wc), (L + 1 + 1 + 1 + 1 + 1, o5), (L + 1 + 1 + 1 + 1, o4), (L + 1 + 1 + 1, o3), (L + 1 + 1, o2), (L + 1, o1), (281, o0)] →
    wpAny (model PySem.Challenge.rw_kl0506_01.row.prog w) ((kA dp un gd fr).deeper (lawEnv L fa cd)) (execs (lawBody.drop 13) (lawEnv L fa cd)) Q E { s with heap := h, toks := tk }) :
  wpAny (model PySem.Challenge.rw_kl0506_01.row.prog w) ((kA dp un gd fr).deeper (lawEnv L fa cd)) (execs (lawBody.drop 12) (lawEnv L fa cd)) Q E s := by
  have X0 : (Mine.hd.heap_39 w.params).In g := XB.keeps B.stays
  have T0 : Top p loose mean mg mb g := TB.keeps B.stays
  dsimp only [lawEnv, lawScope, lawScopeE] at hQ ⊢
  conv in (lawBody.drop 12) => whnf
  have hwi := hw.ints
  have hup := List.length_pos_of_mem ld.mem
  have hu16 := ld.len
  have hul : (us.map (em off)).length = us.length := List.length_map ..
  k_steps
  refine stop_in ?_
  rename Fr _ _ _ _ => F1
  rename News _ _ _ _ => N1
  refine fmean_c w (dp + 1) _ gd (_ :: fr) base _ _ _ ?hH XB TB (by walk_at "lo") ?hu1 (by is_list) hwi (by walk_at "lo") (by walk_at "lo") ?hb ?_
  case hH => exact amid_push B F1 D rfl rfl
  case hu1 => show un + 3 + 8 < cLine; walk_at "lo"
  case hb =>
    intro z hz
    obtain ⟨u, hu, rfl⟩ := List.mem_map.mp hz
    have := ld.aff.lt u hu
    have := ld.off
    unfold em
    rcases this with h | h <;> subst h <;> walk_at "lo"
  intro x y ft h2 tk2 k2 hx hy
  have N2 := News.ofKeeps N1 k2 (by simp)
  have F2 := Fr.ofKeeps F1 k2 (by simp) (by simp)
  clear N1 F1
  have hrow : ∀ r ∈ rowsB us u0 6, r < 64 := rows_lt 6
  have hl64 := ld.aff.lt _ ld.mem
  have hM := orl_lt (n := 6) _ hrow
  have hyq := fm_hv ld.off (dbl_perm ld.aff (List.mem_of_getElem? ld.head) ld.mem ld.min).2 hl64 hrow hup hu16 hx hy
  have hsA := hs_off ld.off hl64 hM
  have hsM := hsum_lt _ hl64 _ hM
  have hfM : HV (Float64.ofFrac (decide (((orl (rowsB us u0 6) : Nat) : Int) < 0) != decide ((2 : Int) < 0)) (((orl (rowsB us u0 6) : Nat) : Int)).natAbs (Int.natAbs 2)) (orl (rowsB us u0 6) : Nat) := by
    rw [show (decide (((orl (rowsB us u0 6) : Nat) : Int) < 0) != decide ((2 : Int) < 0)) = false by rw [decide_eq_false (by walk_at "lo")]; rfl, Int.natAbs_natCast]
    exact hv_half (by walk_at "lo")
  have hA : (Builtin.bitAnd (em off lz) (Builtin.bitNot ((orl (rowsB us u0 6) : Nat) : Int))).natAbs < 1000 := by
    rcases ld.off with h | h <;> walk_at "lo"
  have hbig : 1000 < 2 ^ 1024 - 2 ^ 970 := by decide +kernel
  have hz : HV (Float64.add (Float64.ofInt (Builtin.bitAnd (em off lz) (Builtin.bitNot ((orl (rowsB us u0 6) : Nat) : Int)))) (Float64.ofFrac (decide (((orl (rowsB us u0 6) : Nat) : Int) < 0) != decide ((2 : Int) < 0)) (((orl (rowsB us u0 6) : Nat) : Int)).natAbs (Int.natAbs 2))) ((hsum lz (orl (rowsB us u0 6)) : Nat) - 2 * (off : Int)) := by
    rw [← hsA]
    exact hv_add (hv_ofInt (by walk_at "lo")) hfM (by walk_at "lo")
  have hcmp := hv_cmp hyq hz
  clear hy
  k_steps
  · rename (Float64.cmp _ _ != _) = true => hne
    rw [hcmp] at hne
    have : compare ((hsum lz (orl (rowsB us u0 6)) : Int) - 2 * (off : Int)) ((hsum lz (orl (rowsB us u0 6)) : Int) - 2 * (off : Int)) = Ordering.eq := by rw [compare, instOrdInt]; simp [compareOfLessAndEq]
    rw [this] at hne
    exact absurd hne (by decide)
  · refine stop_in ?_
    rename Fr _ _ _ _ => F9
    rename News _ _ _ _ => N9
    exact hQ _ _ _ F9 N9
end SLwH
section SPL8
open PySem PySem.W PyProof.Rows
theorem filt_le {p q : Nat → Bool} : ∀ l : List Nat, (∀ x ∈ l, p x = true → q x = true) → (l.filter p).length ≤ (l.filter q).length
  | [], _ => Nat.le_refl _
  | a :: l, h => by
    have ih := filt_le l fun x hx => h x (.tail _ hx)
    have ha := h a (.head _)
    rw [List.filter_cons, List.filter_cons]
    cases hp : p a <;> cases hq : q a <;> simp_all <;> walk_at "lo"
theorem filt_eq {p q : Nat → Bool} : ∀ l : List Nat, (∀ x ∈ l, p x = true → q x = true) → (l.filter p).length = (l.filter q).length → ∀ x ∈ l, q x = true → p x = true
  | [], _, _, x, hx, _ => by cases hx
  | a :: l, h, e, x, hx, hqx => by
    have hle := filt_le l fun x hx => h x (.tail _ hx)
    have ha := h a (.head _)
    rw [List.filter_cons, List.filter_cons] at e
    have e2 : (l.filter p).length = (l.filter q).length ∧ (q a = true → p a = true) := by
      cases hp : p a <;> cases hq : q a <;> simp_all <;> walk_at "lo"
    rcases List.mem_cons.mp hx with rfl | hx
    · exact e2.2 hqx
    · exact filt_eq l (fun x hx => h x (.tail _ hx)) e2.1 x hx hqx
theorem orl_bit {s : Nat} : ∀ rs : List Nat, (orl rs).testBit s = true → ∃ r ∈ rs, r.testBit s = true
  | [], h => by simp [orl] at h
  | r :: rs, h => by
    rw [orl, Nat.testBit_or, Bool.or_eq_true] at h
    rcases h with h | h
    · exact ⟨r, .head _, h⟩
    · obtain ⟨r', hr, e⟩ := orl_bit rs h
      exact ⟨r', .tail _ hr, e⟩
theorem bit_less : ∀ r < 64, ∀ s < 6, r.testBit s = true → r ^^^ 2 ^ s < r := by decide +kernel
noncomputable def Sing (r : Nat) : Prop := r ≠ 0 ∧ r = 2 ^ r.log2
theorem sing_pow (t : Nat) : Sing (2 ^ t) := ⟨Nat.ne_of_gt (Nat.two_pow_pos t), by rw [Nat.log2_two_pow]⟩
theorem sing_bit {r s : Nat} (h : Sing r) (hs : r.testBit s = true) : r = 2 ^ s := by
  have e := h.2
  rw [e, Nat.testBit_two_pow, decide_eq_true_eq] at hs
  rw [← hs]; exact e
theorem rows_mem {us : List Nat} {u0 : Nat} : ∀ t, ∀ r ∈ rowsB us u0 t, r ^^^ u0 ∈ us
  | 0, r, h => by cases h
  | t + 1, r, h => by
    rw [rowsB] at h
    split at h
    · rename_i q hq
      rcases List.mem_cons.mp h with rfl | h
      · exact (rowN_some hq).1
      · exact rows_mem t r h
    · exact rows_mem t r h
theorem top_bit {t r : Nat} (h : 2 ^ t ≤ r ∧ r < 2 ^ (t + 1)) : r.testBit t = true := by
  rw [Nat.testBit_eq_decide_div_mod_eq, decide_eq_true_eq]
  have hp := Nat.two_pow_pos t
  have : r / 2 ^ t = 1 := by
    apply Nat.div_eq_of_lt_le
    · walk_at "lo"
    · rw [Nat.pow_succ] at h; walk_at "lo"
  rw [this]
theorem only_top {t r : Nat} (h : 2 ^ t ≤ r ∧ r < 2 ^ (t + 1)) (hs : ∀ s, s < t → r.testBit s = false) : r = 2 ^ t := by
  apply Nat.eq_of_testBit_eq
  intro i
  rw [Nat.testBit_two_pow]
  rcases Nat.lt_trichotomy i t with hi | hi | hi
  · rw [hs i hi, decide_eq_false (by walk_at "lo")]
  · subst hi; rw [top_bit h, decide_eq_true rfl]
  · rw [decide_eq_false (by walk_at "lo")]
    exact Nat.testBit_lt_two_pow (Nat.lt_of_lt_of_le h.2 (Nat.pow_le_pow_right (by decide) (by walk_at "lo")))
/-- the rows are as many as the moved places just if each row is one place -/
theorem sing_rows {us : List Nat} {u0 : Nat} (A : Aff us) (h0 : u0 ∈ us) : ∀ t, t ≤ 6 → (rowsB us u0 t).length ≤ ((List.range t).filter fun s => (orl (rowsB us u0 t)).testBit s).length ∧
    ((rowsB us u0 t).length = ((List.range t).filter fun s => (orl (rowsB us u0 t)).testBit s).length ↔ ∀ r ∈ rowsB us u0 t, Sing r)
  | 0, _ => ⟨Nat.le_refl _, by simp [rowsB]⟩
  | t + 1, ht => by
    obtain ⟨h1, h2⟩ := sing_rows A h0 t (by walk_at "lo")
    have hlt := rows_lt (us := us) (u0 := u0) t
    have hmlt : orl (rowsB us u0 t) < 2 ^ t := orl_lt _ hlt
    rw [rowsB]
    split
    · rename_i r hr
      obtain ⟨r1, r2, r3⟩ := rowN_some hr
      have hr64 : r < 64 := Nat.lt_of_lt_of_le r2.2 (show 2 ^ (t + 1) ≤ 2 ^ 6 from Nat.pow_le_pow_right (by decide) (by walk_at "lo"))
      have hlen : ((List.range (t + 1)).filter fun s => (orl (r :: rowsB us u0 t)).testBit s).length = ((List.range t).filter fun s => (orl (r :: rowsB us u0 t)).testBit s).length + 1 := by
        rw [List.range_succ, List.filter_append, List.length_append]
        have : (orl (r :: rowsB us u0 t)).testBit t = true := by rw [orl, Nat.testBit_or, top_bit r2]; rfl
        simp [this]
      have hsub : ∀ s ∈ List.range t, (orl (rowsB us u0 t)).testBit s = true → (orl (r :: rowsB us u0 t)).testBit s = true := fun s _ h => by rw [orl, Nat.testBit_or, h, Bool.or_true]
      have hle : ((List.range t).filter fun s => (orl (rowsB us u0 t)).testBit s).length ≤ ((List.range t).filter fun s => (orl (r :: rowsB us u0 t)).testBit s).length := filt_le (List.range t) hsub
      rw [hlen, List.length_cons]
      refine ⟨by walk_at "lo", ?_⟩
      constructor
      · intro e
        have e1 : (rowsB us u0 t).length = ((List.range t).filter fun s => (orl (rowsB us u0 t)).testBit s).length := by walk_at "lo"
        have e2 : ((List.range t).filter fun s => (orl (rowsB us u0 t)).testBit s).length = ((List.range t).filter fun s => (orl (r :: rowsB us u0 t)).testBit s).length := by walk_at "lo"
        have hs := h2.mp e1
        have hq := filt_eq (List.range t) hsub e2
        intro x hx
        rcases List.mem_cons.mp hx with rfl | hx
        · rw [only_top r2 ?_]
          · exact sing_pow t
          · intro s hst
            cases hb : x.testBit s with
            | false => rfl
            | true =>
              have hm := hq s (List.mem_range.mpr hst) (by rw [orl, Nat.testBit_or, hb]; rfl)
              obtain ⟨r', hr', hb'⟩ := orl_bit _ hm
              have er := sing_bit (hs r' hr') hb'
              have hv : x ^^^ r' ^^^ u0 ∈ us := by
                have := A.clos _ r1 _ (rows_mem t r' hr') _ h0
                rwa [show x ^^^ u0 ^^^ (r' ^^^ u0) ^^^ u0 = x ^^^ r' ^^^ u0 ^^^ u0 ^^^ u0 by ac_rfl, x_cancel] at this
              have hmin := r3 _ hv (x_hi r2 (hlt r' hr'))
              have := bit_less x hr64 s (by walk_at "lo") hb
              rw [er] at hmin
              walk_at "lo"
        · exact hs x hx
      · intro hs
        have e1 := h2.mpr fun x hx => hs x (.tail _ hx)
        have er := sing_bit (hs r (.head _)) (top_bit r2)
        have e2 : ((List.range t).filter fun s => (orl (r :: rowsB us u0 t)).testBit s) = ((List.range t).filter fun s => (orl (rowsB us u0 t)).testBit s) := by
          refine List.filter_congr fun s hs' => ?_
          have hst := List.mem_range.mp hs'
          rw [orl, Nat.testBit_or, er, Nat.testBit_two_pow, decide_eq_false (by walk_at "lo"), Bool.false_or]
        rw [e2, e1]
    · have e2 : ((List.range (t + 1)).filter fun s => (orl (rowsB us u0 t)).testBit s) = ((List.range t).filter fun s => (orl (rowsB us u0 t)).testBit s) := by
        rw [List.range_succ, List.filter_append]
        simp [Nat.testBit_lt_two_pow hmlt]
      rw [e2]
      exact ⟨h1, h2⟩
end SPL8
section SLwI
open PySem PySem.W PyProof.Rows PySem.Calls PySem.Spec
theorem fresh_LwI : True := by
  w_top off
  trivial
local macro_rules | `(tactic| walk_at "call ref") => `(tactic| walk_at "m:0")
local macro_rules | `(tactic| walk_at "exec Assign cons ListComp") => `(tactic| walk_at "m:8")
local macro_rules | `(tactic| walk_at "eval Call") => `(tactic| (k_here; refine Call_ ?_))
local macro_rules | `(tactic| walk_at "CompSrcT") => `(tactic| walk_at "m:0")
theorem bit_test : ∀ M < 64, ∀ i < 6, (Builtin.bitAnd (((M : Nat) : Int).fdiv (2 ^ (0 + ((i : Nat) : Int)).toNat)) 1 = 1) ↔ M.testBit i = true := by decide +kernel
noncomputable def sgl (x : Int) : Bool := !(x == 0) && (Builtin.bitAnd x (x - 1) == 0)
theorem sing_fin {us : List Nat} {u0 l M : Nat} {rI pI : List Int} (A : Aff us) (h0 : u0 ∈ us) (hp : (dbl l (rowsB us u0 6)).Perm us) (hr : rI = (rowsB us u0 6).map fun v : Nat => (v : Int)) (hM : M = orl (rowsB us u0 6))
    (hpl : pI.length = ((List.range 6).filter fun p => M.testBit p).length) : (decide (rI.filter sgl = rI) == ((us.length : Int) == 2 ^ ((pI.length : Int)).toNat)) = true := by
  subst hr hM
  have hu : us.length = 2 ^ (rowsB us u0 6).length := by rw [← hp.length_eq, dbl_len]
  obtain ⟨h1, h2⟩ := sing_rows A h0 6 (Nat.le_refl _)
  rw [← hpl] at h1 h2
  rw [Int.toNat_natCast, hu]
  have hsg : ∀ r ∈ rowsB us u0 6, sgl ((r : Nat) : Int) = true ↔ Sing r := fun r hr => single_iff r (rows_lt 6 r hr)
  by_cases hs : ∀ r ∈ rowsB us u0 6, Sing r
  · have e1 : ((rowsB us u0 6).map fun v : Nat => (v : Int)).filter sgl = (rowsB us u0 6).map fun v : Nat => (v : Int) := by
      rw [List.filter_eq_self]
      intro x hx
      obtain ⟨r, hr, rfl⟩ := List.mem_map.mp hx
      exact (hsg r hr).mpr (hs r hr)
    rw [decide_eq_true e1, h2.mpr hs]
    simp
  · have e1 : ((rowsB us u0 6).map fun v : Nat => (v : Int)).filter sgl ≠ (rowsB us u0 6).map fun v : Nat => (v : Int) := fun q => hs fun r hr => (hsg r hr).mp (List.filter_eq_self.mp q _ (List.mem_map_of_mem hr))
    have e2 : (rowsB us u0 6).length ≠ pI.length := fun q => hs (h2.mp q)
    have e3 : (((2 ^ (rowsB us u0 6).length : Nat) : Int) == 2 ^ pI.length) = false := by
      rw [beq_eq_false_iff_ne]
      intro q
      have q' : 2 ^ (rowsB us u0 6).length = 2 ^ pI.length := by exact_mod_cast q
      exact e2 ((Nat.pow_right_inj (by decide)).mp q')
    rw [decide_eq_false e1, e3]
    rfl
theorem News.last9 {g h : Heap} {L : Addr} {a b c d e f i j k t : Addr × Obj} (N : News g L h [a, b, c, d, e, f, i, j, k, t]) : News g L h [t] := fun q hq => N q (by
  rw [List.mem_singleton] at hq
  simp [hq])
set_option maxRecDepth 100000 in
set_option maxHeartbeats 4000000 in
theorem law_i (w : World) {p : Program} {loose : List Str} {mean : ExcName → Option Value} {mg mb : Str → Option Value}
  (dp un : Nat) (gd : Option (List Code)) (fr : List Env) (base : Heap) (s : Shared) (E : Value → Shared → Prop) (Q : Flow → Shared → Prop)
  (XB : (Mine.hd.heap_39 w.params).In base) (TB : Top p loose mean mg mb base) (hd : dp + 12 < recursionLimit) (hu : un + 120 < cLine)
  {L fa rl wl : Addr} {cd : Value} {g : Heap} {m : Str → Option Value} {us : List Nat} {off u0 lz : Nat} {ws rv : List Value} {wc rc n : Nat} {lt t5 : Tok} {o1 o2 o3 o4 o5 o0 : Obj}
  (B : Below (kA dp un gd fr) base fr g) (D : KtsDicts (fr.filterMap (·.frame)) g) (ld : LD us off u0 lz) (hw : WTok ws (us.map (em off)) n) (hr : IntsAre rv ((rowsB us u0 6).map fun v : Nat => (v : Int)))
  (F : Fr g L s.heap (lwN rl (em off lz) lt m)) (h1 : o1.data = .cell (some (.ref wl))) (h5 : o5.data = .cell (some (.int (orl (rowsB us u0 6) : Nat) t5)))
  (N : News g L s.heap [(rl, W.listOf rv.toArray rc), (wl, W.listOf ws.toArray wc), (L + 1 + 1 + 1 + 1 + 1, o5), (L + 1 + 1 + 1 + 1, o4), (L + 1 + 1 + 1, o3), (L + 1 + 1, o2), (L + 1, o1), (281, o0)])
  (hQ : ∀ h tk m', Fr g L h m' → News g L h [(281, o0)] → Q (.ret (.bool true)) { s with heap := h, toks := tk }) :
  wpAny (model PySem.Challenge.rw_kl0506_01.row.prog w) ((kA dp un gd fr).deeper (lawEnv L fa cd)) (execs (lawBody.drop 13) (lawEnv L fa cd)) Q E s := by
  have X0 : (Mine.hd.heap_39 w.params).In g := XB.keeps B.stays
  have T0 : Top p loose mean mg mb g := TB.keeps B.stays
  dsimp only [lawEnv, lawScope, lawScopeE]
  conv in (lawBody.drop 13) => whnf
  have hwi := hw.ints
  have hup := List.length_pos_of_mem ld.mem
  have hu16 := ld.len
  have hul : (us.map (em off)).length = us.length := List.length_map ..
  obtain ⟨rI, hrI⟩ : ∃ rI, rI = (rowsB us u0 6).map fun v : Nat => (v : Int) := ⟨_, rfl⟩
  rw [← hrI] at hr
  have hrl : rI.length = (rowsB us u0 6).length := by rw [hrI, List.length_map]
  have hn6 : rI.length ≤ 6 := by have := rows_len (us := us) (u0 := u0) 6; walk_at "lo"
  have hr64 : ∀ r ∈ rowsB us u0 6, r < 64 := rows_lt 6
  have hrv := hr.length
  obtain ⟨M, hM⟩ : ∃ M, M = orl (rowsB us u0 6) := ⟨_, rfl⟩
  rw [← hM] at h5
  have hM64 : M < 64 := by rw [hM]; exact orl_lt (n := 6) _ hr64
  k_steps
  refine stop_in ?_
  rename IsRange _ _ _ _ _ _ _ _ => R1
  rename Fr _ _ _ _ => F1
  rename News _ _ _ _ => N1
  refine LCt.CompSrcT.range (n := 6) rfl F1 N1 R1 (by decide) (by decide) (by rw [sizeLine_eq]; walk_at "lo") fun g' => ?_
  refine lct_turns (n := 6) (fun i ys => IntsAre ys (((List.range i).filter fun p => M.testBit p).map fun v : Nat => (v : Int))) trivial ?turn ?fin 6 0 [] (by walk_at "lo") (by simpa using IntsAre.nil)
  case turn =>
    intro i ys v I5 oI5 C5 oC5 D5 m5 h5 tk5 E5 hlt hv hJ hC hx F5 N5 off5 ne5
    obtain ⟨t, rfl⟩ := hv
    clear F1 N1
    have etk : (((List.range (i + 1)).filter fun p => M.testBit p).map fun v : Nat => (v : Int)) = (((List.range i).filter fun p => M.testBit p).map fun v : Nat => (v : Int)) ++ if M.testBit i = true then [(i : Int)] else [] := by
      rw [List.range_succ, List.filter_append, List.map_append]
      congr 1
      cases hq : M.testBit i <;> simp [hq]
    have hbit := bit_test M hM64 i hlt
    k_steps
    · rename Builtin.bitAnd _ 1 = 1 => hb
      rw [if_pos (hbit.mp hb)] at etk
      exact ⟨_, _, rfl, F5, N5, by rw [etk, Int.zero_add]; exact hJ.append (.cons _ _ .nil)⟩
    · rename Builtin.bitAnd _ 1 ≠ 1 => hb
      rw [if_neg fun q => hb (hbit.mpr q), List.append_nil] at etk
      exact ⟨_, _, rfl, F5, N5, by rw [etk]; exact hJ⟩
  case fin =>
    intro ys hJ D5 h tk F5 N5 offD
    simp only [LCg.Off1, and_true] at offD
    clear F1 N1
    obtain ⟨pI, hpI⟩ : ∃ pI, pI = ((List.range 6).filter fun p => M.testBit p).map fun v : Nat => (v : Int) := ⟨_, rfl⟩
    rw [← hpI] at hJ
    have hpl : pI.length = ((List.range 6).filter fun p => M.testBit p).length := by rw [hpI, List.length_map]
    have hp6 : pI.length ≤ 6 := by
      have := List.length_filter_le (fun p => M.testBit p) (List.range 6)
      rw [List.length_range] at this
      walk_at "lo"
    k_steps
    refine stop_in ?_
    rename Fr _ _ _ _ => F6
    rename News _ _ _ _ => N6
    refine LCt.CompSrcT.ledger (its := rv.toArray) (k := rc) rfl F6 N6 (by k_mem) (by rw [sizeLine_eq, List.size_toArray]; walk_at "lo") fun g' => ?_
    refine lct_turns (n := rv.toArray.size) (fun i ys => IntsAre ys ((rI.take i).filter sgl)) (.inr ⟨_, by k_mem, rfl, _, rfl⟩) ?turn2 ?fin2 _ 0 [] (by walk_at "lo") (by simpa using IntsAre.nil)
    case turn2 =>
      intro i2 ys2 v I5 oI5 C5 oC5 D6 m5 h5 tk5 E5 hlt hv hJ2 hC hx F7 N7 off5 ne5
      obtain ⟨z, tz, rfl, hz⟩ := IntsAre.at hr i2 v (by simpa using hv)
      clear F6 N6
      have i2l : i2 < rI.length := (List.getElem?_eq_some_iff.mp hz).1
      have etk : (rI.take (i2 + 1)).filter sgl = (rI.take i2).filter sgl ++ if sgl z = true then [z] else [] := by
        rw [List.take_add_one, hz, List.filter_append]
        simp only [Option.toList_some, List.filter_cons, List.filter_nil]
      refine isTrue_plain ?_
      refine Call_ ?_
      k_steps
      refine stop_in ?_
      rename Fr _ _ _ _ => F7
      rename News _ _ _ _ => N7
      refine single_bit_c w (dp + 1) _ gd (_ :: fr) base _ _ _ ?hH XB TB (by walk_at "lo") ?hu1 ?_
      case hH => exact amid_push B F7 D rfl rfl
      case hu1 => show un + 3 + 8 < cLine; walk_at "lo"
      intro b h8 tk8 eb k8
      have N8 := News.ofKeeps N7 k8 (by simp)
      have F8 := Fr.ofKeeps F7 k8 (by simp) (by simp)
      clear N7 F7
      rw [show (!(z == 0) && (Builtin.bitAnd z (z - 1) == 0)) = sgl z from rfl] at eb
      cases b with
      | true =>
        rw [if_pos eb.symm] at etk
        k_steps
        exact ⟨_, _, rfl, F8, N8, by rw [etk]; exact hJ2.append (.cons _ _ .nil)⟩
      | false =>
        rw [if_neg (by rw [← eb]; decide), List.append_nil] at etk
        k_steps
        exact ⟨_, _, rfl, F8, N8, by rw [etk]; exact hJ2⟩
    case fin2 =>
      intro ys2 hJ2 D6 h6 tk6 F7 N7 offD2
      simp only [LCg.Off1, and_true] at offD2
      rw [List.take_of_length_le (by rw [List.size_toArray]; walk_at "lo")] at hJ2
      clear F6 N6
      k_steps
      rename Fr _ _ _ _ => Fx
      rename News _ _ _ _ => Nx
      have hf := sing_fin ld.aff (List.mem_of_getElem? ld.head) (dbl_perm ld.aff (List.mem_of_getElem? ld.head) ld.mem ld.min).2 hrI hM hpl
      rw [← hul] at hf
      rw [hf]
      exact hQ _ _ _ Fx (News.last9 Nx)
end SLwI
section SLwX
open PySem PySem.W PyProof.Rows PySem.Calls PySem.Spec
set_option maxRecDepth 100000
theorem law_all (w : World) {p : Program} {loose : List Str} {mean : ExcName → Option Value} {mg mb : Str → Option Value}
  (dp un : Nat) (gd : Option (List Code)) (fr : List Env) (base : Heap) (s : Shared) (E : Value → Shared → Prop) (Q : Flow → Shared → Prop)
  (XB : (Mine.hd.heap_39 w.params).In base) (TB : Top p loose mean mg mb base) (hd : dp + 12 < recursionLimit) (hu : un + 120 < cLine)
  {L fa l : Addr} {cd : Value} {g : Heap} {m : Str → Option Value} {sv : List Value} {ns : List Int} {o1 o2 o3 o4 o5 o0 : Obj} {v1 v2 v3 v4 v5 : Option Value}
  (B : Below (kA dp un gd fr) base fr g) (D : KtsDicts (fr.filterMap (·.frame)) g) (hl : g.IsList l sv.toArray) (hi : IntsAre sv ns) (h64 : ns.length < 64)
  (F : Fr g L s.heap (lawM0 l m))
  (h1 : o1.data = .cell v1) (h2 : o2.data = .cell v2) (h3 : o3.data = .cell v3) (h4 : o4.data = .cell v4) (h5 : o5.data = .cell v5)
  (N : News g L s.heap [(L + 1 + 1 + 1 + 1 + 1, o5), (L + 1 + 1 + 1 + 1, o4), (L + 1 + 1 + 1, o3), (L + 1 + 1, o2), (L + 1, o1), (281, o0)]) (l0 : (@LT.lt Nat _ 281 L))
  (hE : PassesOwn (model PySem.Challenge.rw_kl0506_01.row.prog w) ((kA dp un gd fr).deeper (lawEnv L fa cd)) (lawEnv L fa cd) E)
  (hQ : ∀ g' h tk m', KtsTurn (fr.filterMap (·.frame)) g g' → Fr g' L h m' → News g' L h [(281, o0)] → Q (.ret (.bool true)) { s with heap := h, toks := tk }) :
  wpAny (model PySem.Challenge.rw_kl0506_01.row.prog w) ((kA dp un gd fr).deeper (lawEnv L fa cd)) (execs (lawBody.drop 0) (lawEnv L fa cd)) Q E s := by
  refine law_a w dp un gd fr base s E Q XB TB hd hu B D hl hi h64 F h1 h2 h3 h4 h5 N l0 ?_
  intro us off u0 lz wl ws wc rl rv rc n lt h tk m' o1' ld hw hr F1 N1 h1' ap
  refine law_b w dp un gd fr base { s with heap := h, toks := tk } E Q XB TB hd hu B D ld hw hr F1 h1' h2 N1 ap hE ?_
  intro fl lv lc h tk m' o2' v2' hlv F2 N2 h2'
  refine law_c w dp un gd fr base { s with heap := h, toks := tk } E Q XB TB hd hu B D hlv F2 h3 N2 ap ?_
  intro nl lnv nc h tk m' o3' hln F3 N3 h3' nf
  refine law_d w dp un gd fr base { s with heap := h, toks := tk } E Q XB TB B ld hr hln (Fr.as F3 (lwN_in rfl rfl)) h3' h4 N3 ap nf hE ?_
  intro nl lnv nc h tk m' o3'' o4' v4' hln F4 N4 h3'' h4' _
  refine law_e w dp un gd fr base { s with heap := h, toks := tk } E Q XB TB hd hu B D ld hw hln F4 h1' h3'' N4 ?_
  intro g1 h tk m' T1 B1 D1 F5 N5
  refine law_f w dp un gd fr base { s with heap := h, toks := tk } E Q XB TB hd hu B1 D1 ld hw hln F5 h1' h3'' N5 ?_
  intro g2 h tk m' T2 B2 D2 F6 N6
  refine law_g w dp un gd fr base { s with heap := h, toks := tk } E Q XB TB B2 ld hr F6 h4' h5 (News.tl N6) ap hE ?_
  intro h tk m' o4'' o5' t5 F7 N7 h5'
  refine law_h w dp un gd fr base { s with heap := h, toks := tk } E Q XB TB hd hu B2 D2 ld hw F7 h1' h5' N7 ?_
  intro h tk m' F8 N8
  refine law_i w dp un gd fr base { s with heap := h, toks := tk } E Q XB TB hd hu B2 D2 ld hw hr F8 h1' h5' N8 ?_
  intro h tk m' F9 N9
  exact hQ g2 h tk m' (T1.trans T2) F9 N9
theorem lawM0_in {M : Str → Option Value} {l : Addr} (h : M (Str.ofString "script") = some (.ref l)) : ∀ y, M y = lawM0 l M y := fun y => by
  unfold lawM0
  split
  · rename_i e; rw [e, h]
  · rfl
theorem turn_none_fr {g g' h : Heap} {L : Addr} {m : Str → Option Value} (T : KtsTurn [] g g') (F : Fr g' L h m) : Fr g L h m :=
  ⟨F.ns, fun b o e => F.keep b o (T.other b o e List.not_mem_nil), T.size ▸ F.above⟩
theorem turn_none_news {g g' h : Heap} {L : Addr} {news : List (Addr × Obj)} (T : KtsTurn [] g g') (N : News g' L h news) : News g L h news := fun p hp =>
  ⟨(N p hp).1, (N p hp).2.1, by
    cases e : g.get? p.1 with
    | none => rfl
    | some o => have := T.other _ o e List.not_mem_nil; rw [(N p hp).2.2] at this; cases this⟩
end SLwX
end Mine
open PySem PySem.W PyProof.Rows PySem.Calls PySem.Spec
set_option maxRecDepth 100000 in
set_option maxHeartbeats 8000000 in
theorem PySem.Challenge.cw_kl0506_01_holds : PySem.Challenge.rw_kl0506_01.Holds :=
  Mine.hd (by
  k_go0
  (all_goals try k_fold)
  rename Below callerA _ _ _ => K'
  rename Fr _ _ _ _ => F'
  rename News _ _ _ _ => N'
  rename Top topProg _ _ _ _ _ => T'
  rename IntsAre _ _ => hI
  rename Heap.IsList (ghostOf _ _) _ _ => lifted
  rename (@LT.lt Nat _ 281 _) => l0
  refine Mine.law_all _ (1 + claimMargin) 4 (some []) [] _ _ _ _ (by assumption) T' (by decide) (by decide) K' (fun b hb => by cases hb) lifted hI ?h64 (Mine.Fr.as F' (Mine.lawM0_in rfl)) (by assumption) (by assumption) (by assumption) (by assumption) (by assumption) N' l0 (by passes_own) ?_
  case h64 => omega
  intro g' h tk m' T F N
  have F2 := Mine.turn_none_fr T F
  have N2 := Mine.turn_none_news T N
  clear F N T F' N' g'
  k_steps
  )
