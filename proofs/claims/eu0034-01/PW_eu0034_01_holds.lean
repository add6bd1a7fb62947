import PyProof.Rows.All
import KE.KAssignIn
import KE.KItem
import KE.KDictIter
import KE.KDictList
import KE.KFromBytes
import KE.KStar
import KE.KTryDeepN
import Wide.FinOn
import OpenK.AllK
import Wide.All
import PySem.Challenge.RW_eu0034_01
namespace Mine
section
open PySem PySem.W PyProof.Rows
set_option Elab.async false
set_option maxRecDepth 100000 in
set_option maxHeartbeats 8000000 in
open_top hd for PySem.Challenge.rw_eu0034_01
end
section
open PySem PySem.W PyProof.Rows PySem.Calls
set_option Elab.async false
set_option maxRecDepth 100000
theorem lookup_push (x : Str) (v : Value) (fl : List (Str × Value)) : (fun y => if y = x then some v else fl.lookup y) = fun y => ((x, v) :: fl).lookup y := by
  funext y
  rw [List.lookup_cons]
  by_cases h : y = x
  · subst h; simp
  · rw [if_neg h, show (y == x) = false from by simpa using h]
structure Wd (G : Array GenState) (O : OsState) (g : Heap) (L : Addr) (s : Shared) (fl : List (Str × Value)) (news : List (Addr × Obj)) : Prop where
  fr : Fr g L s.heap (fun y => fl.lookup y)
  nw : News g L s.heap news
  nd : (news.map (·.1)).Nodup
  gens : s.gens = G
  os : s.os = O
inductive Rep (a : Addr) (o : Obj) : List (Addr × Obj) → (Obj → List (Addr × Obj)) → Prop
  | head {r} : Rep a o ((a, o) :: r) (fun o' => (a, o') :: r)
  | tail {p r f} : Rep a o r f → Rep a o (p :: r) (fun o' => p :: f o')
section
variable {G : Array GenState} {O : OsState} {g : Heap} {L a : Addr} {s : Shared} {fl : List (Str × Value)} {news news' : List (Addr × Obj)} {o o' : Obj} {f : Obj → List (Addr × Obj)}
theorem Rep.split (R : Rep a o news f) : ∃ pre post, news = pre ++ (a, o) :: post ∧ ∀ o', f o' = pre ++ (a, o') :: post := by
  induction R with
  | head => exact ⟨[], _, rfl, fun _ => rfl⟩
  | tail _ ih => obtain ⟨pre, post, e, h⟩ := ih; exact ⟨_ :: pre, post, by rw [e]; rfl, fun o' => by show _ :: _ = _; rw [h]; rfl⟩
theorem Rep.mem (R : Rep a o news f) : (a, o) ∈ news := by
  obtain ⟨pre, post, e, _⟩ := R.split; rw [e]; simp
theorem Wd.get (H : Wd G O g L s fl news) (hm : (a, o) ∈ news) : s.heap.get? a = some o := (H.nw _ hm).1
theorem Wd.base (H : Wd G O g L s fl news) (hg : g.get? a = some o) : s.heap.get? a = some o := H.fr.keep _ _ hg
theorem Wd.keeps (H : Wd G O g L s fl news) : ∀ b o, g.get? b = some o → s.heap.get? b = some o := H.fr.keep
theorem Wd.of (F : Fr g L s.heap (fun y => fl.lookup y)) (N : News g L s.heap news') (nd : (news'.map (·.1)).Nodup) (hg : s.gens = G) (ho : s.os = O) : Wd G O g L s fl news' := ⟨F, N, nd, hg, ho⟩
theorem Wd.toks (H : Wd G O g L s fl news) {t : Nat} : Wd G O g L { s with toks := t } fl news := ⟨H.fr, H.nw, H.nd, H.gens, H.os⟩
theorem Wd.drawn (H : Wd G O g L s fl news) {t : Nat} {d : Drawn} : Wd G O g L { s with toks := t, drawn := d } fl news := ⟨H.fr, H.nw, H.nd, H.gens, H.os⟩
theorem Wd.push (H : Wd G O g L s fl news) (o : Obj) (hf : o.isFreed = false) {t : Nat} : Wd G O g L { s with heap := s.heap.push o, toks := t } fl ((s.heap.objs.size, o) :: news) := by
  refine ⟨H.fr.push o, H.nw.push H.fr o hf, ?_, H.gens, H.os⟩
  rw [List.map_cons, List.nodup_cons]
  refine ⟨fun hm => ?_, H.nd⟩
  obtain ⟨p, hp, e⟩ := List.mem_map.mp hm
  have := Heap.lt_size (H.nw p hp).1
  rw [e] at this
  exact Nat.lt_irrefl _ this
theorem Wd.pushQuiet (H : Wd G O g L s fl news) (o : Obj) {t : Nat} : Wd G O g L { s with heap := s.heap.push o, toks := t } fl news :=
  ⟨H.fr.push o, fun p hp => ⟨Heap.get?_push_of_some _ (H.nw p hp).1, (H.nw p hp).2⟩, H.nd, H.gens, H.os⟩
theorem Wd.upd (H : Wd G O g L s fl news) (R : Rep a o news f) {u : Obj → Obj} (e : u o = o') (hf : o'.isFreed = false) {t : Nat} : Wd G O g L { s with heap := s.heap.update a u, toks := t } fl (f o') := by
  obtain ⟨pre, post, rfl, hh⟩ := R.split
  rw [hh]
  have nd := H.nd
  rw [List.map_append, List.map_cons] at nd
  have nd2 := List.nodup_append.mp nd
  have h1 : ∀ p ∈ pre, p.1 ≠ a := fun p hp e => nd2.2.2 _ (List.mem_map_of_mem hp) _ (List.mem_cons_self) e
  have h2 : ∀ p ∈ post, p.1 ≠ a := fun p hp e => (List.nodup_cons.mp nd2.2.1).1 (List.mem_map.mpr ⟨p, hp, e⟩)
  obtain ⟨F', N'⟩ := news_upd H.fr H.nw h1 h2 e hf
  exact ⟨F', N', by rw [List.map_append, List.map_cons]; exact nd, H.gens, H.os⟩
theorem Wd.sub (H : Wd G O g L s fl news) (h : news'.Sublist news) : Wd G O g L s fl news' :=
  ⟨H.fr, fun p hp => H.nw p (h.subset hp), H.nd.sublist (h.map _), H.gens, H.os⟩
theorem Wd.perm (H : Wd G O g L s fl news) (h : news'.Perm news) : Wd G O g L s fl news' :=
  ⟨H.fr, fun p hp => H.nw p (h.subset hp), (h.map _).nodup_iff.mpr H.nd, H.gens, H.os⟩
theorem Wd.grow {s' : Shared} (H : Wd G O g L s fl news) (k : ∀ b o, s.heap.get? b = some o → s'.heap.get? b = some o) (hg : s'.gens = s.gens) (ho : s'.os = s.os) : Wd G O g L s' fl news :=
  ⟨⟨H.fr.ns.keeps k, fun b o e => k _ _ (H.fr.keep b o e), H.fr.above⟩, fun p hp => ⟨k _ _ (H.nw p hp).1, (H.nw p hp).2⟩, H.nd, hg.trans H.gens, ho.trans H.os⟩
theorem Wd.store (H : Wd G O g L s fl news) {h' : Heap} {x : Str} {v : Value} {t : Nat} (hn : h'.Ns L (fun y => if y = x then some v else fl.lookup y)) (hs : Heap.SameBut L s.heap h') :
    Wd G O g L { s with heap := h', toks := t } ((x, v) :: fl) news := by
  rw [lookup_push] at hn
  exact ⟨H.fr.set hn hs, H.nw.set hs, H.nd, H.gens, H.os⟩
end
end
section
open PySem PySem.W PyProof.Rows PySem.Calls
set_option Elab.async false
set_option maxRecDepth 100000
noncomputable abbrev KK : Params → Frag := Mine.hd.heap_39
structure Gnd (K : Frag) (base : Heap) : Prop where
  inK : K.In base
  top : ∃ p lo mg mb, TopRead p lo mg mb base
structure Room (d : Nat) (A : Around) : Prop where
  room : A.depth + d < recursionLimit
  units : A.units + 10 * d < cLine
  hand : A.handled = none
theorem Room.mono {d d' : Nat} {A : Around} (x : Room d A) (h : d' ≤ d) : Room d' A := ⟨by have := x.room; omega, by have := x.units; omega, x.hand⟩
structure Site (d : Nat) (A : Around) (base : Heap) (outer : List Env) (h : Heap) : Prop where
  below : Below A base outer h
  rm : Room d A
def Off (base : Heap) (outer : List Env) (a : Addr) : Prop := base.get? a = none ∧ ∀ env ∈ outer, env.frame ≠ some a
structure Inn (A : Around) (base : Heap) (outer : List Env) (s s₁ : Shared) (g : Heap) (foot : List (Addr × Obj)) : Prop where
  below : Below A base outer g
  hid : ∀ b o, s.heap.get? b = some o → b ∉ foot.map (·.1) → g.get? b = some o
  sub : ∀ b o, g.get? b = some o → s.heap.get? b = some o
  keep : ∀ b o, s.heap.get? b = some o → s₁.heap.get? b = some o
structure Own (base : Heap) (outer : List Env) (s : Shared) (foot : List (Addr × Obj)) : Prop where
  at_ : ∀ p ∈ foot, s.heap.get? p.1 = some p.2
  nd : (foot.map (·.1)).Nodup
  off : ∀ a ∈ foot.map (·.1), Off base outer a
structure Chg (s s' : Shared) (foot : List Addr) (upd : List (Addr × Obj)) : Prop where
  keep : ∀ b o, s.heap.get? b = some o → b ∉ foot → s'.heap.get? b = some o
  new : ∀ p ∈ upd, s'.heap.get? p.1 = some p.2
  own : ∀ p ∈ upd, p.1 ∈ foot ∨ s.heap.get? p.1 = none
  nd : (upd.map (·.1)).Nodup
  gens : s'.gens = s.gens
  os : s'.os = s.os
section
variable {prog : Program} {w : World} {K : Frag} {d : Nat} {A : Around} {base : Heap} {outer : List Env} {s : Shared} {foot : List (Addr × Obj)}
  {R : Result → Shared → Prop} {name qual : Str} {params : Arguments} {body : List Stmt} {scope : Scope} {dV kV doc pm cdv ct oc : Value} {an od : Option Addr} {osl : Array (Option Value)} {f : Addr} {args : Args} {binds : List (Str × Value)}
theorem below_hide (B : Below A base outer s.heap) {as : List Addr} (off : ∀ a ∈ as, Off base outer a) : Below A base outer (hideAll s.heap as) := by
  refine ⟨B.stack, fun b o e => hideAll_get _ (B.stays b o e) fun hm => ?_, funFrames_hideAll B.frames fun env he a ha => (off a ha).2 env he⟩
  rw [(off b hm).1] at e; cases e
theorem cellsAre_addrs {cm : Str → Option Value} {cs : List (Str × Addr)} {cells : List (Addr × Obj)} (x : CellsAre cm cs cells) : cells.map (·.1) = cs.map (·.2) := by
  induction x with
  | nil => rfl
  | cons _ _ ih => simp [ih]
theorem enter (Gd : Gnd K base) (C : Site (d + 1) A base outer s.heap) (foot : List (Addr × Obj)) (OW : Own base outer s foot)
    (ho : K.lookup f = some ⟨oc, od, .func (fnX name qual params body scope [] dV kV doc pm an cdv ct), osl⟩) (hcd : codeIn K cdv qual = true)
    (hbind : BindsTo s (fnX name qual params body scope [] dV kV doc pm an cdv ct) args binds) (hloc : ∀ y ∈ binds, scope.names.lookup y.1 = some .local)
    (h : ∀ g L s₁, Room d (A.deeper (envX qual scope L f cdv [])) → Wd s.gens s.os g L s₁ binds.reverse foot → Inn A base outer s s₁ g foot →
      wpAny (model prog w) (A.deeper (envX qual scope L f cdv [])) (execs body (envX qual scope L f cdv []))
        (fun fl s' => R (.ok (.ret (match fl with | .ret v => v | _ => .none))) s')
        (fun e s' => wpAny (model prog w) (A.deeper (envX qual scope L f cdv [])) (leaving (envX qual scope L f cdv []) e) (fun _ s'' => R (.error e) s'') (fun e' s'' => R (.error e') s'') s') s₁)
    (hcell : ∀ x ∈ scope.names, x.2 ≠ .cell) (hco : scope.isCoroutine = false := by rfl) (hgen : scope.isGenerator = false := by rfl) (hk : scope.kind = .function := by rfl) : codeAny (model prog w) A (.call (.ref f) args) R s := by
  obtain ⟨p, lo, mg, mb, T⟩ := Gd.top
  obtain ⟨hfoot, nd, off⟩ := OW
  have hr := C.rm.room
  refine codeAny_call_def (fd := fnX name qual params body scope [] dV kV doc pm an cdv ct) (body := body) (binds := binds) (by omega) (C.below.stays _ _ (Gd.inK _ _ ho)) rfl (T.nolimit.keeps C.below.stays)
    (codeRec_of (Gd.inK.keeps C.below.stays) hcd) rfl hbind hcell hloc (fun h₁ hns hk₁ => ?_) hco hgen hk
  have B' := below_hide C.below off
  have FF : Fr (hideAll s.heap (foot.map (·.1))) s.heap.objs.size h₁ (fun y => List.lookup y binds.reverse) := ⟨hns, fun b o e => hk₁ b o (of_hideAll _ e), Nat.le_of_eq (hideAll_size _ _)⟩
  refine h (hideAll s.heap (foot.map (·.1))) s.heap.objs.size _ ⟨?_, ?_, C.rm.hand⟩ ⟨FF, fun p hp => ⟨hk₁ _ _ (hfoot p hp), Nat.ne_of_lt (Heap.lt_size (hfoot p hp)), hideAll_none _ (List.mem_map_of_mem hp)⟩, nd, rfl, rfl⟩ ⟨B', fun b o e hb => hideAll_get _ e hb, fun b o e => of_hideAll _ e, hk₁⟩
  · show A.depth + 1 + d < _; omega
  · show A.units + 3 + 10 * d < _; have := C.rm.units; omega
theorem enterC (Gd : Gnd K base) (C : Site (d + 1) A base outer s.heap) (foot : List (Addr × Obj)) (OW : Own base outer s foot)
    (ho : K.lookup f = some ⟨oc, od, .func (fnX name qual params body scope [] dV kV doc pm an cdv ct), osl⟩) (hcd : codeIn K cdv qual = true)
    (hbind : BindsTo s (fnX name qual params body scope [] dV kV doc pm an cdv ct) args binds)
    (hkind : (binds.all fun y => scope.names.lookup y.1 == some .local || scope.names.lookup y.1 == some .cell) = true)
    (hnd : ((cellsFrom 0 scope.names []).map (·.1)).Nodup) {fl : List (Str × Value)}
    (hfl : ∀ L, bindL (envOfC qual scope L f cdv).kindOf binds (fun _ => none) = fun y => fl.lookup y)
    (h : ∀ g L s₁ cells, Room d (A.deeper (envOfC qual scope L f cdv)) → Wd s.gens s.os g L s₁ fl (cells ++ foot) → Inn A base outer s s₁ g foot →
      CellsAre (bindC (envOfC qual scope L f cdv).kindOf binds fun _ => none) (cellsFrom (L + 1) scope.names []) cells →
      wpAny (model prog w) (A.deeper (envOfC qual scope L f cdv)) (execs body (envOfC qual scope L f cdv))
        (fun fl s' => R (.ok (.ret (match fl with | .ret v => v | _ => .none))) s')
        (fun e s' => wpAny (model prog w) (A.deeper (envOfC qual scope L f cdv)) (leaving (envOfC qual scope L f cdv) e) (fun _ s'' => R (.error e) s'') (fun e' s'' => R (.error e') s'') s') s₁)
    (hco : scope.isCoroutine = false := by rfl) (hgen : scope.isGenerator = false := by rfl) (hk : scope.kind = .function := by rfl) : codeAny (model prog w) A (.call (.ref f) args) R s := by
  obtain ⟨p, lo, mg, mb, T⟩ := Gd.top
  obtain ⟨hfoot, nd, off⟩ := OW
  have hr := C.rm.room
  refine codeAny_call_function (by omega) (C.below.stays _ _ (Gd.inK _ _ ho)) rfl hco hgen rfl (codeRec_of (Gd.inK.keeps C.below.stays) hcd) (hbind _ _ _ _ ?_)
  refine wpAny_newFunctionEnv_cells hk (kindsX hkind _) fun env' he s' x => ?_
  subst he
  refine ⟨(T.nolimit.keeps C.below.stays).keeps x.toInCall.keep, codeAny_func ?_⟩
  obtain ⟨h₁, tk, rfl, _⟩ := x.done
  have hk₁ := x.toInCall.keep
  have hc : ∀ n c, (n, c) ∈ cellsFrom (s.heap.objs.size + 1) scope.names [] → h₁.IsCell c (bindC (envOfC qual scope s.heap.objs.size f cdv).kindOf binds (fun _ => none) n) ∧ s.heap.objs.size < c := fun n c hm =>
    ⟨x.cell n c (lookup_of_mem_nodup (cellsFrom_names scope.names 0 (s.heap.objs.size + 1) [] [] rfl ▸ hnd) hm), x.above n c hm⟩
  obtain ⟨cells, NC, Y⟩ := Cl.news (h₀ := s.heap) (Nat.le_refl _) hc
  have B' := below_hide C.below off
  have hns := x.toInCall.ns
  have hfl' := hfl s.heap.objs.size
  have FF : Fr (hideAll s.heap (foot.map (·.1))) s.heap.objs.size h₁ (fun y => List.lookup y fl) := ⟨by rw [← hfl']; exact hns, fun b o e => hk₁ b o (of_hideAll _ e), Nat.le_of_eq (hideAll_size _ _)⟩
  have hap : (cells.map (·.1)).Nodup := by rw [cellsAre_addrs Y, List.nodup_iff_pairwise_ne, List.pairwise_map]; exact x.apart
  have hdis : ∀ p ∈ cells, ∀ q ∈ foot, p.1 ≠ q.1 := fun p hp q hq e => by
    have := (NC p hp).2.2
    rw [e, hfoot q hq] at this; cases this
  refine h (hideAll s.heap (foot.map (·.1))) s.heap.objs.size ⟨h₁, s.gens, s.drawn, tk, s.os⟩ cells ⟨?_, ?_, C.rm.hand⟩ ⟨FF, ?_, ?_, rfl, rfl⟩ ⟨B', fun b o e hb => hideAll_get _ e hb, fun b o e => of_hideAll _ e, hk₁⟩ Y
  · show A.depth + 1 + d < _; omega
  · show A.units + 3 + 10 * d < _; have := C.rm.units; omega
  · intro p hp
    rcases List.mem_append.mp hp with hp | hp
    · refine ⟨(NC p hp).1, (NC p hp).2.1, ?_⟩
      cases q : (hideAll s.heap (foot.map (·.1))).get? p.1 with
      | none => rfl
      | some o => have := of_hideAll _ q; rw [(NC p hp).2.2] at this; cases this
    · exact ⟨hk₁ _ _ (hfoot p hp), Nat.ne_of_lt (Heap.lt_size (hfoot p hp)), hideAll_none _ (List.mem_map_of_mem hp)⟩
  · rw [List.map_append]
    refine List.nodup_append.mpr ⟨hap, nd, ?_⟩
    intro a ha b hb
    obtain ⟨p, hp, rfl⟩ := List.mem_map.mp ha
    obtain ⟨q, hq, rfl⟩ := List.mem_map.mp hb
    exact hdis p hp q hq
end
end
section
open PySem PySem.W PyProof.Rows PySem.Calls
set_option Elab.async false
set_option maxRecDepth 100000
inductive Pick (p : Addr × Obj) : List (Addr × Obj) → List (Addr × Obj) → Prop
  | head {r} : Pick p (p :: r) r
  | tail {q r r'} : Pick p r r' → Pick p (q :: r) (q :: r')
inductive Ext : List (Addr × Obj) → List (Addr × Obj) → List (Addr × Obj) → Prop
  | nil {n} : Ext [] n n
  | cons {p u n r rest} : Pick p n r → Ext u r rest → Ext (p :: u) n rest
theorem Pick.perm {p : Addr × Obj} {n r : List (Addr × Obj)} (x : Pick p n r) : n.Perm (p :: r) := by
  induction x with
  | head => exact .refl _
  | tail _ ih => exact (ih.cons _).trans (.swap _ _ _)
theorem Ext.perm {u n rest : List (Addr × Obj)} (x : Ext u n rest) : n.Perm (u ++ rest) := by
  induction x with
  | nil => exact .refl _
  | cons h _ ih => exact h.perm.trans (ih.cons _)
section
variable {G : Array GenState} {O : OsState} {g : Heap} {L a : Addr} {s s' : Shared} {fl : List (Str × Value)} {news old upd rest : List (Addr × Obj)} {o o' : Obj}
theorem Wd.chg (H : Wd G O g L s fl news) (x : Ext old news rest) (c : Chg s s' (old.map (·.1)) upd) : Wd G O g L s' fl (upd ++ rest) := by
  have hp := x.perm
  have nd : ((old ++ rest).map (·.1)).Nodup := (hp.map _).nodup_iff.mp H.nd
  rw [List.map_append, List.nodup_append] at nd
  have nL : L ∉ old.map (·.1) := fun hm => by
    obtain ⟨p, hp', e⟩ := List.mem_map.mp hm
    exact (H.nw p (hp.mem_iff.mpr (List.mem_append_left _ hp'))).2.1 e
  have hk : ∀ b o, g.get? b = some o → s'.heap.get? b = some o := fun b o e => c.keep b o (H.fr.keep b o e) fun hm => by
    obtain ⟨p, hp', rfl⟩ := List.mem_map.mp hm
    rw [(H.nw p (hp.mem_iff.mpr (List.mem_append_left _ hp'))).2.2] at e; cases e
  have hfresh : ∀ a o, s.heap.get? a = none → s'.heap.get? a = some o → a ≠ L ∧ g.get? a = none := fun a o e e' => by
    refine ⟨fun q => ?_, ?_⟩
    · obtain ⟨oL, _, _, hL, _⟩ := H.fr.ns; rw [q, hL] at e; cases e
    · cases q : g.get? a with
      | none => rfl
      | some o'' => rw [H.fr.keep _ _ q] at e; cases e
  refine ⟨⟨H.fr.ns.at' fun o e => c.keep _ o e nL, hk, H.fr.above⟩, fun p hp' => ?_, ?_, c.gens.trans H.gens, c.os.trans H.os⟩
  · rcases List.mem_append.mp hp' with hm | hm
    · refine ⟨c.new p hm, ?_⟩
      rcases c.own p hm with h | h
      · obtain ⟨q, hq, e⟩ := List.mem_map.mp h
        have := H.nw q (hp.mem_iff.mpr (List.mem_append_left _ hq))
        rw [← show q.1 = p.1 from e]; exact this.2
      · exact hfresh _ _ h (c.new p hm)
    · have hn := H.nw p (hp.mem_iff.mpr (List.mem_append_right _ hm))
      exact ⟨c.keep _ _ hn.1 fun hm' => nd.2.2 _ hm' _ (List.mem_map_of_mem hm) rfl, hn.2⟩
  · rw [List.map_append, List.nodup_append]
    refine ⟨c.nd, nd.2.1, fun a ha b hb e => ?_⟩
    obtain ⟨p, hp1, rfl⟩ := List.mem_map.mp ha
    obtain ⟨q, hq1, rfl⟩ := List.mem_map.mp hb
    rcases c.own p hp1 with h | h
    · exact nd.2.2 _ h _ (List.mem_map_of_mem hq1) e
    · have := (H.nw q (hp.mem_iff.mpr (List.mem_append_right _ hq1))).1
      rw [e] at h; rw [h] at this; cases this
theorem Chg.of_wd {s₀ : Shared} {foot : List Addr} (H : Wd s₀.gens s₀.os g L s fl news) (hg : ∀ b o, s₀.heap.get? b = some o → b ∉ foot → g.get? b = some o) (x : Ext upd news rest) : Chg s₀ s foot upd := by
  have hp := x.perm
  have nd : ((upd ++ rest).map (·.1)).Nodup := (hp.map _).nodup_iff.mp H.nd
  rw [List.map_append, List.nodup_append] at nd
  refine ⟨fun b o e hb => H.fr.keep b o (hg b o e hb), fun p hm => (H.nw p (hp.mem_iff.mpr (List.mem_append_left _ hm))).1, fun p hm => ?_, nd.1, H.gens, H.os⟩
  have hn := (H.nw p (hp.mem_iff.mpr (List.mem_append_left _ hm))).2.2
  by_cases hf : p.1 ∈ foot
  · exact .inl hf
  · refine .inr ?_
    cases q : s₀.heap.get? p.1 with
    | none => rfl
    | some o => rw [hg _ _ q hf] at hn; cases hn
end
abbrev dictO0 : Obj := { cls := .type "dict", data := .dict #[] }
abbrev osetO (dx : Addr) (es : Array (Int × Value)) (n : Nat) (t : SetTable) (l : Addr) : Obj := { cls := .ref 225, dict := some dx, data := .set es n t, slots := #[some (.ref l)] }
abbrev osetO0 (dx : Addr) (es : Array (Int × Value)) (n : Nat) (t : SetTable) : Obj := { cls := .ref 225, dict := some dx, data := .set es n t }
abbrev setO (es : Array (Int × Value)) (n : Nat) (t : SetTable) : Obj := { cls := .type "set", data := .set es n t }
abbrev lstO (xs : Array Value) (n : Nat) : Obj := { cls := .type "list", data := .seq xs n }
section
variable (P : Params)
theorem k_ga : findIn (KK P) (.ref 225) "__getattribute__" = some (some (.builtin "set.__getattribute__")) := by kernel_rfl
theorem k_gattr : findIn (KK P) (.ref 225) "__getattr__" = some none := by kernel_rfl
theorem k_iscls : isClsIn (KK P) 225 = true := by kernel_rfl
theorem k_list : findIn (KK P) (.ref 225) "_list" = some (some (.ref 226)) := by kernel_rfl
theorem k_list_get : specialIn (KK P) (.ref 226) "__get__" = some (some (.builtin "member_descriptor.__get__")) := by kernel_rfl
theorem k_list_takes : takesIn (KK P) (.ref 226) = some true := by kernel_rfl
theorem k_list_slot : slotIn (KK P) 226 225 = some 0 := by kernel_rfl
theorem k_setattr : findIn (KK P) (.ref 225) "__setattr__" = some (some (.builtin "object.__setattr__")) := by kernel_rfl
theorem k_taker : takerIn (KK P) 225 "_list" = some (some (.ref 226)) := by kernel_rfl
theorem k_list_type : typeIn (KK P) (.ref 226) = some (.type "member_descriptor") := by kernel_rfl
end
end
section
open PySem PySem.W PyProof.Rows PySem.Calls Builtin Builtin.ObjectAttr
set_option Elab.async false
set_option maxRecDepth 100000
section
variable (P : Params)
theorem k_mro_set : mroIn (KK P) 225 (.type "set") = some true := by kernel_rfl
theorem k_mro_obj : mroIn (KK P) 225 (.type "object") = some true := by kernel_rfl
theorem k_mro_dict : mroIn (KK P) 225 (.type "dict") = some false := by kernel_rfl
theorem k_mro_fs : mroIn (KK P) 225 (.type "frozenset") = some false := by kernel_rfl
end
theorem split_ga : splitId "set.__getattribute__" = some ("set", "__getattribute__") := by decide +kernel
theorem kind_ga : builtinKind "set.__getattribute__" = some .slot := by decide +kernel
theorem plain_ga : plainId "set.__getattribute__" = true := by decide +kernel
theorem entry_ga : entryFor table "set.__getattribute__" = some Builtin.«object.__getattribute__» := entryFor_alias (id' := "object.__getattribute__") (by kernel_rfl) (by first | rfl | decide +kernel) (by decide +kernel) (by kernel_rfl)
theorem args_ga (a b : Value) : argsOk "set.__getattribute__" ⟨[a, b], []⟩ := by unfold argsOk; kernel_rfl
theorem slot_ga : Slot "set" "__getattribute__" "set.__getattribute__" :=
  .of (owner := "set") (n := "__getattribute__") (by rw [typeLookup_type, builtinLookup_eq_fast]; kernel_rfl) (by decide +kernel) (by decide +kernel) (by decide +kernel)
    (by first | exact .inl (by decide +kernel) | exact .inr (by decide +kernel)) (by rw [isSubtype_type]; kernel_rfl)
section
variable {prog : Program} {w : World} {A : Around} {E : Value → Shared → Prop} {s : Shared} {K : Frag} {x : Addr} {ox : Obj} {od : Option Obj} {name : Str} {expr : Bool}
theorem check_method {M : Model} {A : Around} {E : Value → Shared → Prop} {s : Shared} {i owner n : String} {self : Value} {rest : List Value} {kw : List (Str × Value)} {Q : Unit → Shared → Prop}
    (hk : builtinKind i = some .method) (hs : splitId i = some (owner, n)) (hi : Looks M s.heap (isInstance self (.type owner)) true) (ha : argsOk i ⟨self :: rest, kw⟩) (q : Q () s) :
    wpAny M A (checkBuiltinCall i ⟨self :: rest, kw⟩) Q E s := by
  simp only [checkBuiltinCall, hk, hs]
  refine wpAny_bind (hi.here ?_)
  simp only [Bool.not_true, Bool.false_eq_true, if_false]
  cases hsig : Manifest.signature? i with
  | none => exact wpAny_pure q
  | some sig =>
    simp only [argsOk, hsig] at ha
    have h2 : Bind.checkArgs i sig ⟨self :: rest, kw⟩ = pure () := ha
    show wpAny M A (Bind.checkArgs i sig ⟨self :: rest, kw⟩) Q E s
    rw [h2]; exact wpAny_pure q
theorem findObj_data' {C : Addr} {a g : Value} (hc : isClsIn K C = true) (ha : findIn K (.ref C) name = some (some a)) (hg : specialIn K a "__get__" = some (some g)) (ht : takesIn K a = some true) : findObj K C od name = some (.bind g a) := by
  obtain ⟨cd, hc⟩ := Option.isSome_iff_exists.mp hc
  unfold findObj
  rw [hc, Option.bind_some, ha, Option.bind_some]
  simp [hg, ht]
structure BI (T id : String) (b : Builtin) : Prop where
  kind : builtinKind id = some .method ∨ builtinKind id = some .slot
  split : ∃ n, splitId id = some (T, n)
  plain : plainId id = true
  entry : entryFor table id = some b
theorem BI.code {T id : String} {b : Builtin} (B : BI T id b) {self : Value} {rest : List Value} {R : Result → Shared → Prop}
    (hi : Looks (model prog w) s.heap (isInstance self (.type T)) true) (ha : argsOk id ⟨self :: rest, []⟩)
    (h : wpAny (model prog w) A.in1 (b ⟨self :: rest, []⟩) (fun fin s' => match fin with | .done f => R (.ok f) s' | .again c' => c'.quiet = true ∧ codeAny (model prog w) A c' R s') (fun e s' => R (.error e) s') s) :
    codeAny (model prog w) A (.call (.builtin id) ⟨self :: rest, []⟩) R s := by
  obtain ⟨n, hn⟩ := B.split
  refine codeAny_call_builtin B.plain B.entry ?_
  rcases B.kind with hk | hk
  · exact check_method hk hn hi ha h
  · exact check_slot hk hn hi ha h
theorem BI.call {T id : String} {b : Builtin} (B : BI T id b) {self : Value} {rest : List Value} {Q : Value → Shared → Prop}
    (hi : Looks (model prog w) s.heap (isInstance self (.type T)) true) (ha : argsOk id ⟨self :: rest, []⟩)
    (h : wpAny (model prog w) A.in1 (b ⟨self :: rest, []⟩) (fun fin s' => ∃ v, fin = .done (.ret v) ∧ Q v s') E s) :
    wpAny (model prog w) A (call (.builtin id) (self :: rest)) Q E s := by
  refine wpAny_call (B.code hi ha (wpAny_mono h (fun fin s' z => ?_) fun _ _ z => z))
  obtain ⟨v, rfl, q⟩ := z; exact q
abbrev inst225 (h : Heap) (x : Addr) (ox : Obj) : Prop := InstAt h x ox 225 (some dictO0)
theorem inst_isSet (X : (KK w.params).In s.heap) (I : InstAt s.heap x ox 225 od) : Looks (model prog w) s.heap (isInstance (.ref x) (.type "set")) true := I.type.andThen (looks_mroIn X (k_mro_set _))
theorem bi_ga : BI "set" "set.__getattribute__" Builtin.«object.__getattribute__» := ⟨.inr kind_ga, ⟨_, split_ga⟩, plain_ga, entry_ga⟩
theorem get_bindS {g a : Value} {Q : Value → Shared → Prop} (X : (KK w.params).In s.heap) (I : InstAt s.heap x ox 225 od)
    (hf : findObj (KK w.params) 225 od name = some (.bind g a))
    (h : ∀ E', wpAny (model prog w) A.in1 (call g [a, .ref x, .ref 225]) (fun v s' => wpAny (model prog w) A (handedOut v) Q E s') E' { s with toks := s.toks + 1 }) :
    wpAny (model prog w) A (getAttr (.ref x) name expr) Q E s := by
  obtain ⟨hh, gg, d, t, os⟩ := s
  have L0 := I.type (M := model prog w)
  have L1 := looks_findIn (M := model prog w) X (k_ga _)
  have L2 := looks_findIn (M := model prog w) X (k_gattr _)
  have L3 := looks_find (M := model prog w) X I hf
  unfold getAttr getAttrBy
  refine wpAny_bind (wpAny_mkText (wpAny_holding (wpAny_bind (L0.at (wpAny_bind (L1.at ?_))))))
  show wpAny _ _ (getAttrByItsOwn _ _ _ _ _ _) _ _ _
  unfold getAttrByItsOwn hookBefore
  refine wpAny_bind (L2.at (wpAny_bind (wpAny_attempt (wpAny_holding ?_))))
  unfold callGetattribute
  rw [show (expr && onTheHeap (Value.builtin "set.__getattribute__")) = false from by cases expr <;> rfl]
  show wpAny _ _ (boundAndCalled _ _ _) _ _ _
  unfold boundAndCalled
  rw [slot_ga.bind]
  refine wpAny_bind (wpAny_pure ?_)
  refine bi_ga.call (s := ⟨hh, gg, d, t + 1, os⟩) (inst_isSet X I) (args_ga _ _) ?_
  unfold Builtin.«object.__getattribute__»
  refine wpAny_bind (wpAny_pure (wpAny_bind (wpAny_pure (wpAny_bind (L0.at (wpAny_bind (L3.at ?_)))))))
  dsimp only
  show wpAny _ _ ((holding [a] (call g [a, .ref x, .ref 225])) >>= ret) _ _ _
  refine wpAny_bind (wpAny_holding (wpAny_mono (h _) (fun v s' z => wpAny_pure ⟨v, rfl, z⟩) fun _ _ z => z))
theorem get_slotS {v : Value} {Q : Value → Shared → Prop} (X : (KK w.params).In s.heap) (I : InstAt s.heap x ox 225 od) (hv : (ox.slots[0]?).join = some v) (hh : handedIn v = true)
    (h : Q v { s with toks := s.toks + 1 }) : wpAny (model prog w) A (getAttr (.ref x) "_list" expr) Q E s :=
  get_bindS X I (findObj_data' (k_iscls _) (k_list _) (k_list_get _) (k_list_takes _)) fun E' => wpAny_call (slot_get (s := { s with toks := s.toks + 1 }) X I (k_list_slot _) hv (handed_on hh h))
end
end
section
open PySem PySem.W PyProof.Rows PySem.Calls Builtin Builtin.ObjectAttr
set_option Elab.async false
set_option maxRecDepth 100000
theorem refuse225 (self : Value) : refuseLoop self "__setattr__" [.type "set", .type "object"] = pure () := by kernel_rfl
section
variable (P : Params)
theorem k_mro : (clsIn (KK P) 225).map (·.mro) = some [.ref 225, .type "set", .type "object"] := by kernel_rfl
end
section
variable {prog : Program} {w : World} {A : Around} {E : Value → Shared → Prop} {s : Shared} {K : Frag} {x : Addr} {ox ox' : Obj} {od : Option Obj} {name : Str} {expr : Bool}
  {G : Array GenState} {O : OsState} {g : Heap} {L a : Addr} {fl : List (Str × Value)} {news : List (Addr × Obj)} {f : Obj → List (Addr × Obj)}
theorem set_slotS {v : Value} {Q : Unit → Shared → Prop} (X : (KK w.params).In g) (H : Wd G O g L s fl news) (I : InstAt s.heap x ox 225 od) (R : Rep x ox news f)
    (e : { ox with slots := (ox.slots ++ Array.replicate (0 + 1 - ox.slots.size) none).setIfInBounds 0 (some v) } = ox') (hf : ox'.isFreed = false)
    (h : ∀ s', Wd G O g L s' fl (f ox') → Q () s') : wpAny (model prog w) A (setAttr (.ref x) "_list" v) Q E s := by
  have X' := X.keeps H.keeps
  obtain ⟨cd, hc, hm⟩ := Option.map_eq_some_iff.mp (k_mro w.params)
  obtain ⟨pre, post, rfl, hh⟩ := R.split
  have nd := H.nd
  rw [List.map_append, List.map_cons] at nd
  have nd2 := List.nodup_append.mp nd
  have h1 : ∀ p ∈ pre, p.1 ≠ x := fun p hp e => nd2.2.2 _ (List.mem_map_of_mem hp) _ (List.mem_cons_self) e
  have h2 : ∀ p ∈ post, p.1 ≠ x := fun p hp e => (List.nodup_cons.mp nd2.2.1).1 (List.mem_map.mpr ⟨p, hp, e⟩)
  refine set_plain X' I (k_setattr _) ?_
  have SF := PySem.F.store_object
  have I' : InstAt ({ s with toks := s.toks + 1 } : Shared).heap x ox 225 od := I
  have sub : Looks (model prog w) s.heap (isInstance (.ref x) (.type "object")) true := I.type.andThen (looks_mroIn X' (k_mro_obj _))
  refine codeAny_call_builtin SF.slot.plain SF.entry (@check_slot (model prog w) _ _ { s with toks := s.toks + 1 } "object.__setattr__" "object" "__setattr__" (.ref x) [.str "_list" s.toks, v] [] _ SF.kind SF.split sub (SF.args (.ref x) (.str "_list" s.toks) v) ?_)
  have hmL : Looks (model prog w) s.heap (mroOf (.ref 225)) cd.mro := (looks_clsIn X' hc).andThen .now
  have L3 : Looks (model prog w) s.heap (storeTaker? (some (.ref 226))) (some (.ref 226)) := (looks_takesIn X' (k_list_takes _)).andThen .now
  rw [osa_eq, refuse_eq]
  refine wpAny_bind (wpAny_bind (I'.type.here (wpAny_bind (hmL _ _ _ _ (fun _ _ e => e) ?_))))
  rw [hm, refuseLoop_ref, refuse225]
  refine wpAny_pure (wpAny_bind (I'.type.here (wpAny_bind (looks_findIn X' (k_list _) _ _ _ _ (fun _ _ e => e) (wpAny_bind (L3 _ _ _ _ (fun _ _ e => e) ?_))))))
  dsimp only
  refine wpAny_bind (wpAny_rule (wpAny_bind (wpAny_holding (wpAny_bind (wpAny_bind (looks_typeIn X' (k_list_type _) _ _ _ _ (fun _ _ e => e) ((Looks.of_pure KF.slot_mset.lookup).here (wpAny_holding ?_))))))))
  rw [KF.slot_mset.bind]
  refine wpAny_bind (wpAny_pure (wpAny_bind (wpAny_call ?_)))
  refine slot_set (s := { s with toks := s.toks + 1 }) H.fr H.nw X' I (k_list_slot _) (by decide) h1 h2 e hf fun h' F' N' => ?_
  refine wpAny_pure (wpAny_pure ?_)
  refine h _ ?_
  rw [hh]
  exact ⟨F', N', by rw [List.map_append, List.map_cons]; exact nd, H.gens, H.os⟩
theorem method_S {pl : Sem Bool} {Q : Value × List Value → Shared → Prop} {f : Addr} (X : (KK w.params).In s.heap) (I : InstAt s.heap x ox 225 (some dictO0))
    (hf : findIn (KK w.params) (.ref 225) name = some (some (.ref f))) (ht : typeIn (KK w.params) (.ref f) = some (.type "function")) (h : Q (.ref f, [.ref x]) s) :
    wpAny (model prog w) A (getMethod (.ref x) name pl) Q E s := by
  have hcan : Manifest.canonical "set.__getattribute__" = "object.__getattribute__" := by decide +kernel
  unfold getMethod specialOf
  refine wpAny_bind (wpAny_bind (I.type.here ((looks_findIn X (k_ga _)).here ?_)))
  dsimp only
  rw [hcan, if_neg (by decide)]
  refine wpAny_bind (wpAny_bind (I.type.here ((looks_findIn X (k_gattr _)).here ?_)))
  refine wpAny_bind (wpAny_bind (I.type.here ((looks_findIn X hf).here (wpAny_bind ((looks_typeIn X ht).here ?_)))))
  rw [if_neg (by decide +kernel)]
  refine wpAny_bind (wpAny_loadPart I.at_ ?_)
  have hd := I.dict
  cases e : ox.dict with
  | none => rw [e] at hd; exact hd.elim
  | some dx =>
    rw [e] at hd
    dsimp only at hd ⊢
    refine wpAny_bind (wpAny_bind (wpAny_loadPart hd ?_))
    exact wpAny_pure (wpAny_bind (wpAny_rule (wpAny_pure h)))
end
end
section
set_option Elab.async false
inductive All2 {α β : Type} (R : α → β → Prop) : List α → List β → Prop
  | nil : All2 R [] []
  | cons {a b l m} : R a b → All2 R l m → All2 R (a :: l) (b :: m)
namespace All2
variable {α β : Type} {R S : α → β → Prop}
theorem length {l : List α} {m : List β} (x : All2 R l m) : l.length = m.length := by
  induction x with
  | nil => rfl
  | cons _ _ ih => simp [ih]
theorem imp {l : List α} {m : List β} (h : ∀ a b, R a b → S a b) (x : All2 R l m) : All2 S l m := by
  induction x with
  | nil => exact .nil
  | cons a _ ih => exact .cons (h _ _ a) ih
theorem mem_imp {l : List α} {m : List β} (x : All2 R l m) (h : ∀ a ∈ l, ∀ b ∈ m, R a b → S a b) : All2 S l m := by
  induction x with
  | nil => exact .nil
  | cons a _ ih => exact .cons (h _ (.head _) _ (.head _) a) (ih fun a ha b hb => h a (.tail _ ha) b (.tail _ hb))
theorem app {l l' : List α} {m m' : List β} (x : All2 R l m) (y : All2 R l' m') : All2 R (l ++ l') (m ++ m') := by
  induction x with
  | nil => exact y
  | cons a _ ih => exact .cons a ih
theorem append_inv {l l' : List α} {m : List β} (x : All2 R (l ++ l') m) : ∃ m₁ m₂, m = m₁ ++ m₂ ∧ All2 R l m₁ ∧ All2 R l' m₂ := by
  induction l generalizing m with
  | nil => exact ⟨[], m, rfl, .nil, x⟩
  | cons a l ih =>
    cases x with
    | cons h y => obtain ⟨m₁, m₂, rfl, y1, y2⟩ := ih y; exact ⟨_ :: m₁, m₂, rfl, .cons h y1, y2⟩
theorem append_inv' {l : List α} {m m' : List β} (x : All2 R l (m ++ m')) : ∃ l₁ l₂, l = l₁ ++ l₂ ∧ All2 R l₁ m ∧ All2 R l₂ m' := by
  induction m generalizing l with
  | nil => exact ⟨[], l, rfl, .nil, x⟩
  | cons a m ih =>
    cases x with
    | cons h y => obtain ⟨m₁, m₂, rfl, y1, y2⟩ := ih y; exact ⟨_ :: m₁, m₂, rfl, .cons h y1, y2⟩
theorem get {l : List α} {m : List β} (x : All2 R l m) : ∀ {i : Nat} {a : α}, l[i]? = some a → ∃ b, m[i]? = some b ∧ R a b := by
  induction x with
  | nil => intro i a h; simp at h
  | cons h _ ih =>
    intro i a e
    cases i with
    | zero => simp at e; subst e; exact ⟨_, rfl, h⟩
    | succ i => exact ih (by simpa using e)
theorem get' {l : List α} {m : List β} (x : All2 R l m) : ∀ {i : Nat} {b : β}, m[i]? = some b → ∃ a, l[i]? = some a ∧ R a b := by
  induction x with
  | nil => intro i a h; simp at h
  | cons h _ ih =>
    intro i a e
    cases i with
    | zero => simp at e; subst e; exact ⟨_, rfl, h⟩
    | succ i => exact ih (by simpa using e)
theorem left {l : List α} {m : List β} (x : All2 R l m) : ∀ {a : α}, a ∈ l → ∃ b ∈ m, R a b := by
  induction x with
  | nil => intro a h; cases h
  | cons h _ ih =>
    intro a e
    rcases List.mem_cons.mp e with rfl | e
    · exact ⟨_, .head _, h⟩
    · obtain ⟨b, hb, r⟩ := ih e; exact ⟨b, .tail _ hb, r⟩
theorem right {l : List α} {m : List β} (x : All2 R l m) : ∀ {b : β}, b ∈ m → ∃ a ∈ l, R a b := by
  induction x with
  | nil => intro a h; cases h
  | cons h _ ih =>
    intro a e
    rcases List.mem_cons.mp e with rfl | e
    · exact ⟨_, .head _, h⟩
    · obtain ⟨b, hb, r⟩ := ih e; exact ⟨b, .tail _ hb, r⟩
theorem perm {l l' : List α} {m : List β} (x : All2 R l m) (p : l.Perm l') : ∃ m', All2 R l' m' ∧ m.Perm m' := by
  induction p generalizing m with
  | nil => exact ⟨m, x, .refl _⟩
  | cons a _ ih => cases x with | cons h y => obtain ⟨m', z, q⟩ := ih y; exact ⟨_ :: m', .cons h z, q.cons _⟩
  | swap a b l => cases x with | cons h y => cases y with | cons h' z => exact ⟨_ :: _ :: _, .cons h' (.cons h z), .swap _ _ _⟩
  | trans _ _ ih1 ih2 => obtain ⟨m1, z, q⟩ := ih1 x; obtain ⟨m2, z', q'⟩ := ih2 z; exact ⟨m2, z', q.trans q'⟩
theorem filter {p : α → Bool} {q : β → Bool} {l : List α} {m : List β} (x : All2 R l m) (h : ∀ a b, R a b → p a = q b) : All2 R (l.filter p) (m.filter q) := by
  induction x with
  | nil => exact .nil
  | cons r _ ih =>
    rw [List.filter_cons, List.filter_cons, h _ _ r]
    split
    · exact .cons r ih
    · exact ih
theorem take {l : List α} {m : List β} (x : All2 R l m) : ∀ n, All2 R (l.take n) (m.take n) := by
  induction x with
  | nil => intro n; simp; exact .nil
  | cons r _ ih => intro n; cases n with
    | zero => exact .nil
    | succ n => exact .cons r (ih n)
theorem drop {l : List α} {m : List β} (x : All2 R l m) : ∀ n, All2 R (l.drop n) (m.drop n) := by
  induction x with
  | nil => intro n; simp; exact .nil
  | cons r y ih => intro n; cases n with
    | zero => exact .cons r y
    | succ n => exact ih n
theorem eraseIdx {l : List α} {m : List β} (x : All2 R l m) : ∀ n, All2 R (l.eraseIdx n) (m.eraseIdx n) := by
  induction x with
  | nil => intro n; simp; exact .nil
  | cons r y ih => intro n; cases n with
    | zero => exact y
    | succ n => exact .cons r (ih n)
theorem set {l : List α} {m : List β} (x : All2 R l m) : ∀ {n a b}, R a b → All2 R (l.set n a) (m.set n b) := by
  induction x with
  | nil => intro n a b _; exact .nil
  | cons r y ih => intro n a b h; cases n with
    | zero => exact .cons h y
    | succ n => exact .cons r (ih h)
theorem map_eq {f : α → β} {l : List α} {m : List β} (x : All2 (fun a b => f a = b) l m) : l.map f = m := by
  induction x with
  | nil => rfl
  | cons h _ ih => rw [List.map_cons, h, ih]
theorem of_map (f : α → β) (h : ∀ a, R a (f a)) : ∀ l : List α, All2 R l (l.map f)
  | [] => .nil
  | a :: l => .cons (h a) (of_map f h l)
end All2
end
section
open PySem PySem.W PyProof.Rows PySem.Calls Builtin
set_option Elab.async false
set_option maxRecDepth 100000
structure Fx (s s' : Shared) (as : List Addr) : Prop where
  keep : ∀ b o, s.heap.get? b = some o → b ∉ as → s'.heap.get? b = some o
  gens : s'.gens = s.gens
  os : s'.os = s.os
theorem Fx.refl (s : Shared) (as : List Addr) : Fx s s as := ⟨fun _ _ e _ => e, rfl, rfl⟩
theorem Fx.trans {s s' s'' : Shared} {as : List Addr} (x : Fx s s' as) (y : Fx s' s'' as) : Fx s s'' as := ⟨fun b o e n => y.keep b o (x.keep b o e n) n, y.gens.trans x.gens, y.os.trans x.os⟩
theorem Fx.mono {s s' : Shared} {as bs : List Addr} (x : Fx s s' as) (h : ∀ a ∈ as, a ∈ bs) : Fx s s' bs := ⟨fun b o e n => x.keep b o e fun m => n (h _ m), x.gens, x.os⟩
theorem Fx.of_keeps {s s' : Shared} (x : Keeps s s') (as : List Addr) : Fx s s' as := by
  obtain ⟨h', tk, rfl, k⟩ := x; exact ⟨fun b o e _ => k b o e, rfl, rfl⟩
theorem kp_self (s : Shared) : Keeps s s := ⟨s.heap, s.toks, rfl, fun _ _ e => e⟩
theorem kp_tok (s : Shared) (t : Nat) : Keeps s { s with toks := t } := ⟨s.heap, t, rfl, fun _ _ e => e⟩
theorem kp_tr {s s' s'' : Shared} (x : Keeps s s') (y : Keeps s' s'') : Keeps s s'' := by
  obtain ⟨h', tk, rfl, k⟩ := x; obtain ⟨h'', tk', rfl, k'⟩ := y
  exact ⟨h'', tk', rfl, fun b o e => k' _ _ (k _ _ e)⟩
theorem kp_get {s s' : Shared} (x : Keeps s s') {b : Addr} {o : Obj} (e : s.heap.get? b = some o) : s'.heap.get? b = some o := by
  obtain ⟨h', tk, rfl, k⟩ := x; exact k _ _ e
structure AOk (A : Around) : Prop where
  units : A.units + 200 < cLine
  room : A.depth + 5 < recursionLimit
theorem AOk.in1 {A : Around} (h : A.units + 201 < cLine) (hr : A.depth + 5 < recursionLimit) : AOk A.in1 := ⟨by show A.units + 1 + 200 < _; omega, hr⟩
def TupKept (h h' : Heap) : Prop := ∀ b o, h.get? b = some o → o.cls = .type "tuple" → (∃ ys n, o.data = .seq ys n) → h'.get? b = some o
theorem TupKept.refl (h : Heap) : TupKept h h := fun _ _ e _ _ => e
theorem TupKept.trans {h h' h'' : Heap} (x : TupKept h h') (y : TupKept h' h'') : TupKept h h'' := fun b o e c n => y b o (x b o e c n) c n
theorem TupKept.of {h h' : Heap} (k : ∀ b o, h.get? b = some o → h'.get? b = some o) : TupKept h h' := fun b o e _ _ => k b o e
theorem Fx.tup {s s' : Shared} {as : List Addr} (x : Fx s s' as) (h : ∀ a ∈ as, ∃ o, s.heap.get? a = some o ∧ o.cls ≠ .type "tuple") : TupKept s.heap s'.heap := fun b o e c _ => x.keep b o e fun m => by
  obtain ⟨o', e', n⟩ := h b m
  rw [e] at e'; cases e'; exact n c
theorem Fx.tup1 {s s' : Shared} {a : Addr} {o : Obj} (x : Fx s s' [a]) (e : s.heap.get? a = some o) (n : o.cls ≠ .type "tuple") : TupKept s.heap s'.heap := x.tup fun b hb => by
  rw [List.mem_singleton.mp hb]; exact ⟨o, e, n⟩
structure EK (prog : Program) (w : World) (κ : Type) [DecidableEq κ] where
  is : Heap → κ → Value → Prop
  hash : κ → Int
  univ : List κ
  univ_len : univ.length ≤ 12
  mem : ∀ {h k v}, is h k v → k ∈ univ
  mono : ∀ {h h' k v}, TupKept h h' → is h k v → is h' k v
  inj : ∀ {h v a b}, is h a v → is h b v → a = b
  pyHash : ∀ {A : Around} {E : Value → Shared → Prop} {s : Shared} {k v} {Q : Int → Shared → Prop}, AOk A → is s.heap k v → (∀ s', Keeps s s' → Q (hash k) s') → wpAny (model prog w) A (PySem.pyHash v) Q E s
  eqBool : ∀ {A : Around} {E : Value → Shared → Prop} {s : Shared} {a b u v} {Q : Bool → Shared → Prop}, AOk A → is s.heap a u → is s.heap b v → (∀ s', Keeps s s' → Q (decide (a = b)) s') → wpAny (model prog w) A (PySem.eqBool u v) Q E s
  dictFind : ∀ {A : Around} {E : Value → Shared → Prop} {s : Shared} {d : Addr} {o : Obj} {es : Array DictEntry} {ep : Nat} {ks : List κ} {k v} {Q : Option Nat → Shared → Prop}, AOk A → s.heap.get? d = some o → o.data = .dict es ep →
    All2 (fun e k => e.hash = hash k ∧ is s.heap k e.key) es.toList ks → ks.Nodup → is s.heap k v → (∀ s' r, Keeps s s' → (match r with | some i => ks[i]? = some k | none => k ∉ ks) → Q r s') → wpAny (model prog w) A (PySem.dictFind d v (hash k)) Q E s
  special : ∀ {h k b}, is h k (.ref b) → ∃ r, Looks (model prog w) h (specialOf (.ref b) "__eq__") r
section
variable {prog : Program} {w : World} {κ : Type} [DecidableEq κ] (ek : EK prog w κ)
def EK.All (h : Heap) (vs : List Value) (ks : List κ) : Prop := All2 (fun v k => ek.is h k v) vs ks
def EK.Ents (h : Heap) (es : List (Int × Value)) (ks : List κ) : Prop := All2 (fun e k => e.1 = ek.hash k ∧ ek.is h k e.2) es ks
def SetIs (TT : Array (Int × Value) → SetTable → Prop) (h : Heap) (es : Array (Int × Value)) (t : SetTable) (ks : List κ) : Prop :=
  ∃ ks', ek.Ents h es.toList ks' ∧ ks'.Perm ks ∧ ks.Nodup ∧ TT es t ∧ (w.params.followText "set-order" = false → t.led = true)
structure SetTh where
  TT : Array (Int × Value) → SetTable → Prop
  fits : ∀ {es t}, TT es t → t.fits es.size = true
  flags : ∀ {es t t'}, TT es t → t'.mask = t.mask → t'.place = t.place → t'.dummies = t.dummies → TT es t'
  fresh : ∀ f m l, TT #[] (SetTable.fresh f m l)
  drop : ∀ {es t i}, TT es t → i < es.size → TT (SetTable.eraseAt es i) (t.drop i)
  relaid : ∀ {es t wanted}, TT es t → es.size ≤ 12 → es.size ≤ wanted → wanted ≤ 64 →
    ∃ t' order, t.relaid (es.map (·.1)) wanted = some (t', order) ∧ (order.filterMap (es[·]?)).toList.Perm es.toList ∧ TT (order.filterMap (es[·]?)) t' ∧ t'.led = t.led
  laid : ∀ {es0 t} {es : Array (Int × Value)} {fi mo le pl}, TT es0 t → t.fill = 0 → es.size ≤ 12 → t.roomFor es.size = none →
    ∃ t' order, SetTable.laid t.mask fi mo le pl (es.map (·.1)) = some (t', order) ∧ (order.filterMap (es[·]?)).toList.Perm es.toList ∧ TT (order.filterMap (es[·]?)) t' ∧ t'.led = le
  find : ∀ {A : Around} {E : Value → Shared → Prop} {s : Shared} {a o es n t ks k x} {Q : Option Nat → Shared → Prop}, AOk A → s.heap.get? a = some o → o.data = .set es n t → SetIs ek TT s.heap es t ks → ek.is s.heap k x →
    (∀ s' r, Keeps s s' → (match r with | some i => ∃ e, es[i]? = some e ∧ ek.is s.heap k e.2 | none => k ∉ ks) → Q r s') → wpAny (model prog w) A (setFind a x (ek.hash k)) Q E s
  add : ∀ {A : Around} {E : Value → Shared → Prop} {s : Shared} {a o es n t ks k x} {Q : Bool → Shared → Prop}, AOk A → s.heap.get? a = some o → o.cls ≠ .type "tuple" → o.data = .set es n t → SetIs ek TT s.heap es t ks → ek.is s.heap k x →
    (∀ s' es' n' t', Fx s s' [a] → s'.heap.get? a = some { o with data := .set es' n' t' } → SetIs ek TT s'.heap es' t' (if k ∈ ks then ks else ks ++ [k]) → Q (decide (k ∉ ks)) s') → wpAny (model prog w) A (setAddHashed a x (ek.hash k)) Q E s
variable {ek}
theorem EK.All.length {h : Heap} {vs : List Value} {ks : List κ} (x : ek.All h vs ks) : vs.length = ks.length := All2.length x
theorem EK.All.mono {h h' : Heap} {vs : List Value} {ks : List κ} (t : TupKept h h') (x : ek.All h vs ks) : ek.All h' vs ks := by
  induction x with
  | nil => exact .nil
  | cons a _ ih => exact .cons (ek.mono t a) ih
theorem EK.Ents.mono {h h' : Heap} {es : List (Int × Value)} {ks : List κ} (t : TupKept h h') (x : ek.Ents h es ks) : ek.Ents h' es ks := by
  induction x with
  | nil => exact .nil
  | cons a _ ih => exact .cons ⟨a.1, ek.mono t a.2⟩ ih
theorem EK.Ents.length {h : Heap} {es : List (Int × Value)} {ks : List κ} (x : ek.Ents h es ks) : es.length = ks.length := All2.length x
theorem EK.Ents.subset {h : Heap} {es : List (Int × Value)} {ks : List κ} (x : ek.Ents h es ks) : ∀ k ∈ ks, k ∈ ek.univ := by
  induction x with
  | nil => intro k hk; cases hk
  | cons a _ ih =>
    intro k hk
    rcases List.mem_cons.mp hk with rfl | hk
    · exact ek.mem a.2
    · exact ih k hk
theorem EK.All.subset {h : Heap} {vs : List Value} {ks : List κ} (x : ek.All h vs ks) : ∀ k ∈ ks, k ∈ ek.univ := by
  induction x with
  | nil => intro k hk; cases hk
  | cons a _ ih =>
    intro k hk
    rcases List.mem_cons.mp hk with rfl | hk
    · exact ek.mem a
    · exact ih k hk
theorem EK.small {ks : List κ} (nd : ks.Nodup) (h : ∀ k ∈ ks, k ∈ ek.univ) : ks.length ≤ 12 :=
  Nat.le_trans (List.Nodup.length_le_of_subset nd h) ek.univ_len
end
end
section
open PySem PySem.W PyProof.Rows PySem.Calls Builtin
set_option Elab.async false
set_option maxRecDepth 100000
section
variable {prog : Program} {w : World} {κ : Type} [DecidableEq κ] {ek : EK prog w κ} {TT : Array (Int × Value) → SetTable → Prop} {th : SetTh ek}
  {A : Around} {E : Value → Shared → Prop} {s : Shared} {a : Addr} {o : Obj} {es : Array (Int × Value)} {n : Nat} {t : SetTable} {ks : List κ} {k : κ} {x : Value}
theorem SetIs.mono {h h' : Heap} (x : SetIs ek TT h es t ks) (k : TupKept h h') : SetIs ek TT h' es t ks := by
  obtain ⟨ks', a, b, c, d, e⟩ := x; exact ⟨ks', a.mono k, b, c, d, e⟩
theorem SetIs.nodup {h : Heap} (x : SetIs ek TT h es t ks) : ks.Nodup := by obtain ⟨_, _, _, c, _⟩ := x; exact c
theorem SetIs.tt {h : Heap} (x : SetIs ek TT h es t ks) : TT es t := by obtain ⟨_, _, _, _, d, _⟩ := x; exact d
theorem SetIs.led {h : Heap} (x : SetIs ek TT h es t ks) : w.params.followText "set-order" = false → t.led = true := by obtain ⟨_, _, _, _, _, e⟩ := x; exact e
theorem SetIs.size {h : Heap} (x : SetIs ek TT h es t ks) : es.size = ks.length := by
  obtain ⟨ks', a, b, _⟩ := x; rw [← Array.length_toList, a.length, b.length_eq]
theorem SetIs.univ {h : Heap} (x : SetIs ek TT h es t ks) : ∀ k ∈ ks, k ∈ ek.univ := by
  obtain ⟨ks', a, b, _⟩ := x; exact fun k hk => a.subset k (b.mem_iff.mpr hk)
theorem SetIs.small {h : Heap} (x : SetIs ek TT h es t ks) : ks.length ≤ 12 := EK.small (ek := ek) x.nodup x.univ
theorem SetIs.perm {h : Heap} {ks' : List κ} (x : SetIs ek TT h es t ks) (p : ks.Perm ks') : SetIs ek TT h es t ks' := by
  obtain ⟨l, a, b, c, d, e⟩ := x; exact ⟨l, a, b.trans p, p.nodup_iff.mp c, d, e⟩
theorem SetIs.flags {h : Heap} {t' : SetTable} (x : SetIs ek th.TT h es t ks) (h1 : t'.mask = t.mask) (h2 : t'.place = t.place) (h3 : t'.dummies = t.dummies) (h4 : w.params.followText "set-order" = false → t'.led = true) :
    SetIs ek th.TT h es t' ks := by
  obtain ⟨l, a, b, c, d, _⟩ := x; exact ⟨l, a, b, c, th.flags d h1 h2 h3, h4⟩
theorem SetIs.key {h : Heap} (x : SetIs ek TT h es t ks) {e : Int × Value} (he : e ∈ es.toList) : ∃ k ∈ ks, e.1 = ek.hash k ∧ ek.is h k e.2 := by
  obtain ⟨l, a, b, _⟩ := x
  obtain ⟨k, hk, r⟩ := a.left he
  exact ⟨k, b.mem_iff.mp hk, r⟩
theorem SetIs.of_es_perm {h : Heap} {es' : Array (Int × Value)} {t' : SetTable} (x : SetIs ek TT h es t ks) (p : es'.toList.Perm es.toList) (d' : TT es' t') (h4 : w.params.followText "set-order" = false → t'.led = true) : SetIs ek TT h es' t' ks := by
  obtain ⟨l, a, b, c, _, _⟩ := x
  obtain ⟨l', z, q⟩ := All2.perm a p.symm
  exact ⟨l', z, q.symm.trans b, c, d', h4⟩
theorem st_state {Q : (Array (Int × Value) × Nat × SetTable) → Shared → Prop} (ho : s.heap.get? a = some o) (hd : o.data = .set es n t) (hf : t.fits es.size = true) (h : Q (es, n, t) s) :
    wpAny (model prog w) A (setState a) Q E s := wpAny_setState_of ho hd hf h
theorem st_entries {Q : Array (Int × Value) → Shared → Prop} (ho : s.heap.get? a = some o) (hd : o.data = .set es n t) (hf : t.fits es.size = true) (h : Q es s) :
    wpAny (model prog w) A (setEntries a) Q E s := wpAny_setEntries_of ho hd hf h
theorem st_epoch {Q : Nat → Shared → Prop} (ho : s.heap.get? a = some o) (hd : o.data = .set es n t) (hf : t.fits es.size = true) (h : Q n s) :
    wpAny (model prog w) A (setEpoch a) Q E s := wpAny_setEpoch_of ho hd hf h
theorem st_size {Q : Nat → Shared → Prop} (ho : s.heap.get? a = some o) (hd : o.data = .set es n t) (hf : t.fits es.size = true) (h : Q es.size s) :
    wpAny (model prog w) A (Frozenset.sizeOf a) Q E s := wpAny_bind (st_entries ho hd hf (wpAny_pure h))
theorem st_contains {Q : Bool → Shared → Prop} (hA : AOk A) (ho : s.heap.get? a = some o) (hd : o.data = .set es n t) (hS : SetIs ek th.TT s.heap es t ks) (hk : ek.is s.heap k x)
    (h : ∀ s', Keeps s s' → Q (decide (k ∈ ks)) s') : wpAny (model prog w) A (setContains a x) Q E s := by
  unfold setContains
  refine wpAny_holding (wpAny_bind (ek.pyHash hA hk fun s₁ K₁ => ?_))
  have tk : TupKept s.heap s₁.heap := .of fun b o e => kp_get K₁ e
  refine wpAny_bind (th.find hA (kp_get K₁ ho) hd (hS.mono tk) (ek.mono tk hk) fun s₂ r K₂ hr => wpAny_pure ?_)
  have hk' := ek.mono tk hk
  have e : r.isSome = decide (k ∈ ks) := by
    cases r with
    | none => simpa using hr
    | some i =>
      obtain ⟨e, he, hi⟩ := hr
      have he' : e ∈ es.toList := by rw [← Array.getElem?_toList] at he; exact List.mem_of_getElem? he
      obtain ⟨k', hk1, _, h2⟩ := (hS.mono tk).key he'
      rw [ek.inj hi h2]; simpa using hk1
  rw [e]
  exact h s₂ (kp_tr K₁ K₂)
theorem st_add {Q : Bool → Shared → Prop} (hA : AOk A) (ho : s.heap.get? a = some o) (hc : o.cls ≠ .type "tuple") (hd : o.data = .set es n t) (hS : SetIs ek th.TT s.heap es t ks) (hk : ek.is s.heap k x)
    (h : ∀ s' es' n' t', Fx s s' [a] → s'.heap.get? a = some { o with data := .set es' n' t' } → SetIs ek th.TT s'.heap es' t' (if k ∈ ks then ks else ks ++ [k]) → Q (decide (k ∉ ks)) s') : wpAny (model prog w) A (setAdd a x) Q E s := by
  unfold setAdd
  refine wpAny_holding (wpAny_bind (ek.pyHash hA hk fun s₁ K₁ => ?_))
  have tk : TupKept s.heap s₁.heap := .of fun b o e => kp_get K₁ e
  exact th.add hA (kp_get K₁ ho) hc hd (hS.mono tk) (ek.mono tk hk) fun s' es' n' t' f e i => h s' es' n' t' ((Fx.of_keeps K₁ _).trans f) e i
theorem eraseIdx_filter {l : List κ} (nd : l.Nodup) : ∀ {i : Nat}, l[i]? = some k → l.eraseIdx i = l.filter (fun y => decide (y ≠ k)) := by
  induction l with
  | nil => intro i e; simp at e
  | cons y l ih =>
    intro i e
    have nd' := List.nodup_cons.mp nd
    cases i with
    | zero =>
      simp at e; subst e
      rw [List.eraseIdx_cons_zero, List.filter_cons]
      simp only [ne_eq, not_true, decide_false, Bool.false_eq_true, if_false]
      rw [List.filter_eq_self.mpr]
      intro z hz
      simp only [decide_eq_true_eq]
      exact fun q => nd'.1 (q ▸ hz)
    | succ i =>
      simp only [List.getElem?_cons_succ] at e
      rw [List.eraseIdx_cons_succ, ih nd'.2 e, List.filter_cons]
      rw [if_pos]
      simp only [decide_eq_true_eq]
      exact fun q => nd'.1 (q ▸ List.mem_of_getElem? e)
theorem toList_eraseAt {α : Type} (xs : Array α) (i : Nat) : (SetTable.eraseAt xs i).toList = xs.toList.eraseIdx i := by
  unfold SetTable.eraseAt
  simp only [Array.toList_append, Array.toList_extract, List.extract_eq_take_drop, List.eraseIdx_eq_take_drop_succ]
  simp
  rw [List.take_of_length_le (by simp)]
theorem st_store {es' : Array (Int × Value)} {t' : SetTable} {Q : Unit → Shared → Prop} (ho : s.heap.get? a = some o) (hd : o.data = .set es n t) (hz : es'.size ≤ sizeLine)
    (h : ∀ s', Fx s s' [a] → s'.heap.get? a = some { o with data := .set es' (n + 1) t' } → s'.drawn = s.drawn → Q () s') : wpAny (model prog w) A (storeSet a es' t') Q E s := by
  refine wpAny_storeSet_of ho hd (h _ ⟨fun b o' e nb => ?_, rfl, rfl⟩ ?_ rfl) hz
  · exact (Heap.get?_update_other _ _ fun q => nb (List.mem_singleton.mpr q.symm)).trans e
  · have := Heap.get?_update_self (Obj.putSet es' t') ho (by rw [putSet_of es' t' hd]; rfl)
    rw [putSet_of es' t' hd] at this; exact this
theorem line12 {m : Nat} (h : m ≤ 12) : m ≤ sizeLine := by rw [sizeLine_eq]; omega
theorem st_discardHashed {Q : Bool → Shared → Prop} (hA : AOk A) (ho : s.heap.get? a = some o) (hc : o.cls ≠ .type "tuple") (hd : o.data = .set es n t) (hS : SetIs ek th.TT s.heap es t ks) (hk : ek.is s.heap k x)
    (h : ∀ s' es' n' t', Fx s s' [a] → s'.heap.get? a = some { o with data := .set es' n' t' } → SetIs ek th.TT s'.heap es' t' (ks.filter fun y => decide (y ≠ k)) → Q (decide (k ∈ ks)) s') :
    wpAny (model prog w) A (setDiscardHashed a x (ek.hash k)) Q E s := by
  unfold setDiscardHashed
  refine wpAny_bind (th.find hA ho hd hS hk fun s₁ r K₁ hr => ?_)
  have tk : TupKept s.heap s₁.heap := .of fun b o e => kp_get K₁ e
  cases r with
  | none =>
    refine wpAny_pure ?_
    rw [show (false : Bool) = decide (k ∈ ks) from by simpa using hr]
    have : (ks.filter fun y => decide (y ≠ k)) = ks := List.filter_eq_self.mpr fun y hy => by simp only [decide_eq_true_eq]; exact fun q => hr (q ▸ hy)
    refine h s₁ es n t (Fx.of_keeps K₁ _) ?_ ?_
    · rw [kp_get K₁ ho, ← hd]
    · rw [this]; exact hS.mono tk
  | some i =>
    obtain ⟨e, he, hi⟩ := hr
    have hi' : i < es.size := (Array.getElem?_eq_some_iff.mp he).1
    dsimp only
    refine wpAny_bind (st_state (kp_get K₁ ho) hd (th.fits hS.tt) ?_)
    obtain ⟨l, hl, hp, nd, ht, hled⟩ := hS
    have hsz : (SetTable.eraseAt es i).size ≤ 12 := by
      rw [← Array.length_toList, toList_eraseAt]
      have := List.length_eraseIdx_le (l := es.toList) (i := i)
      have h2 := (SetIs.small (ek := ek) (TT := th.TT) ⟨l, hl, hp, nd, ht, hled⟩)
      have h3 := (SetIs.size (ek := ek) (TT := th.TT) ⟨l, hl, hp, nd, ht, hled⟩)
      have h4 : es.toList.length = es.size := Array.length_toList
      omega
    refine wpAny_bind (st_store (kp_get K₁ ho) hd (line12 hsz) fun s₂ F₂ e₂ _ => wpAny_bind (wpAny_point (wpAny_pure ?_)))
    have tk2 : TupKept s₁.heap s₂.heap := F₂.tup1 (kp_get K₁ ho) hc
    have hli : l[i]? = some k := by
      rw [← Array.getElem?_toList] at he
      obtain ⟨k', e1, _, e3⟩ := All2.get hl he
      rw [e1, ek.inj hi e3]
    have hkm : k ∈ ks := hp.mem_iff.mp (List.mem_of_getElem? hli)
    rw [show (true : Bool) = decide (k ∈ ks) from by simpa using hkm]
    refine h s₂ _ _ _ ((Fx.of_keeps K₁ _).trans F₂) e₂ ⟨l.eraseIdx i, ?_, ?_, nd.filter _, th.drop ht hi', fun hq => ?_⟩
    · show All2 _ _ _
      rw [toList_eraseAt]
      exact (All2.eraseIdx (EK.Ents.mono (tk.trans tk2) hl) i)
    · rw [eraseIdx_filter (hp.nodup_iff.mpr nd) hli]; exact hp.filter _
    · have := hled hq
      unfold SetTable.drop
      split <;> exact this
theorem st_discard {Q : Bool → Shared → Prop} (hA : AOk A) (ho : s.heap.get? a = some o) (hc : o.cls ≠ .type "tuple") (hd : o.data = .set es n t) (hS : SetIs ek th.TT s.heap es t ks) (hk : ek.is s.heap k x)
    (h : ∀ s' es' n' t', Fx s s' [a] → s'.heap.get? a = some { o with data := .set es' n' t' } → SetIs ek th.TT s'.heap es' t' (ks.filter fun y => decide (y ≠ k)) → Q (decide (k ∈ ks)) s') :
    wpAny (model prog w) A (setDiscard a x) Q E s := by
  unfold setDiscard
  refine wpAny_holding (wpAny_bind (ek.pyHash hA hk fun s₁ K₁ => ?_))
  have tk : TupKept s.heap s₁.heap := .of fun b o e => kp_get K₁ e
  exact st_discardHashed hA (kp_get K₁ ho) hc hd (hS.mono tk) (ek.mono tk hk) fun s' es' n' t' f e i => h s' es' n' t' ((Fx.of_keeps K₁ _).trans f) e i
end
end
section
open PySem PySem.W PyProof.Rows PySem.Calls Builtin
set_option Elab.async false
set_option maxRecDepth 100000
theorem eraseIdx_perm {α : Type} {l : List α} : ∀ {i : Nat} {x : α}, l[i]? = some x → (x :: l.eraseIdx i).Perm l := by
  induction l with
  | nil => intro i x e; simp at e
  | cons y l ih =>
    intro i x e
    cases i with
    | zero => simp at e; subst e; exact .refl _
    | succ i => exact (List.Perm.swap y x _).trans ((ih (by simpa using e)).cons y)
theorem pickOrder_perm {α : Type} (next : Nat → Nat) (xs : Array α) : (pickOrder next xs).toList.Perm xs.toList := by
  have go : ∀ (fuel k : Nat) (left : List α) (out : Array α), fuel = left.length → (pickOrder.go next fuel k left out).toList.Perm (out.toList ++ left) := by
    intro fuel
    induction fuel with
    | zero =>
      intro k left out e
      have : left = [] := List.length_eq_zero_iff.mp e.symm
      subst this
      simp [pickOrder.go]
    | succ fuel ih =>
      intro k left out e
      have hlt : next k % left.length < left.length := Nat.mod_lt _ (by omega)
      unfold pickOrder.go
      rw [List.getElem?_eq_getElem hlt]
      dsimp only
      refine (ih _ _ _ ?_).trans ?_
      · rw [List.length_eraseIdx_of_lt hlt]; omega
      · rw [Array.toList_push, List.append_assoc]
        exact List.Perm.append_left _ (eraseIdx_perm (List.getElem?_eq_getElem hlt))
  have := go xs.size 0 xs.toList #[] (by simp)
  simpa [pickOrder] using this
section
variable {prog : Program} {w : World} {κ : Type} [DecidableEq κ] {ek : EK prog w κ} {TT : Array (Int × Value) → SetTable → Prop} {th : SetTh ek}
  {A : Around} {E : Value → Shared → Prop} {s : Shared} {a : Addr} {o : Obj} {es : Array (Int × Value)} {n : Nat} {t : SetTable} {ks : List κ} {k : κ} {x : Value}
theorem wp_choose {src : Source} {n : Nat} {Q : Nat → Shared → Prop} (hn : n ≠ 0) (h : ∀ i d, i < n → Q i { s with drawn := d }) : wpAny (model prog w) A (choose src n) Q E s :=
  fun Γ p _ => by
    show Sem.wp _ _ (Sem.choose src n .pure) _ _ _ _
    rw [Sem.wp_choose]
    exact ⟨hn, h _ _ (Nat.mod_lt _ (Nat.pos_of_ne_zero hn))⟩
theorem draw_perm {α : Type} : ∀ (n : Nat) (xs : List α) {s : Shared} {Q : List α → Shared → Prop}, n = xs.length → (∀ ys d, ys.Perm xs → Q ys { s with drawn := d }) → wpAny (model prog w) A (drawOrder n xs) Q E s
  | 0, xs, s, Q, e, h => by
    have : xs = [] := List.length_eq_zero_iff.mp e.symm
    subst this
    exact wpAny_pure (h [] s.drawn (.refl _))
  | n + 1, [], s, Q, e, h => by cases e
  | n + 1, y :: xs, s, Q, e, h => by
    unfold drawOrder
    refine wpAny_bind (wp_choose (by simp) fun i d hi => ?_)
    rw [List.getElem?_eq_getElem hi]
    dsimp only
    refine wpAny_bind (draw_perm n _ (by rw [List.length_eraseIdx_of_lt hi]; simp at e ⊢; omega) fun ys d' hp => wpAny_pure ?_)
    exact h _ d' ((hp.cons _).trans (eraseIdx_perm (List.getElem?_eq_getElem hi)))
theorem st_byText {Q : Bool → Shared → Prop} (h : Q (w.params.followText "set-order") s) : wpAny (model prog w) A setsByText Q E s :=
  wpAny_bind (wpAny_askSetting (wpAny_pure h))
theorem st_mustBeLed {α : Type} {P : Prop} [Decidable P] (hP : ¬ P) {f : Unit → Sem α} {Q : α → Shared → Prop} (h : wpAny (model prog w) A (f ()) Q E s) :
    wpAny (model prog w) A ((if P then unsupported "set:maker-not-led" else pure ()) >>= f) Q E s := by
  rw [if_neg hP]; exact wpAny_bind (wpAny_pure h)
theorem st_walk {Q : Array (Int × Value) → Shared → Prop} (ho : s.heap.get? a = some o) (hd : o.data = .set es n t) (hf : t.fits es.size = true) (hl : w.params.followText "set-order" = false → t.led = true)
    (h : ∀ es' d, es'.toList.Perm es.toList → Q es' { s with drawn := d }) : wpAny (model prog w) A (setWalk a) Q E s := by
  unfold setWalk
  refine wpAny_bind (st_state ho hd hf ?_)
  dsimp only
  refine wpAny_bind (st_byText ?_)
  cases hb : w.params.followText "set-order" with
  | true =>
    simp only [if_true]
    exact wpAny_bind (wpAny_askSetting (wpAny_pure (h _ s.drawn (pickOrder_perm _ _))))
  | false =>
    simp only [Bool.false_eq_true, if_false]
    split
    · refine wpAny_bind (draw_perm _ _ (by simp) fun ys d hp => wpAny_pure ?_)
      exact h _ d (by simpa using hp)
    · show wpAny _ _ ((if (!t.led && decide (es.size > 1)) = true then unsupported "set:maker-not-led" else pure ()) >>= fun _ => pure es) _ _ _
      rw [if_neg (by rw [hl hb]; simp)]
      exact wpAny_bind (wpAny_pure (wpAny_pure (h es s.drawn (.refl _))))
def SetAt (ek : EK prog w κ) (TT : Array (Int × Value) → SetTable → Prop) (h : Heap) (b : Addr) (ks : List κ) : Prop :=
  ∃ o es n t, h.get? b = some o ∧ o.data = .set es n t ∧ SetIs ek TT h es t ks
theorem ents_special {h : Heap} {es : List (Int × Value)} {ks : List κ} (x : ek.Ents h es ks) {e : Int × Value} (he : e ∈ es) {b : Addr} (hb : e.2 = .ref b) : ∃ r, Looks (model prog w) h (specialOf (.ref b) "__eq__") r := by
  obtain ⟨k, _, _, r⟩ := All2.left x he
  rw [hb] at r; exact ek.special r
theorem st_quiet {l : List Addr} {Q : Bool → Shared → Prop} (hl : ∀ b ∈ l, ∃ ks, SetAt ek th.TT s.heap b ks) (h : ∀ b, Q b s) : wpAny (model prog w) A (setsQuiet l) Q E s := by
  unfold setsQuiet
  refine wpAny_bind ?_
  refine wpAny_forIn_list _ (fun rest b s' => s = s' ∧ ∀ x ∈ rest, x ∈ l) _ ?_ ?_ l _ ⟨rfl, fun _ hx => hx⟩
  · rintro b rest st s' ⟨rfl, hm⟩
    obtain ⟨ks, o, es, n, t, ho, hd, hS⟩ := hl b (hm b (.head _))
    refine wpAny_bind (st_entries ho hd (th.fits hS.tt) ?_)
    rw [← Array.forIn_toList]
    refine wpAny_bind ?_
    obtain ⟨ks', hE, _⟩ := hS
    refine wpAny_forIn_list _ (fun rest' b s' => s = s' ∧ ∀ x ∈ rest', x ∈ es.toList) _ ?_ ?_ es.toList _ ⟨rfl, fun _ hx => hx⟩
    · rintro e rest' st s' ⟨rfl, hm'⟩
      obtain ⟨eh, ev⟩ := e
      have he := hm' _ (.head _)
      cases ev with
      | ref b' =>
        obtain ⟨r, hr⟩ := ents_special hE he rfl
        dsimp only
        refine wpAny_bind (hr.here ?_)
        by_cases hq : (r != some (Value.builtin "object.__eq__")) = true
        · rw [if_pos hq]; exact wpAny_pure (wpAny_pure (wpAny_pure (h _)))
        · rw [if_neg hq]; exact wpAny_pure ⟨rfl, fun x hx => hm' x (.tail _ hx)⟩
      | _ => exact wpAny_pure ⟨rfl, fun x hx => hm' x (.tail _ hx)⟩
    · rintro ⟨b, _⟩ s₁ ⟨rfl, _⟩
      cases b with
      | none => exact wpAny_pure ⟨rfl, fun x hx => hm x (.tail _ hx)⟩
      | some r => exact wpAny_pure (wpAny_pure (h _))
  · rintro ⟨b, _⟩ s₁ ⟨rfl, _⟩
    cases b with
    | none => exact wpAny_pure (h _)
    | some r => exact wpAny_pure (h _)
theorem size_le {h : Heap} (hS : SetIs ek th.TT h es t ks) : es.size ≤ sizeLine := by
  have h1 := hS.size
  have h2 := hS.small
  exact line12 (by omega)
theorem st_walkUnseen {l : List Addr} {f : Option Addr} {Q : Array (Int × Value) → Shared → Prop} (ho : s.heap.get? a = some o) (hd : o.data = .set es n t) (hS : SetIs ek th.TT s.heap es t ks)
    (hl : ∀ b ∈ l, ∃ ks, SetAt ek th.TT s.heap b ks) {of : Obj} {ef : Array (Int × Value)} {nf : Nat} {tf : SetTable} {kf : List κ} {fa : Addr}
    (hf : f = none ∨ (f = some fa ∧ s.heap.get? fa = some of ∧ of.data = .set ef nf tf ∧ SetIs ek th.TT s.heap ef tf kf ∧ of.cls ≠ .type "tuple"))
    (h : ∀ es' s', es'.toList.Perm es.toList → Fx s s' f.toList → (∀ q, f = some q → ∃ nf' tf', s'.heap.get? fa = some { of with data := .set ef nf' tf' } ∧ SetIs ek th.TT s'.heap ef tf' kf) → Q es' s') :
    wpAny (model prog w) A (setWalkUnseen a l f) Q E s := by
  have same : ∀ d, Fx s { s with drawn := d } f.toList := fun d => ⟨fun _ _ e _ => e, rfl, rfl⟩
  have same2 : ∀ d, (∀ q, f = some q → ∃ nf' tf', ({ s with drawn := d } : Shared).heap.get? fa = some { of with data := .set ef nf' tf' } ∧ SetIs ek th.TT ({ s with drawn := d } : Shared).heap ef tf' kf) := fun d q e => by
    rcases hf with r | ⟨_, r2, r3, r4, _⟩
    · rw [r] at e; cases e
    · exact ⟨nf, tf, by rw [← r3]; exact r2, r4⟩
  have walk : wpAny (model prog w) A (setWalk a) Q E s := st_walk ho hd (th.fits hS.tt) hS.led fun es' d hp => h es' _ hp (same d) (same2 d)
  unfold setWalkUnseen
  refine wpAny_bind (st_state ho hd (th.fits hS.tt) ?_)
  dsimp only
  refine wpAny_bind (st_byText ?_)
  split
  · exact walk
  · refine wpAny_bind (st_quiet (th := th) (fun b hb => ?_) fun q => ?_)
    · rcases List.mem_cons.mp hb with rfl | hb
      · exact ⟨ks, o, es, n, t, ho, hd, hS⟩
      · exact hl b hb
    · cases q with
      | false => exact walk
      | true =>
        simp only [Bool.not_true, Bool.false_eq_true, if_false]
        refine wpAny_bind (wpAny_rule ?_)
        have plain : wpAny (model prog w) A (pure es) Q E s := wpAny_pure (h es s (.refl _) (same s.drawn) (same2 s.drawn))
        rcases hf with rfl | ⟨rfl, hfo, hfd, hfS, hfc⟩
        · exact plain
        · dsimp only
          refine wpAny_bind (st_state hfo hfd (th.fits hfS.tt) ?_)
          dsimp only
          split
          · refine wpAny_bind (st_store hfo hfd (size_le hfS) fun s' F' e' _ => wpAny_pure (h es s' (.refl _) F' fun q _ => ⟨_, _, e', ?_⟩))
            refine SetIs.mono (SetIs.flags (t' := { tf with led := tf.led && t.led, plain := tf.plain && t.plain }) hfS rfl rfl rfl fun hb => ?_) (F'.tup1 hfo hfc)
            show (tf.led && t.led) = true
            rw [hS.led hb, hfS.led hb]; rfl
          · exact plain
end
end
section
open PySem PySem.W PyProof.Rows PySem.Calls Builtin
set_option Elab.async false
set_option maxRecDepth 100000
theorem sizeAbove_small : ∀ n : Nat, n ≤ 64 → SetTable.sizeAbove n ≤ sizeLine := by
  intro n hn
  have h : ∀ m : Fin 65, SetTable.sizeAbove m.val ≤ 128 := by decide +kernel
  have := h ⟨n, by omega⟩
  rw [sizeLine_eq]; dsimp only at this; omega
section
variable {prog : Program} {w : World} {κ : Type} [DecidableEq κ] {ek : EK prog w κ} {TT : Array (Int × Value) → SetTable → Prop} {th : SetTh ek}
  {A : Around} {E : Value → Shared → Prop} {s : Shared} {a : Addr} {o : Obj} {es : Array (Int × Value)} {n : Nat} {t : SetTable} {ks : List κ} {k : κ} {x : Value}
theorem laid_mask {mask fi mo : Nat} {le pl : Bool} {hs : Array Int} {t' : SetTable} {ord : Array Nat} (e : SetTable.laid mask fi mo le pl hs = some (t', ord)) : t'.mask = mask ∧ t'.dummies = #[] := by
  unfold SetTable.laid at e
  obtain ⟨owner, _, e⟩ := Option.bind_eq_some_iff.mp e
  cases e
  exact ⟨rfl, rfl⟩
theorem k_hasDel (P : Params) : (clsIn (KK P) 225).map (·.hasDel) = some false := by kernel_rfl
theorem SetIs.empty (h : Heap) (t : SetTable) (ht : th.TT #[] t) (hl : w.params.followText "set-order" = false → t.led = true) : SetIs ek th.TT h #[] t [] :=
  ⟨[], .nil, .refl _, List.nodup_nil, ht, hl⟩
theorem st_newSet {Q : Value → Shared → Prop}
    (h : ∀ s' a t, Fx s s' [] → s.heap.get? a = none → s'.heap.get? a = some (setO #[] 0 t) → (∀ h, SetIs ek th.TT h #[] t []) → t.fill = 0 → Q (.ref a) s') : wpAny (model prog w) A (newSet (.type "set")) Q E s := by
  unfold newSet
  refine wpAny_bind (st_byText ?_)
  dsimp only
  simp only [newObj]
  refine wpAny_bind (wpAny_alloc (wpAny_pure (h _ _ _ ⟨fun b o e _ => Heap.get?_push_of_some _ e, rfl, rfl⟩ ?_ (Heap.get?_push_size _ rfl) (fun _ => SetIs.empty _ _ (th.fresh _ _ _) fun hb => ?_) rfl)))
  · exact Heap.get?_none_of_le (Nat.le_refl _)
  · rw [hb]; rfl
theorem st_newOSet {Q : Value → Shared → Prop} (X : (KK w.params).In s.heap)
    (h : ∀ s' a dx t, Fx s s' [] → s.heap.get? a = none → s.heap.get? dx = none → a ≠ dx → s'.heap.get? a = some (osetO0 dx #[] 0 t) → s'.heap.get? dx = some dictO0 → (∀ h, SetIs ek th.TT h #[] t []) → t.fill = 0 → Q (.ref a) s') : wpAny (model prog w) A (newSet (.ref 225)) Q E s := by
  unfold newSet
  refine wpAny_bind (st_byText ?_)
  dsimp only
  refine wpAny_bind (wpAny_alloc ?_)
  simp only [newObj]
  rw [if_neg (by simp [sizeLine])]
  refine wpAny_bind (wpAny_alloc ?_)
  dsimp only
  obtain ⟨cd, hc, hdel⟩ := Option.map_eq_some_iff.mp (k_hasDel w.params)
  have X' : (KK w.params).In ((s.heap.push { cls := .type "dict", data := .dict #[] }).push { cls := .ref 225, dict := some s.heap.objs.size, data := .set #[] 0 (SetTable.fresh 0 0 !w.params.followText "set-order") }) :=
    X.keeps fun b o e => Heap.get?_push_of_some _ (Heap.get?_push_of_some _ e)
  refine wpAny_bind (wpAny_bind ?_)
  obtain ⟨o, ho, hd⟩ : ∃ o, ((s.heap.push { cls := .type "dict", data := .dict #[] }).push { cls := .ref 225, dict := some s.heap.objs.size, data := .set #[] 0 (SetTable.fresh 0 0 !w.params.followText "set-order") }).get? 225 = some o ∧ o.data = .cls cd := by
    unfold clsIn at hc
    split at hc
    · rename_i q; cases hc; exact ⟨_, X' _ _ q, rfl⟩
    · cases hc
  refine wpAny_load ho ?_
  rw [hd]
  dsimp only
  refine wpAny_pure ?_
  rw [hdel, if_neg (by decide)]
  refine wpAny_pure (h _ _ s.heap.objs.size _ ⟨fun b o e _ => Heap.get?_push_of_some _ (Heap.get?_push_of_some _ e), rfl, rfl⟩ (Heap.get?_none_of_le ?_) (Heap.get?_none_of_le (Nat.le_refl _)) ?_ (Heap.get?_push_size _ rfl) (Heap.get?_push_of_some _ (Heap.get?_push_size _ rfl)) (fun _ => SetIs.empty _ _ (th.fresh _ _ _) fun hb => ?_) rfl)
  · rw [Heap.size_push]; exact Nat.le_succ _
  · rw [Heap.size_push]; exact Nat.succ_ne_self _
  · rw [hb]; rfl
theorem st_relay {wanted : Nat} {Q : Unit → Shared → Prop} (ho : s.heap.get? a = some o) (hc : o.cls ≠ .type "tuple") (hd : o.data = .set es n t) (hS : SetIs ek th.TT s.heap es t ks) (h1 : es.size ≤ wanted) (h2 : wanted ≤ 64)
    (h : ∀ s' es' n' t', Fx s s' [a] → s'.heap.get? a = some { o with data := .set es' n' t' } → SetIs ek th.TT s'.heap es' t' ks → es'.size = es.size → t'.mask = SetTable.sizeAbove wanted - 1 → t'.dummies = #[] → Q () s') :
    wpAny (model prog w) A (setRelay a wanted) Q E s := by
  unfold setRelay
  refine wpAny_bind (st_state ho hd (th.fits hS.tt) ?_)
  dsimp only
  rw [if_neg (Nat.not_lt.mpr (sizeAbove_small _ h2))]
  obtain ⟨t', order, hr, hp, ht, hl⟩ := th.relaid hS.tt (by rw [hS.size]; exact hS.small) h1 h2
  have hsz : (order.filterMap (es[·]?)).size = es.size := by rw [← Array.length_toList, hp.length_eq, Array.length_toList]
  refine wpAny_bind ?_
  rw [hr]
  show wpAny _ _ (if ((order.filterMap (es[·]?)).size != es.size) = true then (unsupported "internal:set-table-lost-an-element" : Sem PUnit) >>= fun _ => pure (order.filterMap (es[·]?), t') else pure (order.filterMap (es[·]?), t')) _ _ _
  rw [if_neg (by rw [hsz]; simp)]
  refine wpAny_pure (st_store ho hd (by rw [hsz]; exact size_le hS) fun s' F' e' _ => h s' _ _ _ F' e' ?_ hsz (laid_mask hr).1 (laid_mask hr).2)
  exact (hS.of_es_perm hp ht fun hb => hl.trans (hS.led hb)).mono (F'.tup1 ho hc)
theorem fx_get {s s' : Shared} {as : List Addr} (f : Fx s s' as) {b : Addr} {o : Obj} (e : s.heap.get? b = some o) (n : b ∉ as) : s'.heap.get? b = some o := f.keep b o e n
theorem st_roomFor {m : Nat} {Q : Unit → Shared → Prop} (ho : s.heap.get? a = some o) (hc : o.cls ≠ .type "tuple") (hd : o.data = .set #[] n t) (hS : SetIs ek th.TT s.heap #[] t ks) (hm : m ≤ 12) (hz : t.fill = 0)
    (h : ∀ s' es' n' t', Fx s s' [a] → s'.heap.get? a = some { o with data := .set es' n' t' } → SetIs ek th.TT s'.heap es' t' ks → es' = #[] → t'.roomFor m = none → t'.fill = 0 → Q () s') :
    wpAny (model prog w) A (setRoomFor a m) Q E s := by
  have hp0 : t.place.size = 0 := by have := th.fits hS.tt; simp [SetTable.fits] at this; rw [this.1]; rfl
  unfold setRoomFor
  refine wpAny_bind (st_state ho hd (th.fits hS.tt) ?_)
  dsimp only
  cases hr : t.roomFor m with
  | none => exact wpAny_pure (h s #[] n t (Fx.refl _ _) (by rw [ho, ← hd]) hS rfl hr hz)
  | some wanted =>
    dsimp only
    have hw : wanted = m * 2 := by
      unfold SetTable.roomFor at hr
      split at hr
      · cases hr; rw [hp0]; omega
      · cases hr
    refine st_relay ho hc hd hS (by simp) (by omega) fun s' es' n' t' F e' i' hsz hmask hdum => ?_
    have hsz' : es' = #[] := Array.eq_empty_of_size_eq_zero (by rw [hsz]; rfl)
    have hp1 : t'.place.size = 0 := by have := th.fits i'.tt; simp [SetTable.fits] at this; rw [this.1, hsz']; rfl
    have hf : t'.fill = 0 := by unfold SetTable.fill; rw [hp1, hdum]; rfl
    refine h s' es' n' t' F e' i' hsz' ?_ hf
    unfold SetTable.roomFor
    rw [hf, hmask, hw]
    have hh : ∀ q : Fin 13, ¬ ((0 + q.val) * 5 ≥ (SetTable.sizeAbove (q.val * 2) - 1) * 3) := by decide +kernel
    exact if_neg (hh ⟨m, by omega⟩)
theorem st_mergeFresh {b : Addr} {ob : Obj} {eb : Array (Int × Value)} {nb : Nat} {tb : SetTable} {Q : Unit → Shared → Prop} {each : Sem Unit} (hne : a ≠ b) (ho : s.heap.get? a = some o) (hc : o.cls ≠ .type "tuple") (hd : o.data = .set #[] n t)
    (hS : SetIs ek th.TT s.heap #[] t []) (hz : t.fill = 0) (hb : s.heap.get? b = some ob) (hdb : ob.data = .set eb nb tb) (hSb : SetIs ek th.TT s.heap eb tb ks)
    (h : ∀ s' es' n' t', Fx s s' [a] → s'.heap.get? a = some { o with data := .set es' n' t' } → SetIs ek th.TT s'.heap es' t' ks → Q () s') :
    wpAny (model prog w) A (setMerge a b each) Q E s := by
  unfold setMerge
  rw [if_neg (by simpa using hne)]
  refine wpAny_bind (st_state hb hdb (th.fits hSb.tt) ?_)
  dsimp only
  by_cases he : eb.isEmpty = true
  · rw [if_pos he]
    have e0 : eb = #[] := by simpa using he
    refine wpAny_pure (h s #[] n t (Fx.refl _ _) (by rw [ho, ← hd]) ?_)
    have : ks = [] := List.length_eq_zero_iff.mp (by rw [← hSb.size, e0]; rfl)
    rw [this]; exact hS
  · rw [if_neg he]
    have hb12 : eb.size ≤ 12 := by rw [hSb.size]; exact hSb.small
    refine wpAny_bind (st_roomFor ho hc hd hS hb12 hz fun s₁ es₁ n₁ t₁ F₁ e₁ i₁ q₁ r₁ z₁ => ?_)
    subst q₁
    have tk1 := F₁.tup1 ho hc
    refine wpAny_bind (st_state e₁ rfl (th.fits i₁.tt) ?_)
    dsimp only
    have hroad : t₁.road tb = .slotForSlot ∨ t₁.road tb = .clean := by
      unfold SetTable.road; rw [if_neg (by rw [z₁]; decide)]; split; exact .inl rfl; exact .inr rfl
    rcases hroad with hr | hr
    · rw [hr]
      dsimp only
      refine st_store e₁ rfl (size_le hSb) fun s₂ F₂ e₂ _ => h s₂ _ _ _ (F₁.trans F₂) e₂ ?_
      refine SetIs.mono (SetIs.flags (t := tb) (t' := { tb with finger := t₁.finger, led := t₁.led && tb.led, moves := t₁.moves, plain := t₁.plain && tb.plain }) (hSb.mono tk1) rfl rfl rfl fun hq => ?_) (F₂.tup1 e₁ hc)
      show (t₁.led && tb.led) = true
      rw [i₁.led hq, hSb.led hq]; rfl
    · rw [hr]
      dsimp only
      obtain ⟨t', order, hl, hp, ht, hled⟩ := th.laid (es := eb) (fi := t₁.finger) (mo := t₁.moves) (le := t₁.led && tb.led) (pl := t₁.plain && tb.plain) i₁.tt z₁ hb12 r₁
      have hsz : (order.filterMap (eb[·]?)).size = eb.size := by rw [← Array.length_toList, hp.length_eq, Array.length_toList]
      refine wpAny_bind ?_
      rw [hl]
      show wpAny _ _ (if ((order.filterMap (eb[·]?)).size != eb.size) = true then (unsupported "internal:set-table-lost-an-element" : Sem PUnit) >>= fun _ => pure (order.filterMap (eb[·]?), t') else pure (order.filterMap (eb[·]?), t')) _ _ _
      rw [if_neg (by rw [hsz]; simp)]
      refine wpAny_pure (st_store e₁ rfl (by rw [hsz]; exact size_le hSb) fun s₂ F₂ e₂ _ => h s₂ _ _ _ (F₁.trans F₂) e₂ ?_)
      refine ((hSb.mono tk1).of_es_perm hp ht fun hq => ?_).mono (F₂.tup1 e₁ hc)
      rw [hled, i₁.led hq, hSb.led hq]; rfl
theorem st_deathsKnown {Q : Bool → Shared → Prop} (ho : s.heap.get? a = some o) (hd : o.data = .set es n t) (hf : t.fits es.size = true) (h : ∀ b, Q b s) : wpAny (model prog w) A (setDeathsKnown a) Q E s := by
  unfold setDeathsKnown
  exact wpAny_bind (st_state ho hd hf (wpAny_bind (st_byText (wpAny_pure (h _)))))
theorem st_items {Q : List Value → Shared → Prop} (ho : s.heap.get? a = some o) (hd : o.data = .set es n t) (hf : t.fits es.size = true) (hl : w.params.followText "set-order" = false → t.led = true)
    (h : ∀ l d, Q l { s with drawn := d }) : wpAny (model prog w) A (setItems a) Q E s :=
  wpAny_bind (st_walk ho hd hf hl fun es' d _ => wpAny_pure (h _ d))
theorem st_clear {Q : Unit → Shared → Prop} (ho : s.heap.get? a = some o) (hc : o.cls ≠ .type "tuple") (hd : o.data = .set es n t) (hS : SetIs ek th.TT s.heap es t ks)
    (h : ∀ s' n' t', Fx s s' [a] → s'.heap.get? a = some { o with data := .set #[] n' t' } → SetIs ek th.TT s'.heap #[] t' [] → Q () s') : wpAny (model prog w) A (Frozenset.clearAll a) Q E s := by
  unfold Frozenset.clearAll
  refine wpAny_bind ?_
  unfold setClear
  have tail : ∀ (old : Option (List Value)) d, wpAny (model prog w) A (do
      let t := (← setState a).2.2
      storeSet a #[] (t.cleared (led := !(← setsByText) && (t.led || t.finger == 0)))
      return old) (fun a_1 s' => wpAny (model prog w) A (match a_1 with
    | some old => letGo (old.filter fun | .ref _ => true | _ => false)
    | none => point) Q E s') E { s with drawn := d } := by
    intro old d
    refine wpAny_bind (st_state (s := { s with drawn := d }) ho hd (th.fits hS.tt) ?_)
    dsimp only
    refine wpAny_bind (st_byText (wpAny_bind (st_store (s := { s with drawn := d }) ho hd (by simp) fun s' F e _ => wpAny_pure ?_)))
    have fin : Q () s' := h s' _ _ ⟨F.keep, F.gens, F.os⟩ e (SetIs.empty _ _ (th.flags (th.fresh 0 0 true) rfl rfl rfl) fun hb => by
      show (!w.params.followText "set-order" && (t.led || t.finger == 0)) = true
      rw [hb, hS.led hb]; rfl)
    cases old with
    | none => exact wpAny_point fin
    | some l => exact wpAny_letGo fin
  refine wpAny_bind (st_deathsKnown ho hd (th.fits hS.tt) fun b => ?_)
  cases b with
  | true =>
    simp only [if_true]
    exact wpAny_bind (wpAny_bind (st_walk ho hd (th.fits hS.tt) hS.led fun es' d _ => wpAny_pure (wpAny_bind (wpAny_pure (tail (some _) d)))))
  | false => exact wpAny_bind (wpAny_pure (tail none s.drawn))
end
end
section
open PySem PySem.W PyProof.Rows PySem.Calls Builtin
set_option Elab.async false
set_option maxRecDepth 100000
section
variable {prog : Program} {w : World} {κ : Type} [DecidableEq κ] {ek : EK prog w κ} {th : SetTh ek}
  {A : Around} {E : Value → Shared → Prop} {s : Shared} {a b : Addr} {o ob : Obj} {es eb : Array (Int × Value)} {n nb : Nat} {t tb : SetTable} {ks kb : List κ} {k : κ} {x : Value}
structure SO (th : SetTh ek) (h : Heap) (a : Addr) (o : Obj) (es : Array (Int × Value)) (n : Nat) (t : SetTable) (ks : List κ) : Prop where
  at_ : h.get? a = some o
  cls : o.cls = .ref 225 ∨ o.cls = .type "set"
  data : o.data = .set es n t
  is : SetIs ek th.TT h es t ks
theorem SO.notTuple {h : Heap} (x : SO th h a o es n t ks) : o.cls ≠ .type "tuple" := by
  rcases x.cls with e | e <;> rw [e] <;> decide
theorem SO.kept {h h' : Heap} (x : SO th h a o es n t ks) (e : h'.get? a = some o) (k : TupKept h h') : SO th h' a o es n t ks := ⟨e, x.cls, x.data, x.is.mono k⟩
theorem SO.fx {s s' : Shared} {as : List Addr} (x : SO th s.heap a o es n t ks) (f : Fx s s' as) (k : TupKept s.heap s'.heap) (hn : a ∉ as) : SO th s'.heap a o es n t ks := x.kept (f.keep _ _ x.at_ hn) k
theorem SO.perm {h : Heap} {ks' : List κ} (x : SO th h a o es n t ks) (p : ks.Perm ks') : SO th h a o es n t ks' := ⟨x.at_, x.cls, x.data, x.is.perm p⟩
theorem SO.new {h : Heap} {es' : Array (Int × Value)} {n' : Nat} {t' : SetTable} {h0 : Heap} {ks' : List κ} (x : SO th h0 a o es n t ks) (e : h.get? a = some { o with data := .set es' n' t' }) (i : SetIs ek th.TT h es' t' ks') :
    SO th h a { o with data := .set es' n' t' } es' n' t' ks' := ⟨e, x.cls, rfl, i⟩
theorem SO.fits {h : Heap} (x : SO th h a o es n t ks) : t.fits es.size = true := th.fits x.is.tt
theorem SO.typeOf {h : Heap} (x : SO th h a o es n t ks) : Looks (model prog w) h (typeOf (.ref a)) o.cls := (Looks.ld x.at_).andThen .now
theorem isSub_set : isSubtype (.type "set") (.type "set") = pure true := sub_set_self
theorem SO.isSet {h : Heap} (X : (KK w.params).In h) (x : SO th h a o es n t ks) : Looks (model prog w) h (isInstance (.ref a) (.type "set")) true := by
  refine x.typeOf.andThen ?_
  rcases x.cls with e | e <;> rw [e]
  · exact looks_mroIn X (k_mro_set _)
  · exact Looks.of_pure isSub_set
theorem SO.anySet {h : Heap} (X : (KK w.params).In h) (x : SO th h a o es n t ks) : Looks (model prog w) h (Frozenset.isAnySet (.ref a)) true :=
  (x.isSet X).andThen .now
theorem SO.baseOf {h : Heap} (X : (KK w.params).In h) (x : SO th h a o es n t ks) : Looks (model prog w) h (Frozenset.baseOf a) (.type "set") :=
  (x.isSet X).andThen .now
theorem st_loop {l : List (Int × Value)} {kl : List κ} {f : (Int × Value) → PUnit → Sem (ForInStep PUnit)} {Q : PUnit → Shared → Prop} (I : List κ → Shared → Prop) (hl : ek.Ents s.heap l kl) (tk : ∀ d s', I d s' → TupKept s.heap s'.heap)
    (turn : ∀ e k d r s', kl = d ++ k :: r → I d s' → e.1 = ek.hash k → ek.is s'.heap k e.2 → wpAny (model prog w) A (f e ⟨⟩) (fun st s'' => st = .yield ⟨⟩ ∧ I (d ++ [k]) s'') E s')
    (start : I [] s) (fin : ∀ s', I kl s' → Q ⟨⟩ s') : wpAny (model prog w) A (forIn l ⟨⟩ f) Q E s := by
  refine wpAny_forIn_list f (fun rest _ s' => ∃ d r, kl = d ++ r ∧ ek.Ents s.heap rest r ∧ I d s') Q ?_ ?_ l ⟨⟩ ⟨[], kl, rfl, hl, start⟩
  · rintro e rest _ s' ⟨d, r, he, hr, hi⟩
    cases hr with
    | cons h1 h2 =>
      rename_i k r
      refine wpAny_mono (turn e k d r s' he hi h1.1 (ek.mono (tk d s' hi) h1.2)) (fun st s'' hst => ?_) fun _ _ z => z
      obtain ⟨rfl, hi'⟩ := hst
      exact ⟨d ++ [k], r, by rw [he, List.append_assoc]; rfl, h2, hi'⟩
  · rintro _ s' ⟨d, r, he, hr, hi⟩
    cases hr
    rw [List.append_nil] at he
    exact fin s' (he ▸ hi)
theorem walk_keys {h : Heap} {es' : Array (Int × Value)} (x : SetIs ek th.TT h es t ks) (p : es'.toList.Perm es.toList) : ∃ kl, ek.Ents h es'.toList kl ∧ kl.Perm ks := by
  obtain ⟨l, a, b, _⟩ := x
  obtain ⟨l', z, q⟩ := All2.perm a p.symm
  exact ⟨l', z, q.symm.trans b⟩
theorem setO_nt (es : Array (Int × Value)) (n : Nat) (t : SetTable) : (setO es n t).cls ≠ .type "tuple" := by show Value.type "set" ≠ .type "tuple"; decide
theorem nil_tup {s s' : Shared} (F : Fx s s' []) : TupKept s.heap s'.heap := F.tup fun a ha => by cases ha
theorem fresh_ne {s : Shared} {r a : Addr} {o : Obj} (hr : s.heap.get? r = none) (e : s.heap.get? a = some o) : a ≠ r := fun q => by rw [← q, e] at hr; cases hr
theorem st_copyOf {Q : Value → Shared → Prop} (X : (KK w.params).In s.heap) (S : SO th s.heap a o es n t ks)
    (h : ∀ s' r er nr tr, Fx s s' [] → s.heap.get? r = none → SO th s'.heap r (setO er nr tr) er nr tr ks → Q (.ref r) s') : wpAny (model prog w) A (Frozenset.copyOf a) Q E s := by
  unfold Frozenset.copyOf
  obtain ⟨hh, gg, dd, tt, oo⟩ := s
  refine wpAny_bind ((S.baseOf X).at (wpAny_bind ?_))
  refine st_newSet (th := th) fun s₁ r t₁ F₁ hr e₁ i₁ z₁ => ?_
  have tk1 : TupKept hh s₁.heap := F₁.tup fun a ha => by cases ha
  have hne : r ≠ a := fun q => by have := S.at_; rw [← q] at this; rw [show hh.get? r = none from hr] at this; cases this
  have S₁ := S.fx (s := ⟨hh, gg, dd, tt, oo⟩) F₁ tk1 (by simp)
  refine wpAny_bind (wpAny_pure (wpAny_bind ?_))
  refine st_mergeFresh (th := th) hne e₁ (setO_nt _ _ _) rfl (i₁ _) z₁ S₁.at_ S₁.data S₁.is fun s₂ es' n' t' F₂ e₂ i₂ => wpAny_pure ?_
  refine h s₂ r es' n' t' ⟨fun b o e _ => F₂.keep _ _ (F₁.keep _ _ e (by simp)) fun m => ?_, F₂.gens.trans F₁.gens, F₂.os.trans F₁.os⟩ hr ⟨e₂, .inr rfl, rfl, i₂⟩
  rw [List.mem_singleton.mp m, hr] at e; cases e
theorem fx_fresh {s s₁ s₂ : Shared} {r : Addr} (F₁ : Fx s s₁ []) (hr : s.heap.get? r = none) (F₂ : Fx s₁ s₂ [r]) : Fx s s₂ [] := by
  refine ⟨fun b o e _ => F₂.keep _ _ (F₁.keep _ _ e (by simp)) fun m => ?_, F₂.gens.trans F₁.gens, F₂.os.trans F₁.os⟩
  rw [List.mem_singleton.mp m, hr] at e; cases e
theorem find_isSome {r : Option Nat} {h : Heap} (hS : SetIs ek th.TT h es t ks) (hk : ek.is h k x) (hr : match r with | some i => ∃ e, es[i]? = some e ∧ ek.is h k e.2 | none => k ∉ ks) : r.isSome = decide (k ∈ ks) := by
  cases r with
  | none => simpa using hr
  | some i =>
    obtain ⟨e, he, hi⟩ := hr
    have he' : e ∈ es.toList := by rw [← Array.getElem?_toList] at he; exact List.mem_of_getElem? he
    obtain ⟨k', hk1, _, h2⟩ := hS.key he'
    rw [ek.inj hi h2]; simpa using hk1
theorem ents_unique {h : Heap} {l : List (Int × Value)} {m m' : List κ} (x : ek.Ents h l m) (y : ek.Ents h l m') : m = m' := by
  have x' : All2 _ l m := x
  have y' : All2 _ l m' := y
  clear x y
  induction x' generalizing m' with
  | nil => cases y'; rfl
  | cons r1 _ ih => cases y' with | cons r2 y => rw [ih y, ek.inj r1.2 r2.2]
theorem st_unchanged {id : String} {Q : Unit → Shared → Prop} (S : SO th s.heap a o es n t ks) (h : Q () s) : wpAny (model prog w) A (Frozenset.unchanged id a n) Q E s := by
  unfold Frozenset.unchanged
  refine wpAny_bind (st_epoch S.at_ S.data S.fits ?_)
  rw [if_neg (by simp)]
  exact wpAny_pure h
theorem st_fill {r : Addr} {f : (Int × Value) → PUnit → Sem (ForInStep PUnit)} {Q : PUnit → Shared → Prop} {l : List (Int × Value)} {kl : List κ} (p : κ → Bool) {er : Array (Int × Value)} {nr : Nat} {tr : SetTable}
    (hl : ek.Ents s.heap l kl) (nd : kl.Nodup) (hr : SO th s.heap r (setO er nr tr) er nr tr [])
    (turn : ∀ e k s' er' nr' tr' kr, Fx s s' [r] → SO th s'.heap r (setO er' nr' tr') er' nr' tr' kr → e.1 = ek.hash k → ek.is s'.heap k e.2 → k ∉ kr →
      wpAny (model prog w) A (f e ⟨⟩) (fun st s'' => st = .yield ⟨⟩ ∧ ∃ er'' nr'' tr'', Fx s s'' [r] ∧ SO th s''.heap r (setO er'' nr'' tr'') er'' nr'' tr'' (if p k then kr ++ [k] else kr)) E s')
    (fin : ∀ s' er' nr' tr', Fx s s' [r] → SO th s'.heap r (setO er' nr' tr') er' nr' tr' (kl.filter p) → Q ⟨⟩ s') : wpAny (model prog w) A (forIn l ⟨⟩ f) Q E s := by
  refine st_loop (ek := ek) (kl := kl) (fun d s' => ∃ er' nr' tr', Fx s s' [r] ∧ SO th s'.heap r (setO er' nr' tr') er' nr' tr' (d.filter p)) hl (fun d s' ⟨_, _, _, F, _⟩ => F.tup1 hr.at_ (setO_nt _ _ _)) ?_ ⟨er, nr, tr, Fx.refl _ _, hr⟩ (fun s' ⟨er', nr', tr', F, S⟩ => fin s' er' nr' tr' F S)
  rintro e k d rest s' hkl ⟨er', nr', tr', F, S⟩ hh hk
  have hnd : k ∉ d := by
    rw [hkl] at nd
    exact fun m => (List.nodup_append.mp nd).2.2 k m k (.head _) rfl
  refine wpAny_mono (turn e k s' er' nr' tr' _ F S hh hk fun m => hnd (List.mem_filter.mp m).1) (fun st s'' hst => ?_) fun _ _ z => z
  obtain ⟨rfl, e1, e2, e3, F', S'⟩ := hst
  refine ⟨rfl, e1, e2, e3, F', ?_⟩
  rw [List.filter_append, List.filter_cons, List.filter_nil]
  cases hp : p k <;> rw [hp] at S' <;> simpa using S'
theorem st_intersectSet {id : String} {Q : Value → Shared → Prop} (hA : AOk A) (X : (KK w.params).In s.heap) (S : SO th s.heap a o es n t ks) (Sb : SO th s.heap b ob eb nb tb kb)
    (h : ∀ s' r er nr tr, Fx s s' [] → s.heap.get? r = none → SO th s'.heap r (setO er nr tr) er nr tr (ks.filter fun k => decide (k ∈ kb)) → Q (.ref r) s') : wpAny (model prog w) A (Frozenset.intersection id a (.ref b)) Q E s := by
  unfold Frozenset.intersection
  by_cases hab : b = a
  · subst hab
    rw [if_pos (by simp)]
    have hks : kb.Perm ks := by
      have h1 := S.at_; rw [Sb.at_] at h1
      have h2 : ob = o := Option.some.inj h1
      have hd := S.data; rw [← h2, Sb.data] at hd
      cases hd
      obtain ⟨l, z1, p1, _⟩ := S.is
      obtain ⟨l', z2, p2, _⟩ := Sb.is
      have : l = l' := ents_unique z1 z2
      subst this
      exact p2.symm.trans p1
    refine st_copyOf X S fun s' r er nr tr F hr S' => h s' r er nr tr F hr (S'.perm ?_)
    rw [List.filter_eq_self.mpr fun k hk => by simpa using hks.mem_iff.mpr hk]
  · rw [if_neg (by simpa using hab)]
    obtain ⟨hh, gg, dd, tt, oo⟩ := s
    refine wpAny_bind ((S.baseOf X).at (wpAny_bind ?_))
    refine st_newSet (th := th) fun s₁ r t₁ F₁ hr e₁ i₁ z₁ => ?_
    have tk1 := nil_tup F₁
    have X₁ : (KK w.params).In s₁.heap := X.keeps fun b o e => F₁.keep b o e (by simp)
    have S₁ := S.fx (s := ⟨hh, gg, dd, tt, oo⟩) F₁ tk1 (by simp)
    have Sb₁ := Sb.fx (s := ⟨hh, gg, dd, tt, oo⟩) F₁ tk1 (by simp)
    have Sr₁ : SO th s₁.heap r (setO #[] 0 t₁) #[] 0 t₁ [] := ⟨e₁, .inr rfl, rfl, i₁ _⟩
    have hra := fresh_ne (s := ⟨hh, gg, dd, tt, oo⟩) hr S.at_
    have hrb := fresh_ne (s := ⟨hh, gg, dd, tt, oo⟩) hr Sb.at_
    refine wpAny_bind (wpAny_pure (wpAny_bind (wpAny_holding ?_)))
    refine wpAny_bind (Looks.here (Sb₁.anySet X₁) ?_)
    simp only [if_true]
    refine wpAny_bind (wpAny_pure (wpAny_bind (st_size Sb₁.at_ Sb₁.data Sb₁.fits (wpAny_bind (st_size S₁.at_ S₁.data S₁.fits ?_)))))
    have core : ∀ (c : Addr) (oc : Obj) (ec : Array (Int × Value)) (nc : Nat) (tc : SetTable) (kc : List κ) (d : Addr) (od : Obj) (ed : Array (Int × Value)) (nd : Nat) (td : SetTable) (kd : List κ),
        SO th s₁.heap c oc ec nc tc kc → SO th s₁.heap d od ed nd td kd → c ≠ r → d ≠ r → (kd.filter fun k => decide (k ∈ kc)).Perm (ks.filter fun k => decide (k ∈ kb)) →
        wpAny (model prog w) A (do
          let was ← setEpoch d
          for (h, x) in ← setWalkUnseen d [c, r] (some r) do
            holding [x] do
              if (← setFind c x h).isSome then
                let _ ← setAddHashed r x h
            Frozenset.unchanged id d was) (fun _ s' => Q (.ref r) s') E s₁ := by
      intro c oc ec nc tc kc d od ed nd td kd Sc Sd hc hd hp
      refine wpAny_bind (st_epoch Sd.at_ Sd.data Sd.fits (wpAny_bind ?_))
      refine st_walkUnseen (th := th) Sd.at_ Sd.data Sd.is (fun b hb => ?_) (.inr ⟨rfl, Sr₁.at_, Sr₁.data, Sr₁.is, Sr₁.notTuple⟩) fun es' s₂ pe F₂ hf₂ => ?_
      · rcases List.mem_cons.mp hb with rfl | hb
        · exact ⟨_, _, _, _, _, Sc.at_, Sc.data, Sc.is⟩
        · rw [List.mem_singleton.mp hb]; exact ⟨_, _, _, _, _, Sr₁.at_, Sr₁.data, Sr₁.is⟩
      · obtain ⟨nf', tf', er₂, ir₂⟩ := hf₂ r rfl
        have F₂' : Fx s₁ s₂ [r] := F₂
        have tk2 := F₂'.tup1 Sr₁.at_ Sr₁.notTuple
        have Sr₂ : SO th s₂.heap r (setO #[] nf' tf') #[] nf' tf' [] := ⟨er₂, .inr rfl, rfl, ir₂⟩
        obtain ⟨kl, hkl, pkl⟩ := walk_keys Sd.is pe
        have hkl2 : ek.Ents s₂.heap es'.toList kl := hkl.mono tk2
        rw [← Array.forIn_toList]
        refine wpAny_bind ?_
        refine st_fill (fun k => decide (k ∈ kc)) hkl2 (pkl.nodup_iff.mpr Sd.is.nodup) Sr₂ ?_ ?_
        · rintro ⟨eh, ev⟩ k s₃ er₃ nr₃ tr₃ kr₃ F₃ Sr₃ hh hk hnk
          dsimp only at hh hk ⊢
          subst hh
          have tk3 := F₃.tup1 Sr₂.at_ Sr₂.notTuple
          have Sc₃ := (Sc.fx F₂' tk2 (by simpa using hc)).fx F₃ tk3 (by simpa using hc)
          have Sd₃ := (Sd.fx F₂' tk2 (by simpa using hd)).fx F₃ tk3 (by simpa using hd)
          refine wpAny_bind (wpAny_holding (wpAny_bind (th.find hA Sc₃.at_ Sc₃.data Sc₃.is hk fun s₄ q K₄ hq => ?_)))
          have tk4 : TupKept s₃.heap s₄.heap := .of fun b o e => kp_get K₄ e
          have Sr₄ := Sr₃.kept (kp_get K₄ Sr₃.at_) tk4
          have Sd₄ := Sd₃.kept (kp_get K₄ Sd₃.at_) tk4
          have F₄ : Fx s₂ s₄ [r] := F₃.trans (Fx.of_keeps K₄ _)
          rw [find_isSome Sc₃.is hk hq]
          by_cases hm : k ∈ kc
          · simp only [hm, decide_true, if_true]
            refine wpAny_bind (th.add hA Sr₄.at_ Sr₄.notTuple Sr₄.data Sr₄.is (ek.mono tk4 hk) fun s₅ e5 n5 t5 F₅ g5 i5 => wpAny_pure ?_)
            have tk5 := F₅.tup1 Sr₄.at_ Sr₄.notTuple
            refine wpAny_bind (st_unchanged (Sd₄.fx F₅ tk5 (by simpa using hd)) (wpAny_pure ⟨rfl, e5, n5, t5, F₄.trans F₅, ⟨g5, .inr rfl, rfl, ?_⟩⟩))
            rw [if_neg hnk] at i5; exact i5
          · simp only [hm, decide_false, Bool.false_eq_true, if_false]
            exact wpAny_pure (wpAny_bind (st_unchanged Sd₄ (wpAny_pure ⟨rfl, _, _, _, F₄, Sr₄⟩)))
        · intro s₃ e3 n3 t3 F₃ S₃
          refine wpAny_pure ?_
          exact h s₃ r e3 n3 t3 (fx_fresh F₁ hr (F₂'.trans F₃)) hr (S₃.perm ((pkl.filter _).trans hp))
    have swap : (kb.filter fun k => decide (k ∈ ks)).Perm (ks.filter fun k => decide (k ∈ kb)) :=
      (List.perm_ext_iff_of_nodup (Sb.is.nodup.filter _) (S.is.nodup.filter _)).mpr fun k => by simp [and_comm]
    by_cases hsz : eb.size > es.size
    · rw [if_pos hsz]
      exact wpAny_mono (core b ob eb nb tb kb a o es n t ks Sb₁ S₁ hrb hra (.refl _)) (fun _ s' q => wpAny_pure q) fun _ _ z => z
    · rw [if_neg hsz]
      exact wpAny_mono (core a o es n t ks b ob eb nb tb kb S₁ Sb₁ hra hrb swap) (fun _ s' q => wpAny_pure q) fun _ _ z => z
end
end
section
open PySem PySem.W PyProof.Rows PySem.Calls Builtin
set_option Elab.async false
set_option maxRecDepth 100000
section
variable {prog : Program} {w : World} {κ : Type} [DecidableEq κ] (ek : EK prog w κ)
structure Feeding (s : Shared) (I : Addr) (fp wr : List Addr) (kl : List κ) (P : Nat → Value → Prop) (St : Nat → Heap → Prop) : Prop where
  walks : ∀ A : Around, A.handled = none → Walks prog w A I fp wr kl.length P St
  start : St 0 s.heap
  keys : ∀ i v, P i v → ∃ k, kl[i]? = some k ∧ ek.is s.heap k v
  noSet : ∀ b ∈ fp, ∃ o, s.heap.get? b = some o ∧ ∀ es n t, o.data ≠ .set es n t
  wrNT : ∀ i h, St i h → ∀ b ∈ wr, ∃ o, h.get? b = some o ∧ o.cls ≠ .type "tuple"
def KeepNS (h h' : Heap) : Prop := ∀ b o, h.get? b = some o → (∀ es n t, o.data ≠ .set es n t) → h'.get? b = some o
theorem KeepNS.refl (h : Heap) : KeepNS h h := fun _ _ e _ => e
theorem KeepNS.trans {h h' h'' : Heap} (x : KeepNS h h') (y : KeepNS h' h'') : KeepNS h h'' := fun b o e n => y b o (x b o e n) n
theorem KeepNS.nil {s s' : Shared} (F : Fx s s' []) : KeepNS s.heap s'.heap := fun b o e _ => F.keep b o e (by simp)
theorem KeepNS.one {s s' : Shared} {a : Addr} {o : Obj} (F : Fx s s' [a]) (e : s.heap.get? a = some o) (d : ∃ es n t, o.data = .set es n t) : KeepNS s.heap s'.heap := fun b ob e' n => F.keep b ob e' fun m => by
  rw [List.mem_singleton.mp m, e] at e'; cases e'
  obtain ⟨es, k, t, d⟩ := d
  exact n _ _ _ d
def Iter (A : Around) (h : Heap) (v : Value) (kl : List κ) (w0 : List Addr) : Prop :=
  ∀ (s : Shared) (E : Value → Shared → Prop) (Q : Value → Shared → Prop), KeepNS h s.heap → (∀ s' I fp wr P St, Fx s s' [] → Feeding ek s' I fp wr kl P St → (∀ b ∈ wr, b ∈ w0 ∨ s.heap.get? b = none) → (∀ b ∈ fp, (∃ o, h.get? b = some o ∧ ∀ es n t, o.data ≠ .set es n t) ∨ s.heap.get? b = none) → Q (.ref I) s') → wpAny (model prog w) A (pyIter v) Q E s
variable {ek} {A : Around} {E : Value → Shared → Prop} {s : Shared} {R : Result → Shared → Prop}
theorem feed_loop {I : Addr} {fp wr as : List Addr} {kl : List κ} {P : Nat → Value → Prop} {St : Nat → Heap → Prop} (Fd : Feeding ek s I fp wr kl P St) (hh : A.handled = none) (has : ∀ a ∈ as, a ∉ fp)
    {c : Code} (hq : c.quiet = true) (hu : A.under c = A.in1) {dn : Sem Fin} {body : Value → Sem Fin}
    (hden : ∀ (Q : Fin → Shared → Prop) (E : Value → Shared → Prop) (s : Shared), wpAny (model prog w) A.in1 (pyNext (.ref I)) (fun r s' => match r with | some x => wpAny (model prog w) A.in1 (body x) Q E s' | none => wpAny (model prog w) A.in1 dn Q E s') E s → wpAny (model prog w) A.in1 ((model prog w).den c) Q E s)
    (Inv : List κ → Shared → Prop) (hT : ∀ d s', Inv d s' → TupKept s.heap s'.heap) (hInv : ∀ d s' s'', Inv d s' → Fx s' s'' wr → TupKept s'.heap s''.heap → Inv d s'')
    (turn : ∀ k x d r s', kl = d ++ k :: r → Inv d s' → ek.is s'.heap k x → wpAny (model prog w) A.in1 (body x) (fun fin s'' => (fin = .again c ∧ Fx s' s'' as ∧ Inv (d ++ [k]) s'') ∨ ∃ v, fin = .done (.ret v) ∧ R (.ok (.ret v)) s'') (fun e s' => R (.error e) s') s')
    (fin : ∀ s', Inv kl s' → wpAny (model prog w) A.in1 dn (fun fin s'' => ∃ v, fin = .done (.ret v) ∧ R (.ok (.ret v)) s'') (fun e s' => R (.error e) s') s')
    (hs : Inv [] s) : codeAny (model prog w) A c R s := by
  refine codeAny_loop hq (fun n s' => ∃ d r, kl = d ++ r ∧ r.length = n ∧ St d.length s'.heap ∧ Inv d s') ?_ kl.length ⟨[], kl, rfl, rfl, Fd.start, hs⟩
  rintro n s' ⟨d, r, hkl, hn, hst, hi⟩
  rw [hu]
  refine hden _ _ _ ?_
  have W := Fd.walks A.in1 hh
  cases r with
  | nil =>
    rw [List.append_nil] at hkl
    have hlen : d.length = kl.length := by rw [hkl]
    rw [hlen] at hst
    refine W.done s' _ _ hst fun h' tk hk => ?_
    have F : Fx s' { s' with heap := h', toks := tk } wr := ⟨fun b o e nb => hk b o nb e, rfl, rfl⟩
    have i' := hInv d s' _ hi F (F.tup (Fd.wrNT _ _ hst))
    rw [← hkl] at i'
    refine wpAny_mono (fin _ i') (fun fin s'' z => ?_) fun _ _ z => z
    obtain ⟨v, rfl, z⟩ := z
    exact z
  | cons k r =>
    have hlt : d.length < kl.length := by rw [hkl]; simp
    refine W.item d.length s' _ _ hlt hst fun v h' tk hp hst' hk => ?_
    have F : Fx s' { s' with heap := h', toks := tk } wr := ⟨fun b o e nb => hk b o nb e, rfl, rfl⟩
    have i' := hInv d s' _ hi F (F.tup (Fd.wrNT _ _ hst))
    obtain ⟨k', e', hv⟩ := Fd.keys _ _ hp
    have hkk : k' = k := by
      rw [hkl] at e'; simp at e'; exact e'.symm
    subst hkk
    refine wpAny_mono (turn k' v d r _ hkl i' (ek.mono (hT d _ i') hv)) (fun fin s'' z => ?_) fun _ _ z => z
    rcases z with ⟨rfl, F', i''⟩ | ⟨v, rfl, z⟩
    · refine ⟨rfl, r.length, by rw [← hn]; simp, d ++ [k'], r, by rw [hkl, List.append_assoc]; rfl, rfl, ?_, i''⟩
      rw [List.length_append]
      exact W.frame _ _ _ hst' fun b hb o e => F'.keep b o e fun m => has b m hb
    · exact z
def addK (ks : List κ) (k : κ) : List κ := if k ∈ ks then ks else ks ++ [k]
theorem mem_addK {ks : List κ} {k x : κ} : x ∈ addK ks k ↔ x ∈ ks ∨ x = k := by
  unfold addK; split
  · rename_i h; exact ⟨.inl, fun q => q.elim id fun e => e ▸ h⟩
  · simp
theorem mem_addAll {kl : List κ} : ∀ {ks : List κ} {x : κ}, x ∈ kl.foldl addK ks ↔ x ∈ ks ∨ x ∈ kl := by
  induction kl with
  | nil => intro ks x; simp
  | cons k kl ih => intro ks x; rw [List.foldl_cons, ih, mem_addK, List.mem_cons, or_assoc]
theorem nodup_addK {ks : List κ} {k : κ} (nd : ks.Nodup) : (addK ks k).Nodup := by
  unfold addK; split
  · exact nd
  · rename_i h
    exact List.nodup_append.mpr ⟨nd, by simp, fun a ha b hb e => h (by rw [← List.mem_singleton.mp hb, ← e]; exact ha)⟩
theorem nodup_addAll {kl : List κ} : ∀ {ks : List κ}, ks.Nodup → (kl.foldl addK ks).Nodup := by
  induction kl with
  | nil => intro ks h; exact h
  | cons k kl ih => intro ks h; exact ih (nodup_addK h)
variable {th : SetTh ek} {a : Addr} {o : Obj} {es : Array (Int × Value)} {n : Nat} {t : SetTable} {ks : List κ}
theorem entry_il : entryFor table "frozenset.intersection.loop" = some Builtin.«frozenset.intersection.loop» := entryFor_of_tree (by kernel_rfl)
theorem plain_il : plainId "frozenset.intersection.loop" = true := by decide +kernel
theorem entry_dl : entryFor table "set.difference_update.loop" = some Builtin.«set.difference_update.loop» := entryFor_of_tree (by kernel_rfl)
theorem plain_dl : plainId "set.difference_update.loop" = true := by decide +kernel
theorem den_of {id : String} {b : Builtin} {args : Args} (he : entryFor table id = some b) : (model prog w).den (.builtin id args) = b args := by
  show (match entryFor table id with | some b => b args | none => unsupported ((withoutEnding? id "#data").getD id)) = _
  rw [he]
theorem feed_ne {I : Addr} {fp wr : List Addr} {kl : List κ} {P : Nat → Value → Prop} {St : Nat → Heap → Prop} (Fd : Feeding ek s I fp wr kl P St) (S : SO th s.heap a o es n t ks) : a ∉ fp := fun hm => by
  obtain ⟨o', e, hn⟩ := Fd.noSet a hm
  rw [S.at_] at e; cases e
  exact hn _ _ _ S.data
theorem feed_wr {I : Addr} {fp wr : List Addr} {kl : List κ} {P : Nat → Value → Prop} {St : Nat → Heap → Prop} (Fd : Feeding ek s I fp wr kl P St) (hh : ∃ A : Around, A.handled = none) (S : SO th s.heap a o es n t ks) : a ∉ wr := fun hm => by
  obtain ⟨A, hA⟩ := hh
  exact feed_ne Fd S ((Fd.walks A hA).sub a hm)
theorem SO.self {h : Heap} (S : SO th h a o es n t ks) : ({ o with data := .set es n t } : Obj) = o := by
  have := S.data; obtain ⟨c, d, dt, sl⟩ := o; simp only at this; subst this; rfl
theorem SO.self' {h : Heap} (S : SO th h a o es n t ks) : SO th h a { o with data := .set es n t } es n t ks := by rw [S.self]; exact S
theorem feed_set {I : Addr} {fp wr : List Addr} {kl : List κ} {P : Nat → Value → Prop} {St : Nat → Heap → Prop} (Fd : Feeding ek s I fp wr kl P St) (hh : A.handled = none) (S : SO th s.heap a o es n t ks)
    {c : Code} (hq : c.quiet = true) (hu : A.under c = A.in1) {body : Value → Sem Fin}
    (hden : ∀ (Q : Fin → Shared → Prop) (E : Value → Shared → Prop) (s : Shared), wpAny (model prog w) A.in1 (pyNext (.ref I)) (fun r s' => match r with | some x => wpAny (model prog w) A.in1 (body x) Q E s' | none => wpAny (model prog w) A.in1 (ret .none) Q E s') E s → wpAny (model prog w) A.in1 ((model prog w).den c) Q E s)
    (f : List κ → κ → List κ)
    (turn : ∀ k x ks' s' o' es' n' t' (Q : Fin → Shared → Prop) (E : Value → Shared → Prop), SO th s'.heap a o' es' n' t' ks' → ek.is s'.heap k x →
      (∀ s'' es'' n'' t'', Fx s' s'' [a] → SO th s''.heap a { o' with data := .set es'' n'' t'' } es'' n'' t'' (f ks' k) → Q (.again c) s'') → wpAny (model prog w) A.in1 (body x) Q E s')
    (h : ∀ s' es' n' t', Fx s s' (a :: wr) → SO th s'.heap a { o with data := .set es' n' t' } es' n' t' (kl.foldl f ks) → R (.ok (.ret .none)) s') : codeAny (model prog w) A c R s := by
  have hwr : a ∉ wr := feed_wr Fd ⟨A, hh⟩ S
  have tupOf : ∀ s', Fx s s' (a :: wr) → TupKept s.heap s'.heap := fun s' F => F.tup fun b hb => by
    rcases List.mem_cons.mp hb with rfl | hb
    · exact ⟨o, S.at_, S.notTuple⟩
    · exact Fd.wrNT _ _ Fd.start b hb
  refine feed_loop Fd hh (as := [a]) (fun b hb => by rw [List.mem_singleton.mp hb]; exact feed_ne Fd S) hq hu hden
    (fun d s' => Fx s s' (a :: wr) ∧ ∃ es' n' t', SO th s'.heap a { o with data := .set es' n' t' } es' n' t' (d.foldl f ks))
    (fun d s' hi => tupOf s' hi.1) ?_ ?_ ?_ ⟨Fx.refl _ _, es, n, t, S.self'⟩
  · rintro d s' s'' ⟨F, es', n', t', S'⟩ F' tk
    exact ⟨F.trans (F'.mono fun b hb => .tail _ hb), es', n', t', S'.fx F' tk hwr⟩
  · rintro k x d r s' hkl ⟨F, es', n', t', S'⟩ hk
    refine turn k x _ s' _ es' n' t' _ _ S' hk fun s'' es'' n'' t'' F' S'' => .inl ⟨rfl, F', F.trans (F'.mono fun b hb => by rw [List.mem_singleton.mp hb]; exact .head _), es'', n'', t'', ?_⟩
    rw [List.foldl_append]; exact S''
  · rintro s' ⟨F, es', n', t', S'⟩
    exact wpAny_pure ⟨_, rfl, h s' es' n' t' F S'⟩
end
end
section
open PySem PySem.W PyProof.Rows PySem.Calls Builtin
set_option Elab.async false
set_option maxRecDepth 100000
section
variable {prog : Program} {w : World} {κ : Type} [DecidableEq κ] {ek : EK prog w κ} {th : SetTh ek}
  {A : Around} {E : Value → Shared → Prop} {s : Shared} {R : Result → Shared → Prop} {a b : Addr} {o ob : Obj} {es eb : Array (Int × Value)} {n nb : Nat} {t tb : SetTable} {ks kb kl : List κ} {k : κ} {x v : Value} {w0 : List Addr}
theorem entry_ul : entryFor table "set.update.loop" = some Builtin.«set.update.loop» := entryFor_of_tree (by kernel_rfl)
theorem plain_ul : plainId "set.update.loop" = true := by decide +kernel
structure AOk2 (A : Around) : Prop where
  units : A.units + 300 < cLine
  room : A.depth + 8 < recursionLimit
  hand : A.handled = none
theorem AOk2.ok {A : Around} (h : AOk2 A) : AOk A := ⟨by have := h.units; omega, by have := h.room; omega⟩
theorem AOk2.ok1 {A : Around} (h : AOk2 A) : AOk A.in1 := ⟨by have := h.units; show A.units + 1 + 200 < _; omega, by have := h.room; show A.depth + 5 < _; omega⟩
structure NoSetAt (h : Heap) (l : Addr) (o : Obj) (T : String) : Prop where
  at_ : h.get? l = some o
  cls : o.cls = .type T
  noSet : isSubtype (.type T) (.type "set") = pure false
  noFs : isSubtype (.type T) (.type "frozenset") = pure false
  noDict : T ≠ "dict"
  data : ∀ es n t, o.data ≠ .set es n t
def NoSet (h : Heap) (v : Value) : Prop := ∃ l o T, v = .ref l ∧ NoSetAt h l o T
theorem NoSet.keep {h h' : Heap} {v : Value} (x : NoSet h v) (k : KeepNS h h') : NoSet h' v := by
  obtain ⟨l, o, T, e, y⟩ := x; exact ⟨l, o, T, e, k _ _ y.at_ y.data, y.cls, y.noSet, y.noFs, y.noDict, y.data⟩
theorem NoSet.any {h : Heap} {v : Value} (x : NoSet h v) : Looks (model prog w) h (Frozenset.isAnySet v) false := by
  obtain ⟨l, o, T, rfl, y⟩ := x
  have ty : Looks (model prog w) h (typeOf (.ref l)) (.type T) := y.cls ▸ (Looks.ld y.at_).andThen .now
  exact Looks.andThen (a := false) (ty.andThen (Looks.of_pure y.noSet)) (ty.andThen (Looks.of_pure y.noFs))
theorem NoSet.ty {h : Heap} {v : Value} (x : NoSet h v) : ∃ T, Looks (model prog w) h (typeOf v) T ∧ T ≠ .type "dict" := by
  obtain ⟨l, o, T, rfl, y⟩ := x
  exact ⟨.type T, y.cls ▸ (Looks.ld y.at_).andThen .now, fun q => y.noDict (by cases q; rfl)⟩
theorem NoSet.ne {h : Heap} {v : Value} (x : NoSet h v) (S : SO th h a o es n t ks) : v ≠ .ref a := fun q => by
  obtain ⟨l, o', T, e, y⟩ := x
  rw [q] at e; cases e
  have := S.at_; rw [y.at_] at this; cases this
  exact y.data _ _ _ S.data
theorem st_updateFeed {id : String} {Q : Unit → Shared → Prop} (hA : AOk2 A) (S : SO th s.heap a o es n t ks) (hv : NoSet s.heap v) (hi : Iter ek A s.heap v kl w0)
    (h : ∀ s' es' n' t', Fx s s' (a :: w0) → TupKept s.heap s'.heap → SO th s'.heap a { o with data := .set es' n' t' } es' n' t' (kl.foldl addK ks) → Q () s') : wpAny (model prog w) A (Frozenset.updateFrom id a v) Q E s := by
  unfold Frozenset.updateFrom
  refine wpAny_bind (Looks.here hv.any ?_)
  simp only [Bool.false_eq_true, if_false]
  obtain ⟨T, hT, hTn⟩ := NoSet.ty (prog := prog) (w := w) hv
  refine wpAny_bind (Looks.here hT ?_)
  rw [if_neg (by simpa using hTn)]
  refine wpAny_bind (hi s E _ (KeepNS.refl _) fun s₁ I fp wr P St F₁ Fd hw _ => ?_)
  have tk1 := nil_tup F₁
  have S₁ := S.fx F₁ tk1 (by simp)
  refine wpAny_bind (wpAny_runValue (A := A) ?_)
  have tupF : ∀ s', Fx s₁ s' (a :: wr) → TupKept s₁.heap s'.heap := fun s' F => F.tup fun b hb => by
    rcases List.mem_cons.mp hb with rfl | hb
    · exact ⟨o, S₁.at_, S₁.notTuple⟩
    · exact Fd.wrNT _ _ Fd.start b hb
  have hfin : ∀ s' es' n' t', Fx s₁ s' (a :: wr) → SO th s'.heap a { o with data := .set es' n' t' } es' n' t' (kl.foldl addK ks) → wpAny (model prog w) A (pure PUnit.unit) Q E s' := fun s' es' n' t' F' S' => by
    refine wpAny_pure (h s' es' n' t' ⟨fun b ob e nb => F'.keep _ _ (F₁.keep _ _ e (by simp)) fun m => ?_, F'.gens.trans F₁.gens, F'.os.trans F₁.os⟩ (tk1.trans (tupF s' F')) S')
    rcases List.mem_cons.mp m with q | q
    · exact nb (q ▸ .head _)
    · rcases hw b q with z | z
      · exact nb (.tail _ z)
      · rw [z] at e; cases e
  refine feed_set (th := th) Fd hA.hand S₁ (plainId_quiet plain_ul _) (Around.under_plainId plain_ul _) (body := fun x => do let _ ← holding [x] (setAdd a x); again (.builtin "set.update.loop" ⟨[.ref a, .ref I], []⟩)) (fun Q E s hn => ?_) addK (fun k x ks' s' o' es' n' t' Q' E' S' hk hq => ?_) (fun s' es' n' t' F' S' => hfin s' es' n' t' F' S')
  · rw [den_of entry_ul]
    refine wpAny_bind (wpAny_mono hn (fun r s' z => ?_) fun _ _ z => z)
    cases r <;> exact z
  · refine wpAny_bind (wpAny_holding (st_add (th := th) hA.ok1 S'.at_ S'.notTuple S'.data S'.is hk fun s'' es'' n'' t'' F'' e'' i'' => wpAny_pure (hq s'' es'' n'' t'' F'' (S'.new e'' i''))))
theorem fold_less : ∀ (kl ks : List κ), kl.foldl (fun l k => l.filter fun y => decide (y ≠ k)) ks = ks.filter fun k => decide (k ∉ kl)
  | [], ks => by rw [List.foldl_nil, List.filter_eq_self.mpr]; intro a _; simp
  | k :: kl, ks => by
    rw [List.foldl_cons, fold_less kl, List.filter_filter]
    refine List.filter_congr fun y _ => ?_
    by_cases h1 : y = k <;> by_cases h2 : y ∈ kl <;> simp [h1, h2]
theorem st_tidy {Q : Unit → Shared → Prop} (S : SO th s.heap a o es n t ks)
    (h : ∀ s' es' n' t', Fx s s' [a] → SO th s'.heap a { o with data := .set es' n' t' } es' n' t' ks → Q () s') : wpAny (model prog w) A (setTidy a) Q E s := by
  unfold setTidy
  refine wpAny_bind (st_state S.at_ S.data S.fits ?_)
  dsimp only
  have h12 : es.size ≤ 12 := by rw [S.is.size]; exact S.is.small
  split
  · refine st_relay S.at_ S.notTuple S.data S.is ?_ ?_ fun s' es' n' t' F e i _ _ _ => h s' es' n' t' F (S.new e i)
    · unfold SetTable.grown; split <;> omega
    · unfold SetTable.grown; split <;> omega
  · exact wpAny_pure (h s es n t (Fx.refl _ _) S.self')
theorem st_diffUpdateFeed {id : String} {Q : Unit → Shared → Prop} (hA : AOk2 A) (S : SO th s.heap a o es n t ks) (hne : v ≠ .ref a) (hany : Looks (model prog w) s.heap (Frozenset.isAnySet v) false) (hi : Iter ek A s.heap v kl w0)
    (h : ∀ s' es' n' t', Fx s s' (a :: w0) → TupKept s.heap s'.heap → SO th s'.heap a { o with data := .set es' n' t' } es' n' t' (ks.filter fun k => decide (k ∉ kl)) → Q () s') : wpAny (model prog w) A (Frozenset.differenceUpdate id a v) Q E s := by
  unfold Frozenset.differenceUpdate
  rw [if_neg (by simpa using hne)]
  refine wpAny_bind (Looks.here hany ?_)
  simp only [Bool.false_eq_true, if_false]
  refine wpAny_bind (hi s E _ (KeepNS.refl _) fun s₁ I fp wr P St F₁ Fd hw _ => ?_)
  have tk1 := nil_tup F₁
  have S₁ := S.fx F₁ tk1 (by simp)
  refine wpAny_bind (wpAny_runValue (A := A) ?_)
  refine feed_set (th := th) Fd hA.hand S₁ (plainId_quiet plain_dl _) (Around.under_plainId plain_dl _) (body := fun x => do let _ ← holding [x] (setDiscard a x); again (.builtin "set.difference_update.loop" ⟨[.ref a, .ref I], []⟩)) (fun Q E s hn => ?_) (fun l k => l.filter fun y => decide (y ≠ k)) (fun k x ks' s' o' es' n' t' Q' E' S' hk hq => ?_) (fun s' es' n' t' F' S' => ?_)
  · rw [den_of entry_dl]
    refine wpAny_bind (wpAny_mono hn (fun r s' z => ?_) fun _ _ z => z)
    cases r <;> exact z
  · refine wpAny_bind (wpAny_holding (st_discard (th := th) hA.ok1 S'.at_ S'.notTuple S'.data S'.is hk fun s'' es'' n'' t'' F'' e'' i'' => wpAny_pure (hq s'' es'' n'' t'' F'' (S'.new e'' i''))))
  · show wpAny _ _ (setTidy a) _ _ _
    refine (st_tidy S' fun s'' es'' n'' t'' F'' S'' => ?_)
    rw [fold_less] at S''
    have tupF : ∀ s', Fx s₁ s' (a :: wr) → TupKept s₁.heap s'.heap := fun s' F => F.tup fun b hb => by
      rcases List.mem_cons.mp hb with rfl | hb
      · exact ⟨o, S₁.at_, S₁.notTuple⟩
      · exact Fd.wrNT _ _ Fd.start b hb
    refine h s'' es'' n'' t'' ⟨fun b ob e nb => F''.keep _ _ (F'.keep _ _ (F₁.keep _ _ e (by simp)) fun m => ?_) fun m => nb (List.mem_singleton.mp m ▸ .head _), F''.gens.trans (F'.gens.trans F₁.gens), F''.os.trans (F'.os.trans F₁.os)⟩ (tk1.trans ((tupF s' F').trans (F''.tup1 S'.at_ S'.notTuple))) S''
    rcases List.mem_cons.mp m with q | q
    · exact nb (q ▸ .head _)
    · rcases hw b q with z | z
      · exact nb (.tail _ z)
      · rw [z] at e; cases e
end
end
section
open PySem PySem.W PyProof.Rows PySem.Calls Builtin
set_option Elab.async false
set_option maxRecDepth 100000
section
variable {prog : Program} {w : World} {κ : Type} [DecidableEq κ] {ek : EK prog w κ} {th : SetTh ek}
  {A : Around} {E : Value → Shared → Prop} {s : Shared} {R : Result → Shared → Prop} {a b d : Addr} {o ob od : Obj} {es eb : Array (Int × Value)} {n nb ep : Nat} {t tb : SetTable} {ks kb kl : List κ} {k : κ} {x v : Value} {w0 : List Addr} {ed : Array DictEntry}
structure DI (ek : EK prog w κ) (h : Heap) (d : Addr) (o : Obj) (es : Array DictEntry) (ep : Nat) (kl : List κ) : Prop where
  at_ : h.get? d = some o
  cls : o.cls = .type "dict"
  data : o.data = .dict es ep
  ents : All2 (fun e k => e.hash = ek.hash k ∧ ek.is h k e.key) es.toList kl
  nd : kl.Nodup
  noSys : (d == sysModules) = false
  noDict : o.dict = none
theorem DI.kept {h h' : Heap} (x : DI ek h d od ed ep kl) (e : h'.get? d = some od) (k : TupKept h h') : DI ek h' d od ed ep kl :=
  ⟨e, x.cls, x.data, All2.imp (fun _ _ z => ⟨z.1, ek.mono k z.2⟩) x.ents, x.nd, x.noSys, x.noDict⟩
theorem DI.fx {s s' : Shared} {as : List Addr} (x : DI ek s.heap d od ed ep kl) (f : Fx s s' as) (k : TupKept s.heap s'.heap) (hn : d ∉ as) : DI ek s'.heap d od ed ep kl := x.kept (f.keep _ _ x.at_ hn) k
theorem DI.typeOf {h : Heap} (x : DI ek h d od ed ep kl) : Looks (model prog w) h (typeOf (.ref d)) (.type "dict") := x.cls ▸ (Looks.ld x.at_).andThen .now
theorem sub_dict_set' : isSubtype (.type "dict") (.type "set") = pure false := by rw [isSubtype_type]; kernel_rfl
theorem sub_dict_fs' : isSubtype (.type "dict") (.type "frozenset") = pure false := by rw [isSubtype_type]; kernel_rfl
theorem DI.anySet {h : Heap} (x : DI ek h d od ed ep kl) : Looks (model prog w) h (Frozenset.isAnySet (.ref d)) false :=
  Looks.andThen (a := false) (x.typeOf.andThen (Looks.of_pure sub_dict_set')) (x.typeOf.andThen (Looks.of_pure sub_dict_fs'))
theorem DI.ne {h : Heap} (x : DI ek h d od ed ep kl) (S : SO th h a o es n t ks) : a ≠ d := fun q => by
  have := S.at_; rw [q, x.at_] at this; cases this
  have h1 := S.data; rw [x.data] at h1; cases h1
theorem DI.entries {Q : Array DictEntry → Shared → Prop} {part : Option Value} (x : DI ek s.heap d od ed ep kl) (h : Q ed s) : wpAny (model prog w) A (dictEntries d part) Q E s := wpAny_dictEntries x.at_ x.data h
theorem DI.epoch {Q : Nat → Shared → Prop} {part : Option Value} (x : DI ek s.heap d od ed ep kl) (h : Q ep s) : wpAny (model prog w) A (dictEpoch d part) Q E s := wpAny_dictEpoch x.at_ x.data h
theorem SO.eqKeys {h : Heap} {o' : Obj} {es' : Array (Int × Value)} {n' : Nat} {t' : SetTable} {ks' : List κ} (S : SO th h a o es n t ks) (S' : SO th h a o' es' n' t' ks') : ks.Perm ks' := by
  have h1 := S.at_; rw [S'.at_] at h1
  have h2 : o' = o := Option.some.inj h1
  have hd := S.data; rw [← h2, S'.data] at hd
  cases hd
  obtain ⟨l, z1, p1, _⟩ := S.is
  obtain ⟨l', z2, p2, _⟩ := S'.is
  have : l = l' := ents_unique z1 z2
  subst this
  exact p1.symm.trans p2
theorem st_clearSO {Q : Unit → Shared → Prop} (S : SO th s.heap a o es n t ks)
    (h : ∀ s' n' t', Fx s s' [a] → SO th s'.heap a { o with data := .set #[] n' t' } #[] n' t' [] → Q () s') : wpAny (model prog w) A (Frozenset.clearAll a) Q E s :=
  st_clear S.at_ S.notTuple S.data S.is fun s' n' t' F e i => h s' n' t' F (S.new e i)
theorem st_walkChange {f : (Int × Value) → PUnit → Sem (ForInStep PUnit)} {Q : PUnit → Shared → Prop} {l : List (Int × Value)} (g : List κ → κ → List κ)
    (hl : ek.Ents s.heap l kl) (S : SO th s.heap a o es n t ks)
    (turn : ∀ e k s' o' es' n' t' ks' (Q : ForInStep PUnit → Shared → Prop) (E : Value → Shared → Prop), Fx s s' [a] → SO th s'.heap a o' es' n' t' ks' → e.1 = ek.hash k → ek.is s'.heap k e.2 →
      (∀ s'' es'' n'' t'', Fx s' s'' [a] → SO th s''.heap a { o' with data := .set es'' n'' t'' } es'' n'' t'' (g ks' k) → Q (.yield ⟨⟩) s'') → wpAny (model prog w) A (f e ⟨⟩) Q E s')
    (fin : ∀ s' es' n' t', Fx s s' [a] → SO th s'.heap a { o with data := .set es' n' t' } es' n' t' (kl.foldl g ks) → Q ⟨⟩ s') : wpAny (model prog w) A (forIn l ⟨⟩ f) Q E s := by
  refine st_loop (ek := ek) (kl := kl) (fun d s' => Fx s s' [a] ∧ ∃ es' n' t', SO th s'.heap a { o with data := .set es' n' t' } es' n' t' (d.foldl g ks)) hl (fun d s' hi => hi.1.tup1 S.at_ S.notTuple) ?_ ⟨Fx.refl _ _, _, _, _, S.self'⟩ (fun s' ⟨F, es', n', t', S'⟩ => fin s' es' n' t' F S')
  rintro e k d rest s' _ ⟨F, es', n', t', S'⟩ hh hk
  refine turn e k s' _ es' n' t' _ _ _ F S' hh hk fun s'' es'' n'' t'' F' S'' => ⟨rfl, F.trans F', es'', n'', t'', ?_⟩
  rw [List.foldl_append]; exact S''
theorem filter_notin (kl : List κ) : ∀ ks : List κ, kl.foldl (fun l k => l.filter fun y => decide (y ≠ k)) ks = ks.filter fun k => decide (k ∉ kl) := fold_less kl
theorem st_diffUpdateSet {id : String} {Q : Unit → Shared → Prop} (hA : AOk2 A) (X : (KK w.params).In s.heap) (S : SO th s.heap a o es n t ks) (Sb : SO th s.heap b ob eb nb tb kb)
    (h : ∀ s' es' n' t', Fx s s' [a] → SO th s'.heap a { o with data := .set es' n' t' } es' n' t' (ks.filter fun k => decide (k ∉ kb)) → Q () s') : wpAny (model prog w) A (Frozenset.differenceUpdate id a (.ref b)) Q E s := by
  unfold Frozenset.differenceUpdate
  by_cases hab : b = a
  · subst hab
    rw [if_pos (by simp)]
    refine wpAny_bind (wpAny_rule (st_clearSO S fun s' n' t' F S' => h s' _ n' t' F (S'.perm ?_)))
    rw [List.filter_eq_nil_iff.mpr]
    intro k hk
    simpa using (S.eqKeys Sb).mem_iff.mp hk
  · rw [if_neg (by simpa using hab)]
    refine wpAny_bind (Looks.here (Sb.anySet X) ?_)
    simp only [if_true]
    have core : ∀ (s₁ : Shared) (c : Addr) (oc : Obj) (ec : Array (Int × Value)) (nc : Nat) (tc : SetTable) (kc : List κ), Fx s s₁ [] → SO th s₁.heap c oc ec nc tc kc → c ≠ a → (ks.filter fun k => decide (k ∉ kc)) = (ks.filter fun k => decide (k ∉ kb)) →
        wpAny (model prog w) A (do
          let was ← setEpoch c
          holding [.ref c] do
            for (h, x) in ← setWalkUnseen c [a] none do
              let _ ← holding [x] (setDiscardHashed a x h)
              Frozenset.unchanged id c was
          setTidy a) Q E s₁ := by
      intro s₁ c oc ec nc tc kc F₁ Sc hca hk
      have S₁ := S.fx F₁ (nil_tup F₁) (by simp)
      refine wpAny_bind (st_epoch Sc.at_ Sc.data Sc.fits (wpAny_bind (wpAny_holding (wpAny_bind ?_))))
      refine st_walkUnseen (th := th) (of := o) (ef := #[]) (nf := 0) (tf := t) (kf := []) (fa := 0) Sc.at_ Sc.data Sc.is (fun q hq => by rw [List.mem_singleton.mp hq]; exact ⟨_, _, _, _, _, S₁.at_, S₁.data, S₁.is⟩) (.inl rfl) fun es' s₂ pe F₂ _ => ?_
      have tk2 := nil_tup F₂
      obtain ⟨kl, hkl, pkl⟩ := walk_keys Sc.is pe
      rw [← Array.forIn_toList]
      refine wpAny_bind (st_walkChange (fun l k => l.filter fun y => decide (y ≠ k)) (hkl.mono tk2) (S₁.fx F₂ tk2 (by simp)) ?_ fun s₃ es₃ n₃ t₃ F₃ S₃ => wpAny_pure (st_tidy S₃ fun s₄ es₄ n₄ t₄ F₄ S₄ => h s₄ es₄ n₄ t₄ ?_ ?_))
      · rintro ⟨eh, ev⟩ k s₃ o₃ es₃ n₃ t₃ ks₃ Q' E' F₃ S₃ hh hk hq
        dsimp only at hh hk ⊢
        subst hh
        refine wpAny_bind (wpAny_holding (st_discardHashed (th := th) hA.ok S₃.at_ S₃.notTuple S₃.data S₃.is hk fun s₄ es₄ n₄ t₄ F₄ e₄ i₄ => ?_))
        have Sc₄ : SO th s₄.heap c oc ec nc tc kc := ((Sc.fx F₂ tk2 (by simp)).fx F₃ (F₃.tup1 (F₂.keep _ _ S₁.at_ (by simp)) S.notTuple) (by simpa using hca)).fx F₄ (F₄.tup1 S₃.at_ S₃.notTuple) (by simpa using hca)
        exact wpAny_bind (st_unchanged Sc₄ (wpAny_pure (hq s₄ es₄ n₄ t₄ F₄ (S₃.new e₄ i₄))))
      · exact ((F₁.mono (fun _ m => by cases m)).trans ((F₂.mono (fun _ m => by cases m)).trans F₃)).trans F₄
      · rw [fold_less] at S₄
        have : (ks.filter fun k => decide (k ∉ kl)) = ks.filter fun k => decide (k ∉ kb) := by
          rw [← hk]; refine List.filter_congr fun y _ => ?_
          simp only [pkl.mem_iff]
        rw [this] at S₄; exact S₄
    refine wpAny_bind (wpAny_pure (wpAny_bind (st_size Sb.at_ Sb.data Sb.fits (wpAny_bind (st_size S.at_ S.data S.fits ?_)))))
    by_cases hc : eb.size / 8 > es.size
    · rw [if_pos hc]
      refine wpAny_bind (wpAny_rule (wpAny_bind (st_intersectSet hA.ok X S Sb fun s₁ r er nr tr F₁ hr Sr => wpAny_bind (wpAny_pure ?_))))
      refine core s₁ r (setO er nr tr) er nr tr _ F₁ Sr (Ne.symm (fresh_ne hr S.at_)) (List.filter_congr fun y hy => ?_)
      simp [List.mem_filter, hy]
    · rw [if_neg hc]
      exact core s b ob eb nb tb kb (Fx.refl _ _) Sb hab rfl
end
end
section
open PySem PySem.W PyProof.Rows PySem.Calls Builtin
set_option Elab.async false
set_option maxRecDepth 100000
section
variable {prog : Program} {w : World} {κ : Type} [DecidableEq κ] {ek : EK prog w κ} {th : SetTh ek}
  {A : Around} {E : Value → Shared → Prop} {s : Shared} {R : Result → Shared → Prop} {a b d : Addr} {o ob od : Obj} {es eb : Array (Int × Value)} {n nb ep : Nat} {t tb : SetTable} {ks kb kl : List κ} {k : κ} {x v : Value} {w0 : List Addr} {ed : Array DictEntry}
theorem all_of_len {l m : List κ} (nd : l.Nodup) (sub : ∀ y ∈ l, y ∈ m) (h : m.length ≤ l.length) : ∀ y ∈ m, y ∈ l := fun y hy => by
  by_cases hn : y ∈ l
  · exact hn
  · have := List.Nodup.length_le_of_subset (l₁ := y :: l) (l₂ := m) (List.nodup_cons.mpr ⟨hn, nd⟩) (fun z hz => by
      rcases List.mem_cons.mp hz with rfl | hz
      · exact hy
      · exact sub z hz)
    simp at this; omega
inductive Opd (th : SetTh ek) (A : Around) (s : Shared) (v : Value) (kl : List κ) (w0 : List Addr) : Prop
  | set (b' : Addr) (o' : Obj) (es' : Array (Int × Value)) (n' : Nat) (t' : SetTable) : v = .ref b' → SO th s.heap b' o' es' n' t' kl → Opd th A s v kl w0
  | dict (d' : Addr) (o' : Obj) (ed' : Array DictEntry) (ep' : Nat) : v = .ref d' → DI ek s.heap d' o' ed' ep' kl → Iter ek A s.heap v kl w0 → Opd th A s v kl w0
  | feed : NoSet s.heap v → Iter ek A s.heap v kl w0 → Opd th A s v kl w0
theorem entry_il' : (model prog w).den (.builtin "frozenset.intersection.loop" ⟨[.ref a, v, .ref b], []⟩) = Builtin.«frozenset.intersection.loop» ⟨[.ref a, v, .ref b], []⟩ := den_of entry_il
theorem st_interLoop {r I : Addr} {er : Array (Int × Value)} {nr : Nat} {tr : SetTable} {fp wr : List Addr} {P : Nat → Value → Prop} {St : Nat → Heap → Prop} (hA : AOk2 A) (S : SO th s.heap a o es n t ks) (Sr : SO th s.heap r (setO er nr tr) er nr tr []) (hne : a ≠ r) (Fd : Feeding ek s I fp wr kl P St)
    (h : ∀ s' er' nr' tr', Fx s s' (r :: wr) → SO th s'.heap r (setO er' nr' tr') er' nr' tr' (ks.filter fun k => decide (k ∈ kl)) → R (.ok (.ret .none)) s') :
    codeAny (model prog w) A (.builtin "frozenset.intersection.loop" ⟨[.ref a, .ref I, .ref r], []⟩) R s := by
  have hwr : r ∉ wr := feed_wr Fd ⟨A, hA.hand⟩ Sr
  have hwa : a ∉ wr := feed_wr Fd ⟨A, hA.hand⟩ S
  have tupOf : ∀ s', Fx s s' (r :: wr) → TupKept s.heap s'.heap := fun s' F => F.tup fun b hb => by
    rcases List.mem_cons.mp hb with rfl | hb
    · exact ⟨_, Sr.at_, Sr.notTuple⟩
    · exact Fd.wrNT _ _ Fd.start b hb
  have hna : ∀ s', Fx s s' (r :: wr) → SO th s'.heap a o es n t ks := fun s' F => S.fx F (tupOf s' F) (by simp [hne, hwa])
  refine feed_loop Fd hA.hand (as := [r]) (fun b hb => by rw [List.mem_singleton.mp hb]; exact feed_ne Fd Sr) (plainId_quiet plain_il _) (Around.under_plainId plain_il _)
    (dn := ret .none) (body := fun x => do
      let h ← holding [x] (pyHash x)
      if (← holding [x] (setFind a x h)).isSome then
        let _ ← holding [x] (setAddHashed r x h)
        if (← Frozenset.sizeOf r) ≥ (← Frozenset.sizeOf a) then rule "frozenset.intersection.all-found"; return ← ret .none
      again (.builtin "frozenset.intersection.loop" ⟨[.ref a, .ref I, .ref r], []⟩))
    (fun Q E s hn => ?_)
    (fun d s' => Fx s s' (r :: wr) ∧ ∃ er' nr' tr' kr, SO th s'.heap r (setO er' nr' tr') er' nr' tr' kr ∧ ∀ y, y ∈ kr ↔ y ∈ d ∧ y ∈ ks)
    (fun d s' hi => tupOf s' hi.1) ?_ ?_ ?_ ⟨Fx.refl _ _, er, nr, tr, [], Sr, by simp⟩
  · rw [entry_il']
    refine wpAny_bind (wpAny_mono hn (fun r s' z => ?_) fun _ _ z => z)
    cases r <;> exact z
  · rintro d s' s'' ⟨F, er', nr', tr', kr, S', hk⟩ F' tk
    exact ⟨F.trans (F'.mono fun b hb => .tail _ hb), er', nr', tr', kr, S'.fx F' tk hwr, hk⟩
  · rintro k x d rest s₁ hkl ⟨F₁, er₁, nr₁, tr₁, kr, S₁, hkr⟩ hk
    refine wpAny_bind (wpAny_holding (ek.pyHash hA.ok1 hk fun s₂ K₂ => ?_))
    have tk2 : TupKept s₁.heap s₂.heap := .of fun b o e => kp_get K₂ e
    have F₂ : Fx s s₂ (r :: wr) := F₁.trans (Fx.of_keeps K₂ _)
    have Sa₂ := hna s₂ F₂
    have hk₂ := ek.mono tk2 hk
    refine wpAny_bind (wpAny_holding (th.find hA.ok1 Sa₂.at_ Sa₂.data Sa₂.is hk₂ fun s₃ q K₃ hq => ?_))
    have tk3 : TupKept s₂.heap s₃.heap := .of fun b o e => kp_get K₃ e
    have F₃ : Fx s s₃ (r :: wr) := F₂.trans (Fx.of_keeps K₃ _)
    have S₃ := (S₁.kept (kp_get K₂ S₁.at_) tk2).kept (kp_get K₃ (kp_get K₂ S₁.at_)) tk3
    rw [find_isSome Sa₂.is hk₂ hq]
    have same : Fx s₁ s₃ [r] := (Fx.of_keeps K₂ _).trans (Fx.of_keeps K₃ _)
    by_cases hm : k ∈ ks
    · simp only [hm, decide_true, if_true]
      refine wpAny_bind (wpAny_holding (th.add hA.ok1 S₃.at_ S₃.notTuple S₃.data S₃.is (ek.mono tk3 hk₂) fun s₄ e₄ n₄ t₄ F₄ g₄ i₄ => ?_))
      have S₄ := S₃.new g₄ i₄
      have F₄' : Fx s s₄ (r :: wr) := F₃.trans (F₄.mono fun b hb => by rw [List.mem_singleton.mp hb]; exact .head _)
      have Sa₄ := hna s₄ F₄'
      refine wpAny_bind (st_size S₄.at_ S₄.data S₄.fits (wpAny_bind (st_size Sa₄.at_ Sa₄.data Sa₄.fits ?_)))
      have hmem : ∀ y, y ∈ (if k ∈ kr then kr else kr ++ [k]) ↔ y ∈ d ++ [k] ∧ y ∈ ks := by
        intro y
        rw [show (if k ∈ kr then kr else kr ++ [k]) = addK kr k from rfl, mem_addK, hkr, List.mem_append, List.mem_singleton]
        constructor
        · rintro (⟨h1, h2⟩ | rfl)
          · exact ⟨.inl h1, h2⟩
          · exact ⟨.inr rfl, hm⟩
        · rintro ⟨h1 | rfl, h2⟩
          · exact .inl ⟨h1, h2⟩
          · exact .inr rfl
      by_cases hsz : e₄.size ≥ es.size
      · rw [if_pos hsz]
        refine wpAny_bind (wpAny_rule (wpAny_pure (.inr ⟨_, rfl, h s₄ e₄ n₄ t₄ F₄' (S₄.perm ?_)⟩)))
        have nd1 := S₄.is.nodup
        have sub : ∀ y ∈ (if k ∈ kr then kr else kr ++ [k]), y ∈ ks := fun y hy => ((hmem y).mp hy).2
        have hlen : ks.length ≤ (if k ∈ kr then kr else kr ++ [k]).length := by rw [← S₄.is.size, ← Sa₄.is.size]; exact hsz
        have all : ∀ y ∈ ks, y ∈ (if k ∈ kr then kr else kr ++ [k]) := by
          exact all_of_len nd1 sub hlen
        refine (List.perm_ext_iff_of_nodup nd1 (S.is.nodup.filter _)).mpr fun y => ?_
        rw [List.mem_filter]
        constructor
        · intro hy
          have := (hmem y).mp hy
          refine ⟨this.2, ?_⟩
          have h3 : y ∈ kl := by rw [hkl]; rcases List.mem_append.mp this.1 with z | z; exact List.mem_append_left _ z; rw [List.mem_singleton.mp z]; simp
          simpa using h3
        · exact fun hy => all y hy.1
      · rw [if_neg hsz]
        exact wpAny_pure (.inl ⟨rfl, same.trans F₄, F₄', e₄, n₄, t₄, _, S₄, hmem⟩)
    · simp only [hm, decide_false, Bool.false_eq_true, if_false]
      refine wpAny_pure (.inl ⟨rfl, same, F₃, er₁, nr₁, tr₁, kr, S₃, fun y => ?_⟩)
      rw [hkr, List.mem_append, List.mem_singleton]
      constructor
      · exact fun z => ⟨.inl z.1, z.2⟩
      · rintro ⟨h1 | rfl, h2⟩
        · exact ⟨h1, h2⟩
        · exact absurd h2 hm
  · rintro s' ⟨F, er', nr', tr', kr, S', hkr⟩
    refine wpAny_pure ⟨_, rfl, h s' er' nr' tr' F (S'.perm ?_)⟩
    refine (List.perm_ext_iff_of_nodup S'.is.nodup (S.is.nodup.filter _)).mpr fun y => ?_
    rw [hkr, List.mem_filter]; simp [and_comm]
end
end
section
open PySem PySem.W PyProof.Rows PySem.Calls Builtin
set_option Elab.async false
set_option maxRecDepth 100000
section
variable {prog : Program} {w : World} {κ : Type} [DecidableEq κ] {ek : EK prog w κ} {th : SetTh ek}
  {A : Around} {E : Value → Shared → Prop} {s : Shared} {R : Result → Shared → Prop} {a b d : Addr} {o ob od : Obj} {es eb : Array (Int × Value)} {n nb ep : Nat} {t tb : SetTable} {ks kb kl : List κ} {k : κ} {x v : Value} {w0 : List Addr} {ed : Array DictEntry}
theorem DI.notSet {h : Heap} (x : DI ek h d od ed ep kl) : ∀ es n t, od.data ≠ .set es n t := fun es n t q => by rw [x.data] at q; cases q
theorem DI.keepNS {h h' : Heap} (x : DI ek h d od ed ep kl) (k : KeepNS h h') (tk : TupKept h h') : DI ek h' d od ed ep kl := x.kept (k _ _ x.at_ x.notSet) tk
theorem Iter.keep {h h' : Heap} (x : Iter ek A h v kl w0) (k : KeepNS h h') : Iter ek A h' v kl w0 := fun s E Q k' hQ => x s E Q (k.trans k') fun s' I fp wr P St F Fd hw hf => hQ s' I fp wr P St F Fd hw fun b hb => (hf b hb).elim (fun ⟨o, e, n⟩ => .inl ⟨o, k b o e n, n⟩) .inr
theorem Opd.later {s' : Shared} (x : Opd th A s v kl w0) (k : KeepNS s.heap s'.heap) (tk : TupKept s.heap s'.heap) (hb : ∀ b o, v = .ref b → s.heap.get? b = some o → s'.heap.get? b = some o) : Opd th A s' v kl w0 := by
  cases x with
  | set b' o' es' n' t' e S => exact .set b' o' es' n' t' e (S.kept (hb _ _ e S.at_) tk)
  | dict d' o' ed' ep' e D I => exact .dict d' o' ed' ep' e (D.keepNS k tk) (I.keep k)
  | feed N I => exact .feed (N.keep k) (I.keep k)
theorem fx_w0 {s s₁ s₂ : Shared} {r : Addr} {wr : List Addr} (F₁ : Fx s s₁ []) (hr : s.heap.get? r = none) (F₂ : Fx s₁ s₂ (r :: wr)) (hw : ∀ b ∈ wr, b ∈ w0 ∨ s.heap.get? b = none) : Fx s s₂ w0 := by
  refine ⟨fun b o e nb => F₂.keep _ _ (F₁.keep _ _ e (by simp)) fun m => ?_, F₂.gens.trans F₁.gens, F₂.os.trans F₁.os⟩
  rcases List.mem_cons.mp m with q | q
  · rw [q, hr] at e; cases e
  · rcases hw b q with z | z
    · exact nb z
    · rw [z] at e; cases e
theorem st_intersect {id : String} {Q : Value → Shared → Prop} (hA : AOk2 A) (X : (KK w.params).In s.heap) (S : SO th s.heap a o es n t ks) (Ov : Opd th A s v kl w0)
    (h : ∀ s' r er nr tr, Fx s s' w0 → TupKept s.heap s'.heap → s.heap.get? r = none → SO th s'.heap r (setO er nr tr) er nr tr (ks.filter fun k => decide (k ∈ kl)) → Q (.ref r) s') : wpAny (model prog w) A (Frozenset.intersection id a v) Q E s := by
  have byFeed : v ≠ .ref a → Looks (model prog w) s.heap (Frozenset.isAnySet v) false → Iter ek A s.heap v kl w0 → wpAny (model prog w) A (Frozenset.intersection id a v) Q E s := by
    intro hne hany hit
    unfold Frozenset.intersection
    rw [if_neg (by simpa using hne)]
    obtain ⟨hh, gg, dd, tt, oo⟩ := s
    refine wpAny_bind ((S.baseOf X).at (wpAny_bind ?_))
    refine st_newSet (th := th) fun s₁ r t₁ F₁ hr e₁ i₁ z₁ => ?_
    have tk1 := nil_tup F₁
    have S₁ := S.fx (s := ⟨hh, gg, dd, tt, oo⟩) F₁ tk1 (by simp)
    have Sr₁ : SO th s₁.heap r (setO #[] 0 t₁) #[] 0 t₁ [] := ⟨e₁, .inr rfl, rfl, i₁ _⟩
    have hra := fresh_ne (s := ⟨hh, gg, dd, tt, oo⟩) hr S.at_
    refine wpAny_bind (wpAny_pure (wpAny_bind (wpAny_holding ?_)))
    refine wpAny_bind ((hany.keeps fun b o e => F₁.keep b o e (by simp)).here ?_)
    simp only [Bool.false_eq_true, if_false]
    refine wpAny_bind (hit s₁ E _ (KeepNS.nil (s := ⟨hh, gg, dd, tt, oo⟩) F₁) fun s₂ I fp wr P St F₂ Fd hw _ => ?_)
    have tk2 := nil_tup F₂
    refine wpAny_bind (wpAny_runValue (A := A) ?_)
    refine st_interLoop hA (S₁.fx F₂ tk2 (by simp)) (Sr₁.fx F₂ tk2 (by simp)) hra Fd fun s₃ er nr tr F₃ S₃ => ?_
    refine wpAny_pure (wpAny_pure (h s₃ r er nr tr (fx_w0 (s := ⟨hh, gg, dd, tt, oo⟩) (F₁.trans F₂) hr F₃ fun b hb => ?_) (tk1.trans (tk2.trans (F₃.tup fun b hb => by
      rcases List.mem_cons.mp hb with rfl | hb
      · exact ⟨_, (Sr₁.fx F₂ tk2 (by simp)).at_, Sr₁.notTuple⟩
      · exact Fd.wrNT _ _ Fd.start b hb))) hr S₃))
    rcases hw b hb with z | z
    · exact .inl z
    · refine .inr ?_
      cases q : hh.get? b with
      | none => rfl
      | some ob => rw [F₁.keep b ob q (by simp)] at z; cases z
  cases Ov with
  | set b' o' es' n' t' e S' =>
    subst e
    exact st_intersectSet hA.ok X S S' fun s' r er nr tr F hr Sr => h s' r er nr tr (F.mono fun _ m => by cases m) (nil_tup F) hr Sr
  | dict d' o' ed' ep' e D I =>
    subst e
    exact byFeed (fun q => D.ne S (by cases q; rfl)) D.anySet I
  | feed N I => exact byFeed (N.ne S) N.any I
theorem st_diffUpdate {id : String} {Q : Unit → Shared → Prop} (hA : AOk2 A) (X : (KK w.params).In s.heap) (S : SO th s.heap a o es n t ks) (Ov : Opd th A s v kl w0)
    (h : ∀ s' es' n' t', Fx s s' (a :: w0) → TupKept s.heap s'.heap → SO th s'.heap a { o with data := .set es' n' t' } es' n' t' (ks.filter fun k => decide (k ∉ kl)) → Q () s') : wpAny (model prog w) A (Frozenset.differenceUpdate id a v) Q E s := by
  cases Ov with
  | set b' o' es' n' t' e S' =>
    subst e
    exact st_diffUpdateSet hA X S S' fun s' es' n' t' F S'' => h s' es' n' t' (F.mono fun b m => by rw [List.mem_singleton.mp m]; exact .head _) (F.tup1 S.at_ S.notTuple) S''
  | dict d' o' ed' ep' e D I =>
    subst e
    exact st_diffUpdateFeed hA S (fun q => D.ne S (by cases q; rfl)) D.anySet I h
  | feed N I => exact st_diffUpdateFeed hA S (N.ne S) N.any I h
theorem st_difference {id : String} {Q : Value → Shared → Prop} (hA : AOk2 A) (X : (KK w.params).In s.heap) (S : SO th s.heap a o es n t ks) (Ov : Opd th A s v kl w0)
    (h : ∀ s' r er nr tr, Fx s s' w0 → TupKept s.heap s'.heap → s.heap.get? r = none → SO th s'.heap r (setO er nr tr) er nr tr (ks.filter fun k => decide (k ∉ kl)) → Q (.ref r) s') : wpAny (model prog w) A (Frozenset.difference id a v) Q E s := by
  have viaCopy : wpAny (model prog w) A (do
      let r ← Frozenset.copyOf a
      let u ← Frozenset.addrOf r
      holding [r] (Frozenset.differenceUpdate id u v)
      return r) Q E s := by
    refine wpAny_bind (st_copyOf X S fun s₁ r er nr tr F₁ hr S₁ => ?_)
    have tk1 := nil_tup F₁
    have X₁ : (KK w.params).In s₁.heap := X.keeps fun b o e => F₁.keep b o e (by simp)
    refine wpAny_bind (wpAny_pure (wpAny_bind (wpAny_holding ?_)))
    refine st_diffUpdate hA X₁ S₁ (Ov.later (KeepNS.nil F₁) tk1 fun b o _ e => F₁.keep b o e (by simp)) fun s₂ es' n' t' F₂ tk2 S₂ => wpAny_pure (h s₂ r es' n' t' (fx_w0 F₁ hr F₂ fun b m => .inl m) (tk1.trans tk2) hr S₂)
  /- the walk over the set itself, each looked up by there -/
  have walk : ∀ (look : Int → Value → (Bool → Sem PUnit) → Sem PUnit) (wk : ∀ (r : Addr), Sem (Array (Int × Value))) ,
      (∀ s₁ r t₁, Fx s s₁ [] → s.heap.get? r = none → SO th s₁.heap r (setO #[] 0 t₁) #[] 0 t₁ [] → ∀ Q' : Array (Int × Value) → Shared → Prop, (∀ es' s₂ n' t', es'.toList.Perm es.toList → Fx s₁ s₂ [r] → SO th s₂.heap r (setO #[] n' t') #[] n' t' [] → Q' es' s₂) → wpAny (model prog w) A (wk r) Q' E s₁) →
      (∀ k x s₁ r, Fx s s₁ [r] → s.heap.get? r = none → TupKept s.heap s₁.heap → ek.is s₁.heap k x → ∀ (c : Bool → Sem PUnit) (Q' : PUnit → Shared → Prop) E', (∀ s₂, Keeps s₁ s₂ → wpAny (model prog w) A (c (decide (k ∈ kl))) Q' E' s₂) → wpAny (model prog w) A (look (ek.hash k) x c) Q' E' s₁) →
      wpAny (model prog w) A (do
        let result ← newSet (← Frozenset.baseOf a)
        let r ← Frozenset.addrOf result
        let was ← setEpoch a
        holding [result] do
          for e in ← wk r do
            holding [e.2] (look e.1 e.2 fun there => if (!there) = true then do
                let _ ← setAddHashed r e.2 e.1
                pure ()
              else pure ())
            Frozenset.unchanged id a was
        return result) Q E s := by
    intro look wk hwk hlook
    obtain ⟨hh, gg, dd, tt, oo⟩ := s
    refine wpAny_bind ((S.baseOf X).at (wpAny_bind ?_))
    refine st_newSet (th := th) fun s₁ r t₁ F₁ hr e₁ i₁ z₁ => ?_
    have tk1 := nil_tup F₁
    have S₁ := S.fx (s := ⟨hh, gg, dd, tt, oo⟩) F₁ tk1 (by simp)
    have Sr₁ : SO th s₁.heap r (setO #[] 0 t₁) #[] 0 t₁ [] := ⟨e₁, .inr rfl, rfl, i₁ _⟩
    have hra := fresh_ne (s := ⟨hh, gg, dd, tt, oo⟩) hr S.at_
    refine wpAny_bind (wpAny_pure (wpAny_bind (st_epoch S₁.at_ S₁.data S₁.fits (wpAny_bind (wpAny_holding (wpAny_bind ?_))))))
    refine hwk s₁ r t₁ F₁ hr Sr₁ _ fun es' s₂ n' t' pe F₂ Sr₂ => ?_
    have tk2 := F₂.tup1 Sr₁.at_ Sr₁.notTuple
    obtain ⟨kw, hkw, pkw⟩ := walk_keys S₁.is pe
    have S₂ := S₁.fx F₂ tk2 (by simpa using hra)
    rw [← Array.forIn_toList]
    refine wpAny_bind (st_fill (fun k => !decide (k ∈ kl)) (hkw.mono tk2) (pkw.nodup_iff.mpr S₁.is.nodup) Sr₂ ?_ ?_)
    · rintro ⟨eh, ev⟩ k s₃ er₃ nr₃ tr₃ kr₃ F₃ Sr₃ hh' hk hnk
      dsimp only at hh' hk ⊢
      subst hh'
      have tk3 := F₃.tup1 Sr₂.at_ Sr₂.notTuple
      have S₃ := S₂.fx F₃ tk3 (by simpa using hra)
      have Fs : Fx ⟨hh, gg, dd, tt, oo⟩ s₃ [r] := (F₁.mono fun _ m => by cases m).trans (F₂.trans F₃)
      refine wpAny_bind (wpAny_holding (hlook k ev s₃ r Fs hr (tk1.trans (tk2.trans tk3)) hk _ _ _ fun s₄ K₄ => ?_))
      have tk4 : TupKept s₃.heap s₄.heap := .of fun b o e => kp_get K₄ e
      have Sr₄ := Sr₃.kept (kp_get K₄ Sr₃.at_) tk4
      have S₄ := S₃.kept (kp_get K₄ S₃.at_) tk4
      have F₄ : Fx s₂ s₄ [r] := F₃.trans (Fx.of_keeps K₄ _)
      by_cases hm : k ∈ kl
      · simp only [hm, decide_true, Bool.not_true, Bool.false_eq_true, if_false]
        exact wpAny_pure (wpAny_bind (st_unchanged S₄ (wpAny_pure ⟨rfl, _, _, _, F₄, Sr₄⟩)))
      · simp only [hm, decide_false, Bool.not_false, if_true]
        refine wpAny_bind (th.add hA.ok Sr₄.at_ Sr₄.notTuple Sr₄.data Sr₄.is (ek.mono tk4 hk) fun s₅ e5 n5 t5 F₅ g5 i5 => wpAny_pure ?_)
        have tk5 := F₅.tup1 Sr₄.at_ Sr₄.notTuple
        refine wpAny_bind (st_unchanged (S₄.fx F₅ tk5 (by simpa using hra)) (wpAny_pure ⟨rfl, e5, n5, t5, F₄.trans F₅, ⟨g5, .inr rfl, rfl, ?_⟩⟩))
        rw [if_neg hnk] at i5; exact i5
    · intro s₃ e3 n3 t3 F₃ S₃
      refine wpAny_pure (wpAny_pure (h s₃ r e3 n3 t3 ((fx_fresh F₁ hr (F₂.trans F₃)).mono fun _ m => by cases m) (tk1.trans (tk2.trans (F₃.tup1 Sr₂.at_ Sr₂.notTuple))) hr (S₃.perm ((pkw.filter _).trans ?_))))
      rw [show (fun k => !decide (k ∈ kl)) = (fun k => decide (k ∉ kl)) from by funext y; simp]
  unfold Frozenset.difference
  cases Ov with
  | set b' o' es' n' t' e S' =>
    subst e
    refine wpAny_bind (Looks.here (S'.anySet X) ?_)
    simp only [Bool.not_true, Bool.false_eq_true, if_false, Bool.false_and, if_true]
    refine wpAny_bind (wpAny_pure ?_)
    refine wpAny_bind (st_size S'.at_ S'.data S'.fits (wpAny_bind (st_size S.at_ S.data S.fits ?_)))
    split
    · exact wpAny_bind (wpAny_rule viaCopy)
    · refine walk (fun h x c => setFind b' x h >>= fun q => pure q.isSome >>= c) (fun r => setWalkUnseen a [b', r] (some r)) ?_ ?_
      · intro s₁ r t₁ F₁ hr Sr₁ Q' hq
        have tk1 := nil_tup F₁
        have S₁ := S.fx F₁ tk1 (by simp)
        have S'₁ := S'.fx F₁ tk1 (by simp)
        refine st_walkUnseen (th := th) S₁.at_ S₁.data S₁.is (fun b hb => ?_) (.inr ⟨rfl, Sr₁.at_, Sr₁.data, Sr₁.is, Sr₁.notTuple⟩) fun es'' s₂ pe F₂ hf₂ => ?_
        · rcases List.mem_cons.mp hb with rfl | hb
          · exact ⟨_, _, _, _, _, S'₁.at_, S'₁.data, S'₁.is⟩
          · rw [List.mem_singleton.mp hb]; exact ⟨_, _, _, _, _, Sr₁.at_, Sr₁.data, Sr₁.is⟩
        · obtain ⟨nf', tf', er₂, ir₂⟩ := hf₂ r rfl
          exact hq es'' s₂ nf' tf' pe F₂ ⟨er₂, .inr rfl, rfl, ir₂⟩
      · intro k x s₁ r F₁ hr tk1 hk c Q' E' hq
        have S'₁ := S'.fx F₁ tk1 (by simpa using fresh_ne hr S'.at_)
        refine wpAny_bind (th.find hA.ok S'₁.at_ S'₁.data S'₁.is hk fun s₂ q K hqq => wpAny_bind (wpAny_pure ?_))
        rw [find_isSome S'₁.is hk hqq]; exact hq s₂ K
  | dict d' o' ed' ep' e D I =>
    subst e
    refine wpAny_bind (Looks.here D.anySet ?_)
    simp only [Bool.not_false, if_true, Bool.true_and]
    refine wpAny_bind (Looks.here D.typeOf ?_)
    rw [if_neg (by simp)]
    refine wpAny_bind (wpAny_pure ?_)
    rw [if_neg (by rw [D.noSys]; decide)]
    simp only [Bool.false_eq_true, if_false]
    refine wpAny_bind (D.entries (wpAny_bind (wpAny_pure (wpAny_bind (st_size S.at_ S.data S.fits ?_)))))
    split
    · exact wpAny_bind (wpAny_rule viaCopy)
    · refine walk (fun h x c => dictFind d' x h >>= fun q => pure q.isSome >>= c) (fun r => setWalk a) ?_ ?_
      · intro s₁ r t₁ F₁ hr Sr₁ Q' hq
        have S₁ := S.fx F₁ (nil_tup F₁) (by simp)
        exact st_walk S₁.at_ S₁.data S₁.fits S₁.is.led fun es'' d pe => hq es'' _ 0 t₁ pe ⟨fun _ _ e _ => e, rfl, rfl⟩ Sr₁
      · intro k x s₁ r F₁ hr tk1 hk c Q' E' hq
        have D₁ := D.fx F₁ tk1 (by simpa using fresh_ne hr D.at_)
        refine wpAny_bind (ek.dictFind hA.ok D₁.at_ D₁.data D₁.ents D₁.nd hk fun s₂ q K hqq => wpAny_bind (wpAny_pure ?_))
        have : q.isSome = decide (k ∈ kl) := by
          cases q with
          | none => simpa using hqq
          | some i => simpa using List.mem_of_getElem? hqq
        rw [this]; exact hq s₂ K
  | feed N I =>
    refine wpAny_bind (Looks.here N.any ?_)
    simp only [Bool.not_false, if_true]
    obtain ⟨T, hT, hTn⟩ := NoSet.ty (prog := prog) (w := w) N
    refine wpAny_bind (Looks.here hT ?_)
    rw [if_pos (by simpa using hTn)]
    exact viaCopy
end
end
section
open PySem PySem.W PyProof.Rows PySem.Calls Builtin
set_option Elab.async false
set_option maxRecDepth 100000
section
variable {prog : Program} {w : World} {κ : Type} [DecidableEq κ] {ek : EK prog w κ} {th : SetTh ek}
  {A : Around} {E : Value → Shared → Prop} {s : Shared} {R : Result → Shared → Prop} {a b d : Addr} {o ob od : Obj} {es eb : Array (Int × Value)} {n nb ep : Nat} {t tb : SetTable} {ks kb kl : List κ} {k : κ} {x v : Value} {w0 : List Addr} {ed : Array DictEntry}
def flipK (ks : List κ) (k : κ) : List κ := if k ∈ ks then ks.filter (fun y => decide (y ≠ k)) else ks ++ [k]
theorem nodup_flipK {ks : List κ} {k : κ} (nd : ks.Nodup) : (flipK ks k).Nodup := by
  unfold flipK; split
  · exact nd.filter _
  · rename_i h; exact List.nodup_append.mpr ⟨nd, by simp, fun a ha b hb e => h (by rw [← List.mem_singleton.mp hb, ← e]; exact ha)⟩
theorem nodup_flips : ∀ {kl ks : List κ}, ks.Nodup → (kl.foldl flipK ks).Nodup
  | [], _, h => h
  | _ :: kl, _, h => nodup_flips (kl := kl) (nodup_flipK h)
theorem mem_flipK {ks : List κ} {k x : κ} : x ∈ flipK ks k ↔ (x ∈ ks ∧ x ≠ k) ∨ (x ∉ ks ∧ x = k) := by
  unfold flipK; split
  · rename_i h
    simp only [List.mem_filter, decide_eq_true_eq]
    constructor
    · exact .inl
    · rintro (z | ⟨z, rfl⟩)
      · exact z
      · exact absurd h z
  · rename_i h
    rw [List.mem_append, List.mem_singleton]
    constructor
    · rintro (z | rfl)
      · exact .inl ⟨z, fun q => h (q ▸ z)⟩
      · exact .inr ⟨h, rfl⟩
    · rintro (⟨z, _⟩ | ⟨_, z⟩)
      · exact .inl z
      · exact .inr z
theorem mem_flips : ∀ {kl ks : List κ} {x : κ}, kl.Nodup → (x ∈ kl.foldl flipK ks ↔ (x ∈ ks ∧ x ∉ kl) ∨ (x ∉ ks ∧ x ∈ kl))
  | [], ks, x, _ => by simp
  | k :: kl, ks, x, nd => by
    rw [List.foldl_cons, mem_flips (List.nodup_cons.mp nd).2, mem_flipK]
    have hk := (List.nodup_cons.mp nd).1
    by_cases h1 : x = k
    · subst h1; by_cases h2 : x ∈ ks <;> simp [h2, hk]
    · by_cases h2 : x ∈ ks <;> by_cases h3 : x ∈ kl <;> simp [h1, h2, h3]
theorem flips_perm {kl ks : List κ} (n1 : ks.Nodup) (n2 : kl.Nodup) : (kl.foldl flipK ks).Perm ((ks.filter fun k => decide (k ∉ kl)) ++ kl.filter fun k => decide (k ∉ ks)) := by
  refine (List.perm_ext_iff_of_nodup (nodup_flips n1) ?_).mpr fun x => ?_
  · refine List.nodup_append.mpr ⟨n1.filter _, n2.filter _, fun a ha b hb e => ?_⟩
    have h1 := (List.mem_filter.mp ha).1
    have h2 := (List.mem_filter.mp hb).2
    rw [← e] at h2; simp at h2; exact h2 h1
  · rw [mem_flips n2, List.mem_append, List.mem_filter, List.mem_filter]; simp [and_comm]
theorem st_flip {Q : Unit → Shared → Prop} (hA : AOk A) (S : SO th s.heap a o es n t ks) (hk : ek.is s.heap k x)
    (h : ∀ s' es' n' t', Fx s s' [a] → SO th s'.heap a { o with data := .set es' n' t' } es' n' t' (flipK ks k) → Q () s') :
    wpAny (model prog w) A (do
      let q ← setDiscardHashed a x (ek.hash k)
      if (!q) = true then
        let _ ← setAddHashed a x (ek.hash k)
        pure ()
      else pure ()) Q E s := by
  refine wpAny_bind (st_discardHashed (th := th) hA S.at_ S.notTuple S.data S.is hk fun s₁ es₁ n₁ t₁ F₁ e₁ i₁ => ?_)
  have S₁ := S.new e₁ i₁
  have tk1 := F₁.tup1 S.at_ S.notTuple
  by_cases hm : k ∈ ks
  · simp only [hm, decide_true, Bool.not_true, Bool.false_eq_true, if_false]
    refine wpAny_pure (h s₁ es₁ n₁ t₁ F₁ ?_)
    rw [show flipK ks k = ks.filter fun y => decide (y ≠ k) from if_pos hm]; exact S₁
  · simp only [hm, decide_false, Bool.not_false, if_true]
    refine wpAny_bind (th.add hA S₁.at_ S₁.notTuple S₁.data S₁.is (ek.mono tk1 hk) fun s₂ es₂ n₂ t₂ F₂ e₂ i₂ => wpAny_pure (h s₂ es₂ n₂ t₂ (F₁.trans F₂) ?_))
    have S₂ := S₁.new e₂ i₂
    have e1 : (ks.filter fun y => decide (y ≠ k)) = ks := List.filter_eq_self.mpr fun y hy => by simp only [decide_eq_true_eq]; exact fun q => hm (q ▸ hy)
    rw [e1, if_neg hm] at S₂
    rw [show flipK ks k = ks ++ [k] from if_neg hm]; exact S₂
theorem st_dictChange {f : Nat → PUnit → Sem (ForInStep PUnit)} {Q : PUnit → Shared → Prop} (g : List κ → κ → List κ) (D : DI ek s.heap d od ed ep kl) (S : SO th s.heap a o es n t ks)
    (turn : ∀ i k e s' o' es' n' t' ks' (Q : ForInStep PUnit → Shared → Prop) (E : Value → Shared → Prop), DI ek s'.heap d od ed ep kl → SO th s'.heap a o' es' n' t' ks' → ed[i]? = some e → e.hash = ek.hash k → ek.is s'.heap k e.key →
      (∀ s'' es'' n'' t'', Fx s' s'' [a] → SO th s''.heap a { o' with data := .set es'' n'' t'' } es'' n'' t'' (g ks' k) → Q (.yield ⟨⟩) s'') → wpAny (model prog w) A (f i ⟨⟩) Q E s')
    (fin : ∀ s' es' n' t', Fx s s' [a] → SO th s'.heap a { o with data := .set es' n' t' } es' n' t' (kl.foldl g ks) → Q ⟨⟩ s') : wpAny (model prog w) A (forIn [0:ed.size] ⟨⟩ f) Q E s := by
  rw [Std.Legacy.Range.forIn_eq_forIn_range']
  have had := D.ne S
  have hlen : ed.size = kl.length := by rw [← Array.length_toList]; exact All2.length D.ents
  have hr : ([0:ed.size] : Std.Legacy.Range).start = 0 ∧ ([0:ed.size] : Std.Legacy.Range).size = ed.size ∧ ([0:ed.size] : Std.Legacy.Range).step = 1 := ⟨rfl, by simp [Std.Legacy.Range.size], rfl⟩
  rw [hr.1, hr.2.1, hr.2.2]
  refine wpAny_forIn_list f (fun rest _ s' => ∃ m, rest = List.range' m (kl.length - m) ∧ m ≤ kl.length ∧ Fx s s' [a] ∧ ∃ es' n' t', SO th s'.heap a { o with data := .set es' n' t' } es' n' t' ((kl.take m).foldl g ks)) Q ?_ ?_ _ ⟨⟩ ⟨0, by rw [hlen]; rfl, Nat.zero_le _, Fx.refl _ _, _, _, _, S.self'⟩
  · rintro i rest _ s' ⟨m, hrest, hm, F, es', n', t', S'⟩
    have hlt : m < kl.length := by
      by_cases q : m < kl.length
      · exact q
      · have : kl.length - m = 0 := by omega
        rw [this] at hrest; cases hrest
    obtain ⟨j, hj⟩ : ∃ j, kl.length - m = j + 1 := ⟨kl.length - m - 1, by omega⟩
    rw [hj, List.range'_succ] at hrest
    cases hrest
    have hk : kl[i]? = some kl[i] := List.getElem?_eq_getElem hlt
    have tk := F.tup1 S.at_ S.notTuple
    have D' := D.fx F tk (by simpa using Ne.symm had)
    obtain ⟨e, he, hh⟩ := All2.get' D'.ents hk
    rw [Array.getElem?_toList] at he
    refine turn i kl[i] e s' _ es' n' t' _ _ _ D' S' he hh.1 hh.2 fun s'' es'' n'' t'' F' S'' => ⟨i + 1, ?_, hlt, F.trans F', es'', n'', t'', ?_⟩
    · congr 1; omega
    · rw [List.take_add_one, hk, List.foldl_append]; exact S''
  · rintro _ s' ⟨m, hrest, hm, F, es', n', t', S'⟩
    have : kl.length - m = 0 := by
      cases q : kl.length - m with
      | zero => rfl
      | succ j => rw [q, List.range'_succ] at hrest; cases hrest
    rw [List.take_of_length_le (by omega)] at S'
    exact fin s' es' n' t' F S'
end
end
section
open PySem PySem.W PyProof.Rows PySem.Calls Builtin
set_option Elab.async false
set_option maxRecDepth 100000
section
variable {prog : Program} {w : World} {κ : Type} [DecidableEq κ] {ek : EK prog w κ} {th : SetTh ek}
  {A : Around} {E : Value → Shared → Prop} {s : Shared} {R : Result → Shared → Prop} {a b d : Addr} {o ob od : Obj} {es eb : Array (Int × Value)} {n nb ep : Nat} {t tb : SetTable} {ks kb kl : List κ} {k : κ} {x v : Value} {w0 : List Addr} {ed : Array DictEntry}
theorem st_updateDict {id : String} {Q : Unit → Shared → Prop} (hA : AOk A) (S : SO th s.heap a o #[] n t []) (hz : t.fill = 0) (D : DI ek s.heap d od ed ep kl)
    (h : ∀ s' es' n' t', Fx s s' [a] → SO th s'.heap a { o with data := .set es' n' t' } es' n' t' (kl.foldl addK []) → Q () s') : wpAny (model prog w) A (Frozenset.updateFrom id a (.ref d)) Q E s := by
  unfold Frozenset.updateFrom
  refine wpAny_bind (Looks.here D.anySet ?_)
  simp only [Bool.false_eq_true, if_false]
  refine wpAny_bind (Looks.here D.typeOf ?_)
  rw [if_pos (by simp)]
  refine wpAny_bind (wpAny_rule (wpAny_bind (wpAny_pure ?_)))
  rw [if_neg (by rw [D.noSys]; decide)]
  have hlen : ed.size = kl.length := by rw [← Array.length_toList]; exact All2.length D.ents
  have hkl : kl.length ≤ 12 := EK.small (ek := ek) D.nd fun k hk => by
    obtain ⟨e, _, h⟩ := All2.right D.ents hk
    exact ek.mem h.2
  refine wpAny_bind (D.epoch (wpAny_bind (D.entries (wpAny_bind ?_))))
  refine st_roomFor S.at_ S.notTuple S.data S.is (by omega) hz fun s₁ es₁ n₁ t₁ F₁ e₁ i₁ q₁ _ _ => ?_
  have S₁ := S.new e₁ i₁
  have tk1 := F₁.tup1 S.at_ S.notTuple
  have D₁ := D.fx F₁ tk1 (by simpa using Ne.symm (D.ne S))
  refine wpAny_bind (D₁.entries (wpAny_bind ?_))
  refine st_dictChange addK D₁ S₁ ?_ fun s₂ es₂ n₂ t₂ F₂ S₂ => wpAny_pure (h s₂ es₂ n₂ t₂ (F₁.trans F₂) S₂)
  rintro i k e s' o' es' n' t' ks' Q' E' D' S' he hh hk hq
  refine wpAny_bind (D'.entries ?_)
  rw [he]
  dsimp only
  rw [hh]
  refine wpAny_bind (wpAny_holding (th.add hA S'.at_ S'.notTuple S'.data S'.is hk fun s'' es'' n'' t'' F'' e'' i'' => ?_))
  have D'' := D'.fx F'' (F''.tup1 S'.at_ S'.notTuple) (by simpa using Ne.symm (D'.ne S'))
  refine wpAny_bind (D''.epoch ?_)
  rw [if_neg (by simp)]
  exact wpAny_pure (hq s'' es'' n'' t'' F'' (S'.new e'' i''))
theorem st_fillFrom {id : String} {Q : Unit → Shared → Prop} (hA : AOk2 A) (S : SO th s.heap a o #[] n t []) (hz : t.fill = 0) (Ov : Opd th A s v kl w0) (hns : ∀ b o, v = .ref b → s.heap.get? b = some o → ∀ es n t, o.data ≠ .set es n t)
    (h : ∀ s' es' n' t', Fx s s' (a :: w0) → TupKept s.heap s'.heap → SO th s'.heap a { o with data := .set es' n' t' } es' n' t' (kl.foldl addK []) → Q () s') : wpAny (model prog w) A (Frozenset.updateFrom id a v) Q E s := by
  cases Ov with
  | set b' o' es' n' t' e S' => exact absurd S'.data (hns _ _ e S'.at_ _ _ _)
  | dict d' o' ed' ep' e D I =>
    subst e
    exact st_updateDict hA.ok S hz D fun s' es' n' t' F S' => h s' es' n' t' (F.mono fun b m => by rw [List.mem_singleton.mp m]; exact .head _) (F.tup1 S.at_ S.notTuple) S'
  | feed N I => exact st_updateFeed hA S N I h
theorem addAll_app : ∀ {kl ks : List κ}, (ks ++ kl).Nodup → kl.foldl addK ks = ks ++ kl
  | [], ks, _ => by simp
  | k :: kl, ks, nd => by
    have hk : k ∉ ks := fun m => (List.nodup_append.mp nd).2.2 k m k (.head _) rfl
    rw [List.foldl_cons, show addK ks k = ks ++ [k] from if_neg hk, addAll_app (by rw [List.append_assoc]; exact nd), List.append_assoc]; rfl
theorem addAll_nodup {kl : List κ} (nd : kl.Nodup) : kl.foldl addK [] = kl := addAll_app (ks := []) nd
theorem flip_eq (a : Addr) (h : Int) (x : Value) : (holding [x] do
    if !(← setDiscardHashed a x h) then
      let _ ← setAddHashed a x h : Sem Unit) = holding [x] (do
      let q ← setDiscardHashed a x h
      if (!q) = true then
        let _ ← setAddHashed a x h
        pure ()
      else pure ()) := rfl
theorem st_symSet {id : String} {Q : Unit → Shared → Prop} (hA : AOk A) (S : SO th s.heap a o es n t ks) (Sb : SO th s.heap b ob eb nb tb kb) (hab : b ≠ a)
    (h : ∀ s' es' n' t', Fx s s' [a] → SO th s'.heap a { o with data := .set es' n' t' } es' n' t' ((ks.filter fun k => decide (k ∉ kb)) ++ kb.filter fun k => decide (k ∉ ks)) → Q () s') :
    wpAny (model prog w) A (do
      let was ← setEpoch b
      holding [.ref b] do
        for (h, x) in ← setWalkUnseen b [a] (some a) do
          holding [x] do
            if !(← setDiscardHashed a x h) then
              let _ ← setAddHashed a x h
          Frozenset.unchanged id b was) Q E s := by
  refine wpAny_bind (st_epoch Sb.at_ Sb.data Sb.fits (wpAny_holding (wpAny_bind ?_)))
  refine st_walkUnseen (th := th) Sb.at_ Sb.data Sb.is (fun q hq => by rw [List.mem_singleton.mp hq]; exact ⟨_, _, _, _, _, S.at_, S.data, S.is⟩) (.inr ⟨rfl, S.at_, S.data, S.is, S.notTuple⟩) fun es' s₂ pe F₂ hf₂ => ?_
  obtain ⟨nf', tf', e₂, i₂⟩ := hf₂ a rfl
  have F₂' : Fx s s₂ [a] := F₂
  have S₂ := S.new e₂ i₂
  have tk2 := F₂'.tup1 S.at_ S.notTuple
  have Sb₂ := Sb.fx F₂' tk2 (by simpa using hab)
  obtain ⟨kl, hkl, pkl⟩ := walk_keys Sb.is pe
  rw [← Array.forIn_toList]
  refine wpAny_bind (st_walkChange flipK (hkl.mono tk2) S₂ ?_ fun s₃ es₃ n₃ t₃ F₃ S₃ => wpAny_pure (h s₃ es₃ n₃ t₃ (F₂'.trans F₃) (S₃.perm ?_)))
  · rintro ⟨eh, ev⟩ k s₃ o₃ es₃ n₃ t₃ ks₃ Q' E' F₃ S₃ hh hk hq
    dsimp only at hh hk ⊢
    subst hh
    refine wpAny_bind (wpAny_holding (st_flip hA S₃ hk fun s₄ es₄ n₄ t₄ F₄ S₄ => ?_))
    have Sb₄ := (Sb₂.fx F₃ (F₃.tup1 S₂.at_ S₂.notTuple) (by simpa using hab)).fx F₄ (F₄.tup1 S₃.at_ S₃.notTuple) (by simpa using hab)
    exact wpAny_bind (st_unchanged Sb₄ (wpAny_pure (hq s₄ es₄ n₄ t₄ F₄ S₄)))
  · have nk := pkl.nodup_iff.mpr Sb.is.nodup
    refine (flips_perm S.is.nodup nk).trans (List.Perm.append ?_ (pkl.filter _))
    rw [List.filter_congr (q := fun k => decide (k ∉ kb)) fun y _ => by simp only [pkl.mem_iff]]
theorem st_symUpdate {id : String} {Q : Unit → Shared → Prop} (hA : AOk2 A) (X : (KK w.params).In s.heap) (S : SO th s.heap a o es n t ks) (Ov : Opd th A s v kl w0) (nd : kl.Nodup) (ha0 : a ∉ w0)
    (h : ∀ s' es' n' t', Fx s s' (a :: w0) → TupKept s.heap s'.heap → SO th s'.heap a { o with data := .set es' n' t' } es' n' t' ((ks.filter fun k => decide (k ∉ kl)) ++ kl.filter fun k => decide (k ∉ ks)) → Q () s') : wpAny (model prog w) A (Frozenset.symmetricDifferenceUpdate id a v) Q E s := by
  have one : ∀ s', Fx s s' [a] → Fx s s' (a :: w0) := fun s' F => F.mono fun b m => by rw [List.mem_singleton.mp m]; exact .head _
  unfold Frozenset.symmetricDifferenceUpdate
  cases Ov with
  | set b' o' es' n' t' e S' =>
    subst e
    by_cases hab : b' = a
    · subst hab
      rw [if_pos (by simp)]
      have hp := S.eqKeys S'
      refine wpAny_bind (wpAny_rule (st_clearSO S fun s' n' t' F S'' => h s' _ n' t' (one s' F) (F.tup1 S.at_ S.notTuple) (S''.perm ?_)))
      rw [List.filter_eq_nil_iff.mpr, List.filter_eq_nil_iff.mpr]
      · exact .refl _
      · intro k hk; simpa using hp.mem_iff.mpr hk
      · intro k hk; simpa using hp.mem_iff.mp hk
    · rw [if_neg (by simpa using hab)]
      dsimp only
      refine wpAny_bind (Looks.here S'.typeOf ?_)
      rw [if_neg (by rcases S'.cls with q | q <;> rw [q] <;> decide)]
      refine wpAny_bind (Looks.here (S'.anySet X) ?_)
      simp only [if_true]
      refine wpAny_bind (wpAny_pure (wpAny_bind (wpAny_pure ?_)))
      exact st_symSet hA.ok S S' hab fun s' es' n' t' F S'' => h s' es' n' t' (one s' F) (F.tup1 S.at_ S.notTuple) S''
  | dict d' o' ed' ep' e D I =>
    subst e
    rw [if_neg (by simpa using Ne.symm (D.ne S))]
    dsimp only
    refine wpAny_bind (Looks.here D.typeOf ?_)
    rw [if_pos (by simp)]
    refine wpAny_bind (wpAny_rule (wpAny_bind (wpAny_pure ?_)))
    rw [if_neg (by rw [D.noSys]; decide)]
    refine wpAny_bind (D.epoch (wpAny_bind (D.entries (wpAny_bind ?_))))
    refine st_dictChange flipK D S ?_ fun s₂ es₂ n₂ t₂ F₂ S₂ => wpAny_pure (h s₂ es₂ n₂ t₂ (one _ F₂) (F₂.tup1 S.at_ S.notTuple) (S₂.perm (flips_perm S.is.nodup nd)))
    rintro i k e s' o' es' n' t' ks' Q' E' D' S' he hh hk hq
    refine wpAny_bind (D'.entries ?_)
    rw [he]
    dsimp only
    rw [hh]
    refine wpAny_bind (wpAny_holding (st_flip hA.ok S' hk fun s'' es'' n'' t'' F'' S'' => ?_))
    have D'' := D'.fx F'' (F''.tup1 S'.at_ S'.notTuple) (by simpa using Ne.symm (D'.ne S'))
    refine wpAny_bind (D''.epoch ?_)
    rw [if_neg (by simp)]
    exact wpAny_pure (hq s'' es'' n'' t'' F'' S'')
  | feed N I =>
    rw [if_neg (by simpa using N.ne S)]
    dsimp only
    obtain ⟨T, hT, hTn⟩ := NoSet.ty (prog := prog) (w := w) N
    refine wpAny_bind (Looks.here hT ?_)
    rw [if_neg (by simpa using hTn)]
    refine wpAny_bind (Looks.here N.any ?_)
    simp only [Bool.false_eq_true, if_false]
    refine wpAny_bind (Looks.here (S.baseOf X) ?_)
    unfold Frozenset.newFrom
    refine wpAny_bind (wpAny_bind (st_newSet (th := th) fun s₁ r t₁ F₁ hr e₁ i₁ z₁ => ?_))
    have tk1 := nil_tup F₁
    have S₁ := S.fx F₁ tk1 (by simp)
    have Sr₁ : SO th s₁.heap r (setO #[] 0 t₁) #[] 0 t₁ [] := ⟨e₁, .inr rfl, rfl, i₁ _⟩
    refine wpAny_bind (wpAny_pure (wpAny_bind (wpAny_holding (st_updateFeed hA Sr₁ (N.keep (KeepNS.nil F₁)) (I.keep (KeepNS.nil F₁)) fun s₂ es₂ n₂ t₂ F₂ tk2 S₂ => wpAny_pure ?_))))
    refine wpAny_bind (wpAny_pure ?_)
    have hra := fresh_ne hr S.at_
    have Sa₂ := S₁.fx F₂ tk2 (by simp [hra, ha0])
    have hk2 : kl.foldl addK [] = kl := addAll_nodup nd
    rw [hk2] at S₂
    refine st_symSet hA.ok Sa₂ S₂ (Ne.symm hra) fun s₃ es₃ n₃ t₃ F₃ S₃ => h s₃ es₃ n₃ t₃ ⟨fun b ob e nb => F₃.keep _ _ (F₂.keep _ _ (F₁.keep _ _ e (by simp)) ?_) ?_, F₃.gens.trans (F₂.gens.trans F₁.gens), F₃.os.trans (F₂.os.trans F₁.os)⟩ (tk1.trans (tk2.trans (F₃.tup1 Sa₂.at_ Sa₂.notTuple))) S₃
    · intro m
      rcases List.mem_cons.mp m with q | q
      · rw [q, hr] at e; cases e
      · exact nb (.tail _ q)
    · intro m
      exact nb (List.mem_singleton.mp m ▸ .head _)
end
end
section
open PySem PySem.W PyProof.Rows PySem.Calls Builtin
set_option Elab.async false
set_option maxRecDepth 100000
section
variable {prog : Program} {w : World} {κ : Type} [DecidableEq κ] {ek : EK prog w κ} {th : SetTh ek}
  {A : Around} {E : Value → Shared → Prop} {s : Shared} {R : Result → Shared → Prop} {a b d : Addr} {o ob od : Obj} {es eb : Array (Int × Value)} {n nb ep : Nat} {t tb : SetTable} {ks kb kl : List κ} {k : κ} {x v : Value} {w0 : List Addr} {ed : Array DictEntry}
theorem st_takeOver {Q : Unit → Shared → Prop} (S : SO th s.heap a o es n t ks) (Sb : SO th s.heap b ob eb nb tb kb)
    (h : ∀ s' es' n' t', Fx s s' [a] → SO th s'.heap a { o with data := .set es' n' t' } es' n' t' kb → Q () s') : wpAny (model prog w) A (Frozenset.takeOver a b) Q E s := by
  unfold Frozenset.takeOver
  refine wpAny_bind ?_
  unfold setSwap
  have tail : ∀ (old : Option (List Value)) d, wpAny (model prog w) A (do
      let (er, _, tr) ← setState b
      let ts := (← setState a).2.2
      storeSet a er { tr with finger := ts.finger, moves := ts.movedTo tr.mask, plain := tr.plain && (ts.plain || ts.finger == 0), led := tr.led && (ts.led || ts.finger == 0) }
      return old) (fun a_1 s' => wpAny (model prog w) A (match a_1 with
    | some old => letGo (old.filter fun | .ref _ => true | _ => false)
    | none => point) Q E s') E { s with drawn := d } := by
    intro old d
    refine wpAny_bind (st_state (s := { s with drawn := d }) Sb.at_ Sb.data Sb.fits ?_)
    dsimp only
    refine wpAny_bind (st_state (s := { s with drawn := d }) S.at_ S.data S.fits ?_)
    dsimp only
    refine wpAny_bind (st_store (s := { s with drawn := d }) S.at_ S.data (size_le Sb.is) fun s' F e _ => wpAny_pure ?_)
    have i : SetIs ek th.TT s.heap eb { tb with finger := t.finger, moves := t.movedTo tb.mask, plain := tb.plain && (t.plain || t.finger == 0), led := tb.led && (t.led || t.finger == 0) } kb :=
      SetIs.flags (t := tb) (t' := { tb with finger := t.finger, moves := t.movedTo tb.mask, plain := tb.plain && (t.plain || t.finger == 0), led := tb.led && (t.led || t.finger == 0) }) Sb.is rfl rfl rfl fun hq => by
        show (tb.led && (t.led || t.finger == 0)) = true
        rw [Sb.is.led hq, S.is.led hq]; rfl
    have F' : Fx s s' [a] := ⟨F.keep, F.gens, F.os⟩
    have fin : Q () s' := h s' _ _ _ F' (S.new e (i.mono (F'.tup1 S.at_ S.notTuple)))
    cases old with
    | none => exact wpAny_point fin
    | some l => exact wpAny_letGo fin
  refine wpAny_bind (st_deathsKnown S.at_ S.data S.fits fun b => ?_)
  cases b with
  | true =>
    simp only [if_true]
    exact wpAny_bind (wpAny_bind (st_walk S.at_ S.data S.fits S.is.led fun es' d _ => wpAny_pure (wpAny_bind (wpAny_pure (tail (some _) d)))))
  | false => exact wpAny_bind (wpAny_pure (tail none s.drawn))
theorem st_quietEq {Q : Bool → Shared → Prop} {h : Heap} (hk : ek.is h k x) (hh : ∀ b o, h.get? b = some o → s.heap.get? b = some o) (hq : ∀ b, Q b s) : wpAny (model prog w) A (Frozenset.quietEq x) Q E s := by
  unfold Frozenset.quietEq
  cases x with
  | ref b =>
    obtain ⟨r, hr⟩ := ek.special hk
    exact wpAny_bind ((hr.keeps hh).here (wpAny_pure (hq _)))
  | _ => exact wpAny_pure (hq _)
theorem st_walkUnseen2 {Q : List (Int × Value) → Shared → Prop} (S : SO th s.heap a o es n t ks) (Sb : SO th s.heap b ob eb nb tb kb)
    (h : ∀ l d, l.Perm es.toList → Q l { s with drawn := d }) : wpAny (model prog w) A (Frozenset.walkUnseen a b) Q E s := by
  unfold Frozenset.walkUnseen
  refine wpAny_bind (st_entries S.at_ S.data S.fits (wpAny_bind (st_entries Sb.at_ Sb.data Sb.fits (wpAny_bind ?_))))
  have hE : ∃ kk, ek.Ents s.heap (es.toList ++ eb.toList) kk := by
    obtain ⟨l1, z1, _⟩ := S.is
    obtain ⟨l2, z2, _⟩ := Sb.is
    exact ⟨_, All2.app z1 z2⟩
  obtain ⟨kk, hE⟩ := hE
  refine wpAny_forIn_list _ (fun rest b s' => s = s' ∧ b.1 = none ∧ ∀ x ∈ rest, x ∈ es.toList ++ eb.toList) _ ?_ ?_ _ _ ⟨rfl, rfl, fun _ hx => hx⟩
  · rintro e rest ⟨b1, _⟩ s' ⟨rfl, hb, hm⟩
    obtain ⟨k, _, _, hk⟩ := All2.left hE (hm e (.head _))
    refine wpAny_bind (st_quietEq hk (fun _ _ e => e) fun b => ?_)
    cases b with
    | true => exact wpAny_pure ⟨rfl, rfl, fun x hx => hm x (.tail _ hx)⟩
    | false =>
      simp only [Bool.not_false, if_true]
      refine wpAny_bind (wpAny_bind (st_walk S.at_ S.data S.fits S.is.led fun es' d hp => wpAny_pure (wpAny_pure ?_)))
      exact wpAny_pure (h _ d hp)
  · rintro ⟨b1, _⟩ s' ⟨rfl, hb, _⟩
    dsimp only at hb
    subst hb
    exact wpAny_pure (h _ s.drawn (.refl _))
theorem st_subset {id : String} {Q : Bool → Shared → Prop} (hA : AOk A) (S : SO th s.heap a o es n t ks) (Sb : SO th s.heap b ob eb nb tb kb)
    (h : ∀ s', Fx s s' [] → Q (decide (∀ k ∈ ks, k ∈ kb)) s') : wpAny (model prog w) A (Frozenset.subsetOf id a b) Q E s := by
  unfold Frozenset.subsetOf
  refine wpAny_bind (st_size S.at_ S.data S.fits (wpAny_bind (st_size Sb.at_ Sb.data Sb.fits ?_)))
  by_cases hsz : es.size > eb.size
  · rw [if_pos hsz]
    refine wpAny_pure ?_
    have : decide (∀ k ∈ ks, k ∈ kb) = false := by
      rw [decide_eq_false_iff_not]
      intro hall
      have := List.Nodup.length_le_of_subset S.is.nodup hall
      rw [← S.is.size, ← Sb.is.size] at this; omega
    rw [← this]; exact h s (Fx.refl _ _)
  · rw [if_neg hsz]
    refine wpAny_bind (st_epoch S.at_ S.data S.fits (wpAny_bind (st_walkUnseen2 S Sb fun l dd hp => wpAny_bind ?_)))
    obtain ⟨l0, z0, p0, _⟩ := S.is
    obtain ⟨kl, hkl, pkl⟩ := All2.perm z0 hp.symm
    have pk : kl.Perm ks := pkl.symm.trans p0
    have S' : SO th ({ s with drawn := dd } : Shared).heap a o es n t ks := S
    have Sb' : SO th ({ s with drawn := dd } : Shared).heap b ob eb nb tb kb := Sb
    have F0 : Fx s { s with drawn := dd } [] := ⟨fun _ _ e _ => e, rfl, rfl⟩
    refine wpAny_forIn_list _ (fun rest c s' => ∃ d r, kl = d ++ r ∧ ek.Ents s.heap rest r ∧ Fx s s' [] ∧ c.1 = none ∧ ∀ k ∈ d, k ∈ kb) _ ?_ ?_ _ _ ⟨[], kl, rfl, hkl, F0, rfl, fun _ m => by cases m⟩
    · rintro ⟨eh, ev⟩ rest ⟨c1, _⟩ s' ⟨d, r, hkd, hr, F, hc, hall⟩
      cases hr with
      | cons h1 h2 =>
        rename_i k r
        have tk := nil_tup F
        have Sb₁ := Sb.fx F tk (by simp)
        have S₁ := S.fx F tk (by simp)
        dsimp only at h1 ⊢
        rw [h1.1]
        refine wpAny_bind (wpAny_holding (th.find hA Sb₁.at_ Sb₁.data Sb₁.is (ek.mono tk h1.2) fun s₂ q K hq => ?_))
        have F₂ : Fx s s₂ [] := F.trans (Fx.of_keeps K _)
        have e := find_isSome Sb₁.is (ek.mono tk h1.2) hq
        by_cases hm : k ∈ kb
        · have : q.isNone = false := by
            cases q with
            | none => rw [decide_eq_true hm] at e; cases e
            | some i => rfl
          rw [this]
          simp only [Bool.false_eq_true, if_false]
          have S₂ := S.fx F₂ (nil_tup F₂) (by simp)
          refine wpAny_bind (st_unchanged S₂ (wpAny_pure ⟨d ++ [k], r, by rw [hkd, List.append_assoc]; rfl, h2, F₂, rfl, fun y hy => ?_⟩))
          rcases List.mem_append.mp hy with z | z
          · exact hall y z
          · rw [List.mem_singleton.mp z]; exact hm
        · have : q.isNone = true := by
            cases q with
            | none => rfl
            | some i => rw [decide_eq_false hm] at e; cases e
          rw [this]
          simp only [if_true]
          refine wpAny_pure (wpAny_pure ?_)
          have : decide (∀ k ∈ ks, k ∈ kb) = false := by
            rw [decide_eq_false_iff_not]
            exact fun hall' => hm (hall' k (pk.mem_iff.mp (by rw [hkd]; simp)))
          rw [← this]; exact h s₂ F₂
    · rintro ⟨c1, _⟩ s' ⟨d, r, hkd, hr, F, hc, hall⟩
      cases hr
      dsimp only at hc
      subst hc
      refine wpAny_pure ?_
      have : decide (∀ k ∈ ks, k ∈ kb) = true := by
        rw [decide_eq_true_eq]
        intro k hk
        rw [List.append_nil] at hkd
        exact hall k (hkd ▸ pk.mem_iff.mpr hk)
      rw [← this]; exact h s' F
end
end
section
open PySem PySem.W PyProof.Rows PySem.Calls Builtin
set_option Elab.async false
set_option maxRecDepth 100000
structure AOk3 (A : Around) : Prop where
  units : A.units + 400 < cLine
  room : A.depth + 10 < recursionLimit
  hand : A.handled = none
theorem AOk3.in1 {A : Around} (h : AOk3 A) : AOk2 A.in1 := ⟨by have := h.units; show A.units + 1 + 300 < _; omega, by have := h.room; show A.depth + 8 < _; omega, h.hand⟩
theorem AOk3.ok2 {A : Around} (h : AOk3 A) : AOk2 A := ⟨by have := h.units; omega, by have := h.room; omega, h.hand⟩
theorem bi_add : BI "set" "set.add" Builtin.«set.add» := ⟨.inl (by decide +kernel), ⟨"add", by decide +kernel⟩, PySem.F.slot_set_add.plain, PySem.F.entry_set_add⟩
theorem bi_remove : BI "set" "set.remove" Builtin.«set.remove» := ⟨.inl (by decide +kernel), ⟨"remove", by decide +kernel⟩, PySem.F.slot_set_remove.plain, PySem.F.entry_set_remove⟩
theorem bi_clear : BI "set" "set.clear" Builtin.«set.clear» := ⟨.inl (by decide +kernel), ⟨"clear", by decide +kernel⟩, PySem.F.slot_set_clear.plain, PySem.F.entry_set_clear⟩
theorem bi_update : BI "set" "set.update" Builtin.«set.update» := ⟨.inl (by decide +kernel), ⟨"update", by decide +kernel⟩, PySem.F.slot_set_update.plain, PySem.F.entry_set_update⟩
theorem bi_iu : BI "set" "set.intersection_update" Builtin.«set.intersection_update» := ⟨.inl (by decide +kernel), ⟨"intersection_update", by decide +kernel⟩, PySem.F.slot_set_intersection_update.plain, PySem.F.entry_set_intersection_update⟩
theorem bi_du : BI "set" "set.difference_update" Builtin.«set.difference_update» := ⟨.inl (by decide +kernel), ⟨"difference_update", by decide +kernel⟩, PySem.F.slot_set_difference_update.plain, PySem.F.entry_set_difference_update⟩
theorem bi_su : BI "set" "set.symmetric_difference_update" Builtin.«set.symmetric_difference_update» := ⟨.inl (by decide +kernel), ⟨"symmetric_difference_update", by decide +kernel⟩, PySem.F.slot_set_symmetric_difference_update.plain, PySem.F.entry_set_symmetric_difference_update⟩
theorem bi_inter : BI "set" "set.intersection" Builtin.«frozenset.intersection» := ⟨.inl (by decide +kernel), ⟨"intersection", by decide +kernel⟩, PySem.F.slot_set_intersection.plain, entryFor_alias (id' := "frozenset.intersection") (by rw [fastTable_eq_tree]; kernel_rfl) (by first | rfl | decide +kernel) (by decide +kernel) (by rw [fastTable_eq_tree]; kernel_rfl)⟩
theorem bi_diff : BI "set" "set.difference" Builtin.«frozenset.difference» := ⟨.inl (by decide +kernel), ⟨"difference", by decide +kernel⟩, PySem.F.slot_set_difference.plain, entryFor_alias (id' := "frozenset.difference") (by rw [fastTable_eq_tree]; kernel_rfl) (by first | rfl | decide +kernel) (by decide +kernel) (by rw [fastTable_eq_tree]; kernel_rfl)⟩
theorem bi_contains : BI "set" "set.__contains__" Builtin.«frozenset.__contains__» := ⟨.inl (by decide +kernel), ⟨"__contains__", by decide +kernel⟩, PySem.F.slot_set_contains.plain, entry_set_contains⟩
theorem bi_len : BI "set" "set.__len__" Builtin.«frozenset.__len__» := ⟨.inr (by decide +kernel), ⟨"__len__", by decide +kernel⟩, PySem.F.slot_set_len.plain, entry_set_len⟩
theorem bi_eq : BI "set" "set.__eq__" Builtin.«frozenset.__eq__» := ⟨.inr (by decide +kernel), ⟨"__eq__", by decide +kernel⟩, PySem.F.slot_set_eq.plain, entryFor_alias (id' := "frozenset.__eq__") (by rw [fastTable_eq_tree]; kernel_rfl) (by first | rfl | decide +kernel) (by decide +kernel) (by rw [fastTable_eq_tree]; kernel_rfl)⟩
theorem bi_ne : BI "set" "set.__ne__" Builtin.«frozenset.__ne__» := ⟨.inr (by decide +kernel), ⟨"__ne__", by decide +kernel⟩, PySem.F.slot_set_ne.plain, entryFor_alias (id' := "frozenset.__ne__") (by rw [fastTable_eq_tree]; kernel_rfl) (by first | rfl | decide +kernel) (by decide +kernel) (by rw [fastTable_eq_tree]; kernel_rfl)⟩
theorem ar_iu2 (a b c : Value) : argsOk "set.intersection_update" ⟨[a, b, c], []⟩ := by
  unfold argsOk; rw [signature?_of (id := "set.intersection_update") (n := ['e', 't', 'a', 'd', 'p', 'u', '_', 'n', 'o', 'i', 't', 'c', 'e', 's', 'r', 'e', 't', 'n', 'i']) (o := ['t', 'e', 's']) (by kernel_rfl) PySem.F.owner_set]; kernel_rfl
theorem ar_du2 (a b c : Value) : argsOk "set.difference_update" ⟨[a, b, c], []⟩ := by
  unfold argsOk; rw [signature?_of (id := "set.difference_update") (n := ['e', 't', 'a', 'd', 'p', 'u', '_', 'e', 'c', 'n', 'e', 'r', 'e', 'f', 'f', 'i', 'd']) (o := ['t', 'e', 's']) (by kernel_rfl) PySem.F.owner_set]; kernel_rfl
theorem ar_in2 (a b c : Value) : argsOk "set.intersection" ⟨[a, b, c], []⟩ := by
  unfold argsOk; rw [signature?_of (id := "set.intersection") (n := ['n', 'o', 'i', 't', 'c', 'e', 's', 'r', 'e', 't', 'n', 'i']) (o := ['t', 'e', 's']) (by kernel_rfl) PySem.F.owner_set]; kernel_rfl
theorem ar_di2 (a b c : Value) : argsOk "set.difference" ⟨[a, b, c], []⟩ := by
  unfold argsOk; rw [signature?_of (id := "set.difference") (n := ['e', 'c', 'n', 'e', 'r', 'e', 'f', 'f', 'i', 'd']) (o := ['t', 'e', 's']) (by kernel_rfl) PySem.F.owner_set]; kernel_rfl
section
variable {prog : Program} {w : World} {A : Around} {E : Value → Shared → Prop} {s : Shared} {x : Addr} {ox : Obj} {od : Option Obj}
theorem nameWhole225 (X : (KK w.params).In s.heap) : ∃ nm, Looks (model prog w) s.heap (typeNameWhole (.ref 225)) nm := by
  obtain ⟨cd, hc, _⟩ := Option.map_eq_some_iff.mp (k_mro w.params)
  exact ⟨_, (looks_clsIn X hc).andThen .now⟩
theorem check_init225 {rest : List Value} {Q : Unit → Shared → Prop} (X : (KK w.params).In s.heap) (I : InstAt s.heap x ox 225 od) (hr : rest.length ≤ 1) (q : Q () s) :
    wpAny (model prog w) A (checkBuiltinCall "set.__init__" ⟨.ref x :: rest, []⟩) Q E s := by
  simp only [checkBuiltinCall, kind_set_init, split_set_init, sig_set_init]
  refine wpAny_bind (Looks.here (inst_isSet X I) ?_)
  simp only [Bool.not_true, Bool.false_eq_true, if_false]
  unfold Bind.checkArgs
  dsimp only
  obtain ⟨nm, hn⟩ := nameWhole225 (prog := prog) X
  have star : ∀ {sig : Manifest.Signature} {Q' : String → Shared → Prop}, sig.receiver = .self → (∀ y, Q' y s) → wpAny (model prog w) A (Bind.printed "*" false sig (some (.ref x))) Q' E s := by
    intro sig Q' hs h
    unfold Bind.printed Bind.receiverType
    rw [if_neg (by decide), hs]
    refine wpAny_bind (m := (if (Manifest.Receiver.self == Manifest.Receiver.cls) = true then pure (Value.ref x) else typeOf (.ref x))) ?_
    rw [if_neg (by decide)]
    exact I.type.here (wpAny_bind (hn.here (wpAny_pure (h _))))
  refine wpAny_bind (m := Bind.printed "set" true _ _) (PyProof.Rows.printed_name (by decide) ?_)
  refine wpAny_bind (m := Bind.printed "*" false _ _) (star rfl fun short => ?_)
  have hrn : (Manifest.Receiver.self == Manifest.Receiver.none) = false := by decide
  have hn : (if (Manifest.Receiver.self == Manifest.Receiver.none) = true then (Value.ref x :: rest).length else (Value.ref x :: rest).length - 1) = rest.length := by simp [hrn]
  rw [hn]
  simp only [List.map_nil]
  have hk1 : (Manifest.ParamKind.posOnly == Manifest.ParamKind.posOnly) = true := by decide
  have hk2 : (Manifest.ParamKind.posOnly == Manifest.ParamKind.posOrKw) = false := by decide
  have hk3 : (Manifest.ParamKind.posOnly == Manifest.ParamKind.varPos) = false := by decide
  have hc : Bind.check ⟨.positional, "set", "*", .self, [⟨"iterable", .posOnly, false⟩]⟩ "set" short rest.length [] = pure () := by
    rcases Nat.lt_or_ge rest.length 1 with h | h
    · have : rest.length = 0 := by omega
      rw [this]; simp [Bind.check, Bind.checkCount, Bind.isPositional, hk1, hk2, hk3]
    · have : rest.length = 1 := by omega
      rw [this]; simp [Bind.check, Bind.checkCount, Bind.isPositional, hk1, hk2, hk3]
  rw [hc]
  exact wpAny_pure q
end
end
section
open PySem PySem.W PyProof.Rows PySem.Calls Builtin
set_option Elab.async false
set_option maxRecDepth 100000
section
variable {prog : Program} {w : World} {κ : Type} [DecidableEq κ] {ek : EK prog w κ} {th : SetTh ek}
  {A : Around} {E : Value → Shared → Prop} {s : Shared} {R : Result → Shared → Prop} {a b d : Addr} {o ob od : Obj} {es eb : Array (Int × Value)} {n nb ep : Nat} {t tb : SetTable} {ks kb kl km : List κ} {k : κ} {x v v2 : Value} {w0 : List Addr} {ed : Array DictEntry}
theorem ar_add (a b : Value) : argsOk "set.add" ⟨[a, b], []⟩ := PySem.F.args_set_add_2 a b
theorem call_add {Q : Value → Shared → Prop} (hA : AOk3 A) (X : (KK w.params).In s.heap) (S : SO th s.heap a o es n t ks) (hk : ek.is s.heap k x)
    (h : ∀ s' es' n' t', Fx s s' [a] → SO th s'.heap a { o with data := .set es' n' t' } es' n' t' (addK ks k) → Q .none s') : wpAny (model prog w) A (call (.builtin "set.add") [.ref a, x]) Q E s := by
  refine bi_add.call (S.isSet X) (PySem.F.args_set_add_2 _ _) ?_
  unfold Builtin.«set.add»
  refine wpAny_bind (wpAny_bind (wpAny_pure (wpAny_pure ?_)))
  exact wpAny_bind (st_add (th := th) hA.in1.ok S.at_ S.notTuple S.data S.is hk fun s' es' n' t' F e i => wpAny_pure ⟨_, rfl, h s' es' n' t' F (S.new e i)⟩)
theorem call_clear {Q : Value → Shared → Prop} (X : (KK w.params).In s.heap) (S : SO th s.heap a o es n t ks)
    (h : ∀ s' n' t', Fx s s' [a] → SO th s'.heap a { o with data := .set #[] n' t' } #[] n' t' [] → Q .none s') : wpAny (model prog w) A (call (.builtin "set.clear") [.ref a]) Q E s := by
  refine bi_clear.call (S.isSet X) (PySem.F.args_set_clear_1 _) ?_
  unfold Builtin.«set.clear»
  refine wpAny_bind (wpAny_bind (wpAny_pure (wpAny_pure ?_)))
  exact wpAny_bind (st_clearSO S fun s' n' t' F S' => wpAny_pure ⟨_, rfl, h s' n' t' F S'⟩)
theorem call_update {Q : Value → Shared → Prop} (hA : AOk3 A) (X : (KK w.params).In s.heap) (S : SO th s.heap a o es n t ks) (hv : NoSet s.heap v) (hi : Iter ek A.in1 s.heap v kl w0)
    (h : ∀ s' es' n' t', Fx s s' (a :: w0) → TupKept s.heap s'.heap → SO th s'.heap a { o with data := .set es' n' t' } es' n' t' (kl.foldl addK ks) → Q .none s') : wpAny (model prog w) A (call (.builtin "set.update") [.ref a, v]) Q E s := by
  refine bi_update.call (S.isSet X) (PySem.F.args_set_update_2 _ _) ?_
  unfold Builtin.«set.update»
  refine wpAny_bind (wpAny_bind (wpAny_pure (wpAny_pure ?_)))
  dsimp only
  refine wpAny_bind ?_
  rw [List.forIn_cons]
  refine wpAny_bind (wpAny_bind (st_updateFeed hA.in1 S hv hi fun s' es' n' t' F tk S' => wpAny_pure ?_))
  dsimp only
  rw [List.forIn_nil]
  exact wpAny_pure (wpAny_pure ⟨_, rfl, h s' es' n' t' F tk S'⟩)
theorem k_name (P : Params) : (clsIn (KK P) 225).map (·.name) = some "OrderedSet" := by kernel_rfl
theorem shown225 {h : Heap} {od' : Option Obj} (I : InstAt h a o 225 od') : Looks (model prog w) h (shownTypeOf (.ref a)) (.ref 225) := by
  unfold shownTypeOf
  refine I.type.andThen ?_
  rw [show ((Value.ref 225 == Value.type "builtin_function_or_method")) = false from by decide]
  exact .now
theorem nameCut225 {h : Heap} {od' : Option Obj} (X : (KK w.params).In h) (I : InstAt h a o 225 od') : Looks (model prog w) h (typeNameOfCut 200 (.ref a)) "OrderedSet" := by
  obtain ⟨cd, hc, hn⟩ := Option.map_eq_some_iff.mp (k_name w.params)
  refine (shown225 I).andThen ?_
  unfold typeNameCut
  refine (looks_clsIn X hc).andThen ?_
  rw [hn]
  exact Looks.of_pure (by kernel_rfl)
theorem count_ok {nm : String} {m : Nat} (hm : m ≤ 1) {Q : Unit → Shared → Prop} (h : Q () s) : wpAny (model prog w) A (checkCount nm 0 1 m) Q E s := by
  unfold checkCount
  rcases Nat.lt_or_ge m 1 with q | q
  · have : m = 0 := by omega
    subst this; exact wpAny_pure h
  · have : m = 1 := by omega
    subst this; exact wpAny_pure h
theorem call_init0 (X : (KK w.params).In s.heap) (S : SO th s.heap a o es n t ks) (I : ∃ od, InstAt s.heap a o 225 od) (hz : t.fill = 0)
    (h : R (.ok (.ret .none)) s) : codeAny (model prog w) A (.call (.builtin "set.__init__") ⟨[.ref a], []⟩) R s := by
  obtain ⟨od, I⟩ := I
  refine codeAny_call_builtin PySem.F.slot_set_init.plain PySem.F.entry_set_init (check_init225 X I (by simp) ?_)
  unfold Builtin.«set.__init__»
  refine wpAny_bind (wpAny_pure ?_)
  dsimp only
  refine wpAny_bind (Looks.here (nameCut225 X I) (wpAny_bind (count_ok (by simp) (wpAny_bind (wpAny_pure (wpAny_bind (wpAny_bind (st_state S.at_ S.data S.fits (wpAny_pure ?_)))))))))
  rw [hz]
  exact wpAny_pure h
theorem call_init1 (hA : AOk3 A) (X : (KK w.params).In s.heap) (S : SO th s.heap a o es n t []) (I : ∃ od, InstAt s.heap a o 225 od) (hz : t.fill = 0) (hv : NoSet s.heap v) (hi : Iter ek A.in1 s.heap v kl w0)
    (h : ∀ s' es' n' t', Fx s s' (a :: w0) → TupKept s.heap s'.heap → SO th s'.heap a { o with data := .set es' n' t' } es' n' t' (kl.foldl addK []) → R (.ok (.ret .none)) s') : codeAny (model prog w) A (.call (.builtin "set.__init__") ⟨[.ref a, v], []⟩) R s := by
  obtain ⟨od, I⟩ := I
  refine codeAny_call_builtin PySem.F.slot_set_init.plain PySem.F.entry_set_init (check_init225 X I (by simp) ?_)
  unfold Builtin.«set.__init__»
  refine wpAny_bind (wpAny_pure ?_)
  dsimp only
  refine wpAny_bind (Looks.here (nameCut225 X I) (wpAny_bind (count_ok (by simp) (wpAny_bind (wpAny_pure (wpAny_bind (wpAny_bind (st_state S.at_ S.data S.fits (wpAny_pure ?_)))))))))
  rw [hz]
  refine wpAny_bind (st_updateFeed hA.in1 S hv hi fun s' es' n' t' F tk S' => wpAny_pure (h s' es' n' t' F tk S'))
theorem ret_inter1 {Q : Value → Shared → Prop} (hA : AOk3 A) (X : (KK w.params).In s.heap) (S : SO th s.heap a o es n t ks) (Ov : Opd th A.in1 s v kl w0)
    (h : ∀ s' r er nr tr, Fx s s' w0 → TupKept s.heap s'.heap → s.heap.get? r = none → SO th s'.heap r (setO er nr tr) er nr tr (ks.filter fun k => decide (k ∈ kl)) → Q (.ref r) s') :
    wpAny (model prog w) A (call (.builtin "set.intersection") [.ref a, v]) Q E s := by
  refine bi_inter.call (S.isSet X) (PySem.F.args_set_intersection_2 _ _) ?_
  unfold Builtin.«frozenset.intersection»
  refine wpAny_bind (wpAny_bind (wpAny_pure (wpAny_pure ?_)))
  dsimp only
  rw [List.isEmpty_cons, if_neg (by decide), List.forIn_cons]
  refine wpAny_bind (wpAny_bind (wpAny_bind (wpAny_holding (wpAny_bind (wpAny_pure ?_)))))
  refine wpAny_mono (st_intersect (th := th) hA.in1 X S Ov fun s' r er nr tr F tk hr S' => (?_ : _)) (fun v s' z => wpAny_pure z) fun _ _ z => z
  dsimp only
  rw [List.forIn_nil]
  exact wpAny_pure (wpAny_pure ⟨_, rfl, h s' r er nr tr F tk hr S'⟩)
theorem fx_none {s s' : Shared} {r : Addr} (F : Fx s s' []) (hr : s'.heap.get? r = none) : s.heap.get? r = none := by
  cases q : s.heap.get? r with
  | none => rfl
  | some o2 => rw [F.keep _ _ q (by simp)] at hr; cases hr
theorem fx_in {s s' : Shared} {K : Frag} (X : K.In s.heap) (F : Fx s s' []) : K.In s'.heap := X.keeps fun b o e => F.keep b o e (by simp)
theorem ret_inter2 {Q : Value → Shared → Prop} (hA : AOk3 A) (X : (KK w.params).In s.heap) (S : SO th s.heap a o es n t ks) (Ov : Opd th A.in1 s v kl []) (Ov2 : ∀ s', Fx s s' [] → Opd th A.in1 s' v2 km [])
    (h : ∀ s' r er nr tr, Fx s s' [] → s.heap.get? r = none → SO th s'.heap r (setO er nr tr) er nr tr ((ks.filter fun k => decide (k ∈ kl)).filter fun k => decide (k ∈ km)) → Q (.ref r) s') :
    wpAny (model prog w) A (call (.builtin "set.intersection") [.ref a, v, v2]) Q E s := by
  refine bi_inter.call (S.isSet X) (ar_in2 _ _ _) ?_
  unfold Builtin.«frozenset.intersection»
  refine wpAny_bind (wpAny_bind (wpAny_pure (wpAny_pure ?_)))
  dsimp only
  rw [List.isEmpty_cons, if_neg (by decide), List.forIn_cons]
  refine wpAny_bind (wpAny_bind (wpAny_bind (wpAny_holding (wpAny_bind (wpAny_pure ?_)))))
  refine wpAny_mono (st_intersect (th := th) hA.in1 X S Ov fun s' r er nr tr F tk hr S' => (?_ : _)) (fun v s' z => wpAny_pure z) fun _ _ z => z
  dsimp only
  rw [List.forIn_cons]
  refine wpAny_bind (wpAny_bind (wpAny_holding (wpAny_bind (wpAny_pure ?_))))
  refine wpAny_mono (st_intersect (th := th) hA.in1 (fx_in X F) S' (Ov2 _ F) fun s'' r2 er nr tr F2 tk2 hr2 S2 => (?_ : _)) (fun v s' z => wpAny_pure z) fun _ _ z => z
  dsimp only
  rw [List.forIn_nil]
  exact wpAny_pure (wpAny_pure ⟨_, rfl, h s'' r2 er nr tr (F.trans F2) (fx_none F hr2) S2⟩)
theorem ret_diff1 {Q : Value → Shared → Prop} (hA : AOk3 A) (X : (KK w.params).In s.heap) (S : SO th s.heap a o es n t ks) (Ov : Opd th A.in1 s v kl w0)
    (h : ∀ s' r er nr tr, Fx s s' w0 → TupKept s.heap s'.heap → s.heap.get? r = none → SO th s'.heap r (setO er nr tr) er nr tr (ks.filter fun k => decide (k ∉ kl)) → Q (.ref r) s') :
    wpAny (model prog w) A (call (.builtin "set.difference") [.ref a, v]) Q E s := by
  refine bi_diff.call (S.isSet X) (PySem.F.args_set_difference_2 _ _) ?_
  unfold Builtin.«frozenset.difference»
  refine wpAny_bind (wpAny_bind (wpAny_pure (wpAny_pure ?_)))
  dsimp only
  refine wpAny_bind (st_difference (th := th) hA.in1 X S Ov fun s' r er nr tr F tk hr S' => ?_)
  refine wpAny_bind (wpAny_holding ?_)
  rw [List.forIn_nil]
  exact wpAny_pure (wpAny_pure ⟨_, rfl, h s' r er nr tr F tk hr S'⟩)
theorem ret_diff2 {Q : Value → Shared → Prop} (hA : AOk3 A) (X : (KK w.params).In s.heap) (S : SO th s.heap a o es n t ks) (Ov : Opd th A.in1 s v kl []) (Ov2 : ∀ s', Fx s s' [] → Opd th A.in1 s' v2 km [])
    (h : ∀ s' r er nr tr, Fx s s' [] → s.heap.get? r = none → SO th s'.heap r (setO er nr tr) er nr tr ((ks.filter fun k => decide (k ∉ kl)).filter fun k => decide (k ∉ km)) → Q (.ref r) s') :
    wpAny (model prog w) A (call (.builtin "set.difference") [.ref a, v, v2]) Q E s := by
  refine bi_diff.call (S.isSet X) (ar_di2 _ _ _) ?_
  unfold Builtin.«frozenset.difference»
  refine wpAny_bind (wpAny_bind (wpAny_pure (wpAny_pure ?_)))
  dsimp only
  refine wpAny_bind (st_difference (th := th) hA.in1 X S Ov fun s' r er nr tr F tk hr S' => ?_)
  refine wpAny_bind (wpAny_holding ?_)
  rw [List.forIn_cons]
  refine wpAny_bind (wpAny_bind (wpAny_bind (wpAny_pure (wpAny_bind ?_))))
  refine st_diffUpdate (th := th) hA.in1 (fx_in X F) S' (Ov2 _ F) fun s'' er nr tr F2 tk2 S2 => ?_
  refine wpAny_pure ?_
  dsimp only
  rw [List.forIn_nil]
  exact wpAny_pure (wpAny_pure (wpAny_pure ⟨_, rfl, h s'' r er nr tr (fx_fresh F hr F2) hr S2⟩))
theorem call_iu1 {Q : Value → Shared → Prop} (hA : AOk3 A) (X : (KK w.params).In s.heap) (S : SO th s.heap a o es n t ks) (Ov : Opd th A.in1 s v kl w0) (ha : a ∉ w0)
    (h : ∀ s' es' n' t', Fx s s' (a :: w0) → TupKept s.heap s'.heap → SO th s'.heap a { o with data := .set es' n' t' } es' n' t' (ks.filter fun k => decide (k ∈ kl)) → Q .none s') :
    wpAny (model prog w) A (call (.builtin "set.intersection_update") [.ref a, v]) Q E s := by
  refine bi_iu.call (S.isSet X) (PySem.F.args_set_intersection_update_2 _ _) ?_
  unfold Builtin.«set.intersection_update»
  refine wpAny_bind (wpAny_bind (wpAny_pure (wpAny_pure ?_)))
  dsimp only
  rw [List.isEmpty_cons, if_neg (by decide)]
  refine wpAny_bind (wpAny_pure ?_)
  rw [List.forIn_cons]
  refine wpAny_bind (wpAny_bind (wpAny_bind (wpAny_holding (wpAny_bind (wpAny_pure ?_)))))
  refine wpAny_mono (st_intersect (th := th) hA.in1 X S Ov fun s' r er nr tr F tk hr S' => (?_ : _)) (fun v s' z => wpAny_pure z) fun _ _ z => z
  dsimp only
  rw [List.forIn_nil]
  refine wpAny_pure (wpAny_bind (wpAny_pure (wpAny_bind (wpAny_holding ?_))))
  have Sa := S.fx F tk ha
  refine st_takeOver (th := th) Sa S' fun s'' es' n' t' F2 S2 => wpAny_pure ⟨_, rfl, h s'' es' n' t' ?_ (tk.trans ?_) S2⟩
  · exact (F.mono fun b m => .tail _ m).trans (F2.mono fun b m => by rw [List.mem_singleton.mp m]; exact .head _)
  · exact F2.tup1 Sa.at_ S.notTuple
theorem call_iu2 {Q : Value → Shared → Prop} (hA : AOk3 A) (X : (KK w.params).In s.heap) (S : SO th s.heap a o es n t ks) (Ov : Opd th A.in1 s v kl []) (Ov2 : ∀ s', Fx s s' [] → Opd th A.in1 s' v2 km [])
    (h : ∀ s' es' n' t', Fx s s' [a] → SO th s'.heap a { o with data := .set es' n' t' } es' n' t' ((ks.filter fun k => decide (k ∈ kl)).filter fun k => decide (k ∈ km)) → Q .none s') :
    wpAny (model prog w) A (call (.builtin "set.intersection_update") [.ref a, v, v2]) Q E s := by
  refine bi_iu.call (S.isSet X) (ar_iu2 _ _ _) ?_
  unfold Builtin.«set.intersection_update»
  refine wpAny_bind (wpAny_bind (wpAny_pure (wpAny_pure ?_)))
  dsimp only
  rw [List.isEmpty_cons, if_neg (by decide)]
  refine wpAny_bind (wpAny_pure ?_)
  rw [List.forIn_cons]
  refine wpAny_bind (wpAny_bind (wpAny_bind (wpAny_holding (wpAny_bind (wpAny_pure ?_)))))
  refine wpAny_mono (st_intersect (th := th) hA.in1 X S Ov fun s' r er nr tr F tk hr S' => (?_ : _)) (fun v s' z => wpAny_pure z) fun _ _ z => z
  dsimp only
  rw [List.forIn_cons]
  refine wpAny_bind (wpAny_bind (wpAny_holding (wpAny_bind (wpAny_pure ?_))))
  refine wpAny_mono (st_intersect (th := th) hA.in1 (fx_in X F) S' (Ov2 _ F) fun s'' r2 er nr tr F2 tk2 hr2 S2 => (?_ : _)) (fun v s' z => wpAny_pure z) fun _ _ z => z
  dsimp only
  rw [List.forIn_nil]
  refine wpAny_pure (wpAny_bind (wpAny_pure (wpAny_bind (wpAny_holding ?_))))
  have F12 := F.trans F2
  have Sa := S.fx F12 (nil_tup F12) (by simp)
  refine st_takeOver (th := th) Sa S2 fun s3 es' n' t' F3 S3 => wpAny_pure ⟨_, rfl, h s3 es' n' t' ((F12.mono fun b m => by cases m).trans F3) S3⟩
theorem call_du1 {Q : Value → Shared → Prop} (hA : AOk3 A) (X : (KK w.params).In s.heap) (S : SO th s.heap a o es n t ks) (Ov : Opd th A.in1 s v kl w0)
    (h : ∀ s' es' n' t', Fx s s' (a :: w0) → TupKept s.heap s'.heap → SO th s'.heap a { o with data := .set es' n' t' } es' n' t' (ks.filter fun k => decide (k ∉ kl)) → Q .none s') :
    wpAny (model prog w) A (call (.builtin "set.difference_update") [.ref a, v]) Q E s := by
  refine bi_du.call (S.isSet X) (PySem.F.args_set_difference_update_2 _ _) ?_
  unfold Builtin.«set.difference_update»
  refine wpAny_bind (wpAny_bind (wpAny_pure (wpAny_pure ?_)))
  dsimp only
  rw [List.forIn_cons]
  refine wpAny_bind (wpAny_bind (wpAny_bind (st_diffUpdate (th := th) hA.in1 X S Ov fun s' es' n' t' F tk S' => wpAny_pure ?_)))
  dsimp only
  rw [List.forIn_nil]
  exact wpAny_pure (wpAny_pure ⟨_, rfl, h s' es' n' t' F tk S'⟩)
theorem call_du2 {Q : Value → Shared → Prop} (hA : AOk3 A) (X : (KK w.params).In s.heap) (S : SO th s.heap a o es n t ks) (Ov : Opd th A.in1 s v kl []) (Ov2 : ∀ s', Fx s s' [a] → Opd th A.in1 s' v2 km []) (hX : ∀ s', Fx s s' [a] → (KK w.params).In s'.heap)
    (h : ∀ s' es' n' t', Fx s s' [a] → SO th s'.heap a { o with data := .set es' n' t' } es' n' t' ((ks.filter fun k => decide (k ∉ kl)).filter fun k => decide (k ∉ km)) → Q .none s') :
    wpAny (model prog w) A (call (.builtin "set.difference_update") [.ref a, v, v2]) Q E s := by
  refine bi_du.call (S.isSet X) (ar_du2 _ _ _) ?_
  unfold Builtin.«set.difference_update»
  refine wpAny_bind (wpAny_bind (wpAny_pure (wpAny_pure ?_)))
  dsimp only
  rw [List.forIn_cons]
  refine wpAny_bind (wpAny_bind (wpAny_bind (st_diffUpdate (th := th) hA.in1 X S Ov fun s' es' n' t' F tk S' => wpAny_pure ?_)))
  dsimp only
  rw [List.forIn_cons]
  refine wpAny_bind (wpAny_bind (st_diffUpdate (th := th) hA.in1 (hX _ F) S' (Ov2 _ F) fun s2 es2 n2 t2 F2 tk2 S2 => wpAny_pure ?_))
  dsimp only
  rw [List.forIn_nil]
  exact wpAny_pure (wpAny_pure ⟨_, rfl, h s2 es2 n2 t2 (F.trans F2) S2⟩)
theorem call_su {Q : Value → Shared → Prop} (hA : AOk3 A) (X : (KK w.params).In s.heap) (S : SO th s.heap a o es n t ks) (Ov : Opd th A.in1 s v kl w0) (nd : kl.Nodup) (ha : a ∉ w0)
    (h : ∀ s' es' n' t', Fx s s' (a :: w0) → TupKept s.heap s'.heap → SO th s'.heap a { o with data := .set es' n' t' } es' n' t' ((ks.filter fun k => decide (k ∉ kl)) ++ kl.filter fun k => decide (k ∉ ks)) → Q .none s') :
    wpAny (model prog w) A (call (.builtin "set.symmetric_difference_update") [.ref a, v]) Q E s := by
  refine bi_su.call (S.isSet X) (PySem.F.args_set_symmetric_difference_update_2 _ _) ?_
  unfold Builtin.«set.symmetric_difference_update»
  refine wpAny_bind (wpAny_bind (wpAny_pure (wpAny_pure ?_)))
  dsimp only
  exact wpAny_bind (st_symUpdate (th := th) hA.in1 X S Ov nd ha fun s' es' n' t' F tk S' => wpAny_pure ⟨_, rfl, h s' es' n' t' F tk S'⟩)
theorem new_raise {cls : String} {args : List Value} {α β : Type} {f : β → Sem α} {Q : α → Shared → Prop} (hp : PlainExc cls) (hh : A.handled = none)
    (h : ∀ h' e, Heap.NewExc s.heap h' e cls → E (.ref e) { s with heap := h' }) (hsz : args.length ≤ sizeLine) :
    wpAny (model prog w) A (newExc (.type cls) args >>= fun v => raiseNew v >>= f) Q E s := by
  refine wpAny_bind ?_
  unfold newExc newTuple
  refine wpAny_bind (wpAny_newObj_type ?_ (show args.toArray.size ≤ sizeLine by simpa using hsz))
  refine wpAny_bind (m := firstArgMember _ _) (wpAny_of_eq (a := Value.none) (by simp only [firstArgMember, hp.first]; rfl) ?_)
  rw [hp.own]
  refine wpAny_newObj_type ?_ (by size_fits)
  unfold raiseNew
  refine wpAny_bind (wpAny_bind (wpAny_handled ?_))
  rw [hh]
  refine wpAny_bind (wpAny_pure (wpAny_throw ?_))
  exact h _ _ ⟨fun b o hb => Heap.get?_push_of_some _ (Heap.get?_push_of_some _ hb), Heap.get?_none_of_le (by simp), _, .ref s.heap.objs.size, Heap.get?_push_size _ rfl, rfl, by simp⟩
theorem call_remove {Q : Value → Shared → Prop} (hA : AOk3 A) (X : (KK w.params).In s.heap) (S : SO th s.heap a o es n t ks) (hk : ek.is s.heap k x)
    (h : k ∈ ks → ∀ s' es' n' t', Fx s s' [a] → SO th s'.heap a { o with data := .set es' n' t' } es' n' t' (ks.filter fun y => decide (y ≠ k)) → Q .none s')
    (hE : k ∉ ks → ∀ s' es' n' t', Fx s s' [a] → SO th s'.heap a { o with data := .set es' n' t' } es' n' t' (ks.filter fun y => decide (y ≠ k)) → ∀ h' e, Heap.NewExc s'.heap h' e "KeyError" → E (.ref e) { s' with heap := h' }) :
    wpAny (model prog w) A (call (.builtin "set.remove") [.ref a, x]) Q E s := by
  refine bi_remove.call (S.isSet X) (PySem.F.args_set_remove_2 _ _) ?_
  unfold Builtin.«set.remove»
  refine wpAny_bind (wpAny_bind (wpAny_pure (wpAny_pure ?_)))
  dsimp only
  refine wpAny_bind ?_
  unfold Frozenset.withSetAsKey
  refine wpAny_tryCatch ?_
  refine st_discard (th := th) hA.in1.ok S.at_ S.notTuple S.data S.is hk fun s' es' n' t' F e i => ?_
  by_cases hm : k ∈ ks
  · simp only [hm, decide_true]
    rw [if_neg (by decide)]
    exact wpAny_pure ⟨_, rfl, h hm s' es' n' t' F (S.new e i)⟩
  · simp only [hm, decide_false]
    rw [if_pos (by decide)]
    refine wpAny_bind (wpAny_rule (new_raise plainExc_KeyError hA.hand (hE hm s' es' n' t' F (S.new e i)) (by rw [sizeLine_eq]; simp)))
end
end
section
open PySem PySem.W PyProof.Rows PySem.Calls Builtin
set_option Elab.async false
set_option maxRecDepth 100000
section
variable (P : Params)
theorem k_contains : findIn (KK P) (.ref 225) "__contains__" = some (some (.builtin "set.__contains__")) := by kernel_rfl
theorem k_len : findIn (KK P) (.ref 225) "__len__" = some (some (.builtin "set.__len__")) := by kernel_rfl
theorem k_eq : findIn (KK P) (.ref 225) "__eq__" = some (some (.builtin "set.__eq__")) := by kernel_rfl
theorem k_ne : findIn (KK P) (.ref 225) "__ne__" = some (some (.builtin "set.__ne__")) := by kernel_rfl
end
section
variable {prog : Program} {w : World} {κ : Type} [DecidableEq κ] {ek : EK prog w κ} {th : SetTh ek}
  {A : Around} {E : Value → Shared → Prop} {s : Shared} {R : Result → Shared → Prop} {a b d : Addr} {o ob od : Obj} {es eb : Array (Int × Value)} {n nb ep : Nat} {t tb : SetTable} {ks kb kl km : List κ} {k : κ} {x v v2 : Value} {w0 : List Addr} {ed : Array DictEntry} {name : Str} {id T : String}
theorem SO.special {h : Heap} (X : (KK w.params).In h) (S : SO th h a o es n t ks) (hs : Slot "set" name id) (hk : findIn (KK w.params) (.ref 225) name = some (some (.builtin id))) : Looks (model prog w) h (specialOf (.ref a) name) (some (.builtin id)) := by
  refine S.typeOf.andThen ?_
  rcases S.cls with e | e <;> rw [e]
  · exact looks_findIn X hk
  · exact Looks.of_pure hs.lookup
theorem contains_SO {Q : Bool → Shared → Prop} (hA : AOk3 A) (X : (KK w.params).In s.heap) (S : SO th s.heap a o es n t ks) (hk : ek.is s.heap k x)
    (h : ∀ s', Keeps s s' → Q (decide (k ∈ ks)) s') : wpAny (model prog w) A (contains (.ref a) x) Q E s := by
  unfold contains
  refine wpAny_holding ?_
  have L := S.special X PySem.F.slot_set_contains (k_contains _)
  rw [show stdlibNamesSay? (.ref a) x = none from rfl]
  refine wpAny_bind (L.here ?_)
  rw [if_neg (by decide)]
  unfold callSpecialUnlessNone?
  refine wpAny_bind (wpAny_bind (L.here (wpAny_holding ?_)))
  rw [PySem.F.slot_set_contains.bind]
  refine wpAny_bind (wpAny_pure ?_)
  dsimp only
  rw [if_neg (by decide)]
  refine wpAny_bind (bi_contains.call (S.isSet X) (PySem.F.args_set_contains_2 _ _) ?_)
  unfold Builtin.«frozenset.__contains__»
  refine wpAny_bind (wpAny_bind (wpAny_pure (wpAny_pure ?_)))
  dsimp only
  unfold Frozenset.withSetAsKey
  refine wpAny_bind (wpAny_tryCatch ?_)
  refine st_contains (th := th) hA.in1.ok S.at_ S.data S.is hk fun s' K => wpAny_pure ⟨_, rfl, wpAny_pure ?_⟩
  exact wpAny_truthy_bool (h s' K)
theorem inOp_SO {Q : Value → Shared → Prop} (hA : AOk3 A) (X : (KK w.params).In s.heap) (S : SO th s.heap a o es n t ks) (hk : ek.is s.heap k x)
    (h : ∀ s', Keeps s s' → Q (.bool (decide (k ∈ ks))) s') : wpAny (model prog w) A (compareOp .In x (.ref a)) Q E s := by
  show wpAny _ _ (do return .bool (← contains (.ref a) x)) Q E s
  exact wpAny_bind (contains_SO hA X S hk fun s' K => wpAny_pure (h s' K))
theorem notInOp_SO {Q : Value → Shared → Prop} (hA : AOk3 A) (X : (KK w.params).In s.heap) (S : SO th s.heap a o es n t ks) (hk : ek.is s.heap k x)
    (h : ∀ s', Keeps s s' → Q (.bool (!decide (k ∈ ks))) s') : wpAny (model prog w) A (compareOp .NotIn x (.ref a)) Q E s := by
  show wpAny _ _ (do return .bool (!(← contains (.ref a) x))) Q E s
  exact wpAny_bind (contains_SO hA X S hk fun s' K => wpAny_pure (h s' K))
theorem len_SO {Q : Value → Shared → Prop} (X : (KK w.params).In s.heap) (S : SO th s.heap a o es n t ks)
    (h : ∀ s' tk, Keeps s s' → Q (.int ks.length tk) s') : wpAny (model prog w) A (call (.builtin "len") [.ref a]) Q E s := by
  refine Calls.call_function_entry kind_len plain_len entry_len (args_len1 _) ?_
  unfold Builtin.«len»
  refine wpAny_bind (m := oneArg "len" _) (wpAny_pure ?_)
  unfold callSpecial?
  have L := S.special X PySem.F.slot_set_len (k_len _)
  refine wpAny_bind (wpAny_bind (L.here (wpAny_holding ?_)))
  rw [PySem.F.slot_set_len.bind]
  refine wpAny_bind (wpAny_pure ?_)
  dsimp only
  refine wpAny_bind (bi_len.call (S.isSet X) (PySem.F.args_set_len_1 _) ?_)
  unfold Builtin.«frozenset.__len__» Builtin.Frozenset.slot0 slotArgs
  simp only [List.isEmpty_nil, Bool.not_true, Bool.false_eq_true, ↓reduceIte, List.length_nil, bne_self_eq_false]
  unfold Builtin.Frozenset.addrOf
  refine wpAny_bind (wpAny_bind (wpAny_pure (wpAny_pure ?_)))
  unfold Builtin.Frozenset.sizeOf
  refine wpAny_bind (wpAny_bind (st_entries S.at_ S.data S.fits (wpAny_pure ?_)))
  unfold retInt
  refine wpAny_bind (wpAny_mkInt (wpAny_pure ⟨_, rfl, wpAny_pure ?_⟩))
  dsimp only
  have hsz := S.is.size
  have hsm := S.is.small
  refine wpAny_bind (wpAny_holding (wpAny_pure ?_))
  refine wpAny_bind (wpAny_letGo ?_)
  show wpAny _ _ (if ((es.size : Nat) : Int) < 0 then _ else _) _ _ _
  rw [if_neg (by omega)]
  show wpAny _ _ (if ((es.size : Nat) : Int) ≥ 2 ^ 63 then _ else _) _ _ _
  rw [if_neg (by omega)]
  rw [hsz]
  exact wpAny_bind (wpAny_mkInt (wpAny_pure ⟨_, rfl, h _ _ (kp_tok s _)⟩))
theorem subset_perm {l m : List κ} (nl : l.Nodup) (nm : m.Nodup) (hl : l.length = m.length) : decide (∀ k ∈ l, k ∈ m) = decide (l.Perm m) := by
  have : (∀ k ∈ l, k ∈ m) ↔ l.Perm m := ⟨fun q => (List.perm_ext_iff_of_nodup nl nm).mpr fun k => ⟨q k, all_of_len nl q (by omega) k⟩, fun p k hk => p.mem_iff.mp hk⟩
  simp [this]
theorem ifBound {self : Value} {args : List Value} {Q : Option Value → Shared → Prop} (L : Looks (model prog w) s.heap (specialOf self name) (some (.builtin id))) (hb : ∀ self, bindSpecial (.builtin id) self = pure (.builtin id, [self]))
    (hc : wpAny (model prog w) A (call (.builtin id) (self :: args)) (fun v => Q (some v)) E s) : wpAny (model prog w) A (callSpecialIfBound? self name args) Q E s := by
  simp only [callSpecialIfBound?, bindSpecialIfBound?]
  refine wpAny_holding (wpAny_bind (wpAny_bind (L.here ?_)))
  simp only [hb]
  refine wpAny_bind (wpAny_askSetting (wpAny_ite ?_))
  have fin : wpAny (model prog w) A (call (.builtin id) ([self] ++ args) >>= fun v => pure (some v)) Q E s :=
    wpAny_bind (wpAny_mono hc (fun v s' h' => wpAny_pure h') fun _ _ h' => h')
  split
  · exact wpAny_bind (wpAny_pure (wpAny_pure fin))
  · exact wpAny_tryCatch (wpAny_bind (wpAny_pure (wpAny_pure fin)))
theorem sub_set_225 : isSubtype (.type "set") (.ref 225) = pure false := by rw [isSubtype_type]; kernel_rfl
theorem equal_SO {id : String} {Q : Bool → Shared → Prop} (hA : AOk A) (S : SO th s.heap a o es n t ks) (Sb : SO th s.heap b ob eb nb tb kb)
    (h : ∀ s', Fx s s' [] → Q (decide (ks.Perm kb)) s') (hl : ks.length = kb.length) : wpAny (model prog w) A (Frozenset.subsetOf id a b) Q E s :=
  st_subset (th := th) hA S Sb fun s' F => by rw [subset_perm S.is.nodup Sb.is.nodup hl]; exact h s' F
theorem sub_set_fs : isSubtype (.type "set") (.type "frozenset") = pure false := by rw [isSubtype_type]; kernel_rfl
theorem SO.notFs {h : Heap} (X : (KK w.params).In h) (S : SO th h a o es n t ks) : Looks (model prog w) h (isInstance (.ref a) (.type "frozenset")) false := by
  refine S.typeOf.andThen ?_
  rcases S.cls with e | e <;> rw [e]
  · exact looks_mroIn X (k_mro_fs _)
  · exact Looks.of_pure sub_set_fs
theorem ne_body {Q : Fin → Shared → Prop} (hA : AOk A) (X : (KK w.params).In s.heap) (S : SO th s.heap a o es n t ks) (Sb : SO th s.heap b ob eb nb tb kb)
    (h : ∀ s', Fx s s' [] → Q (.done (.ret (.bool (!decide (ks.Perm kb))))) s') : wpAny (model prog w) A (Builtin.«frozenset.__ne__» ⟨[.ref a, .ref b], []⟩) Q E s := by
  unfold Builtin.«frozenset.__ne__»
  refine wpAny_bind (m := Frozenset.slot1 "__ne__" ⟨[.ref a, .ref b], []⟩) ?_
  unfold Frozenset.slot1 slotArgs
  refine wpAny_bind (wpAny_pure (wpAny_pure ?_))
  dsimp only
  refine wpAny_bind ((Sb.anySet X).here ?_)
  rw [if_neg (by decide)]
  refine wpAny_bind (wpAny_pure (wpAny_bind (wpAny_pure ?_)))
  unfold Frozenset.sizeOf
  refine wpAny_bind (wpAny_bind (st_entries S.at_ S.data S.fits (wpAny_pure (wpAny_bind (wpAny_bind (st_entries Sb.at_ Sb.data Sb.fits (wpAny_pure (wpAny_bind ?_))))))))
  have e1 := S.is.size
  have e2 := Sb.is.size
  by_cases hn : es.size = eb.size
  · rw [if_neg (by simpa using hn)]
    refine wpAny_bind (wpAny_bind ((S.notFs X).here (wpAny_pure ?_)))
    rw [if_neg (by decide)]
    exact equal_SO hA S Sb (fun s' F => wpAny_pure (h s' F)) (by omega)
  · rw [if_pos (by simpa using hn)]
    refine wpAny_pure (wpAny_pure ?_)
    have : decide (ks.Perm kb) = false := by simpa using fun p : ks.Perm kb => hn (by rw [e1, e2]; exact p.length_eq)
    have h := h s (.refl _ _)
    rw [this] at h; exact h
theorem eq_body {Q : Fin → Shared → Prop} (hA : AOk A) (X : (KK w.params).In s.heap) (S : SO th s.heap a o es n t ks) (Sb : SO th s.heap b ob eb nb tb kb)
    (h : ∀ s', Fx s s' [] → Q (.done (.ret (.bool (decide (ks.Perm kb))))) s') : wpAny (model prog w) A (Builtin.«frozenset.__eq__» ⟨[.ref a, .ref b], []⟩) Q E s := by
  unfold Builtin.«frozenset.__eq__»
  refine wpAny_bind (m := Frozenset.slot1 "__eq__" ⟨[.ref a, .ref b], []⟩) ?_
  unfold Frozenset.slot1 slotArgs
  refine wpAny_bind (wpAny_pure (wpAny_pure ?_))
  dsimp only
  refine wpAny_bind ((Sb.anySet X).here ?_)
  rw [if_neg (by decide)]
  refine wpAny_bind (wpAny_pure (wpAny_bind (wpAny_pure ?_)))
  unfold Frozenset.sizeOf
  refine wpAny_bind (wpAny_bind (st_entries S.at_ S.data S.fits (wpAny_pure (wpAny_bind (wpAny_bind (st_entries Sb.at_ Sb.data Sb.fits (wpAny_pure (wpAny_bind ?_))))))))
  have e1 := S.is.size
  have e2 := Sb.is.size
  by_cases hn : es.size = eb.size
  · rw [if_neg (by simpa using hn)]
    refine wpAny_bind (wpAny_bind ((S.notFs X).here (wpAny_pure ?_)))
    rw [if_neg (by decide)]
    exact equal_SO hA S Sb (fun s' F => wpAny_pure (h s' F)) (by omega)
  · rw [if_pos (by simpa using hn)]
    refine wpAny_pure (wpAny_pure ?_)
    have : decide (ks.Perm kb) = false := by simpa using fun p : ks.Perm kb => hn (by rw [e1, e2]; exact p.length_eq)
    have h := h s (.refl _ _)
    rw [this] at h; exact h
theorem ne_SO {Q : Value → Shared → Prop} (hA : AOk3 A) (X : (KK w.params).In s.heap) (S : SO th s.heap a o es n t ks) (Sb : SO th s.heap b ob eb nb tb kb) (hc : o.cls = .ref 225) (hcb : ob.cls = .type "set")
    (h : ∀ s', Fx s s' [] → Q (.bool (!decide (ks.Perm kb))) s') : wpAny (model prog w) A (richCompare .NotEq (.ref a) (.ref b)) Q E s := by
  unfold richCompare
  refine wpAny_holding ?_
  have hu : A.units < cLine := by have := hA.units; omega
  refine wpAny_bind (wpAny_cRoomFor hu ?_)
  rw [show oneThing? .NotEq (.ref a) (.ref b) = none from rfl]
  dsimp only [cmpInfo]
  refine wpAny_bind (S.typeOf.here (wpAny_bind (Sb.typeOf.here ?_)))
  rw [hc, hcb, if_pos (by decide), sub_set_225]
  refine wpAny_bind (wpAny_pure ?_)
  rw [if_neg (by decide)]
  refine wpAny_bind ?_
  unfold tryCompare
  refine wpAny_bind (ifBound (S.special X PySem.F.slot_set_ne (k_ne _)) PySem.F.slot_set_ne.bind ?_)
  refine bi_ne.call (S.isSet X) (PySem.F.args_set_ne_2 _ _) (ne_body hA.in1.ok X S Sb fun s' F => ⟨_, rfl, ?_⟩)
  exact wpAny_pure (wpAny_pure (h s' F))
theorem eq_SO {Q : Value → Shared → Prop} (hA : AOk3 A) (X : (KK w.params).In s.heap) (S : SO th s.heap a o es n t ks) (Sb : SO th s.heap b ob eb nb tb kb) (hc : o.cls = .ref 225) (hcb : ob.cls = .type "set")
    (h : ∀ s', Fx s s' [] → Q (.bool (decide (ks.Perm kb))) s') : wpAny (model prog w) A (richCompare .Eq (.ref a) (.ref b)) Q E s := by
  unfold richCompare
  refine wpAny_holding ?_
  have hu : A.units < cLine := by have := hA.units; omega
  refine wpAny_bind (wpAny_cRoomFor hu ?_)
  rw [show oneThing? .Eq (.ref a) (.ref b) = none from rfl]
  dsimp only [cmpInfo]
  refine wpAny_bind (S.typeOf.here (wpAny_bind (Sb.typeOf.here ?_)))
  rw [hc, hcb, if_pos (by decide), sub_set_225]
  refine wpAny_bind (wpAny_pure ?_)
  rw [if_neg (by decide)]
  refine wpAny_bind ?_
  unfold tryCompare
  refine wpAny_bind (ifBound (S.special X PySem.F.slot_set_eq (k_eq _)) PySem.F.slot_set_eq.bind ?_)
  refine bi_eq.call (S.isSet X) (PySem.F.args_set_eq_2 _ _) (eq_body hA.in1.ok X S Sb fun s' F => ⟨_, rfl, ?_⟩)
  exact wpAny_pure (wpAny_pure (h s' F))
end
end
section
open PySem PySem.W PyProof.Rows PySem.Calls Builtin PySem.MeetsSeq PySem.MeetsSeq3
set_option Elab.async false
set_option maxRecDepth 100000
section
variable {prog : Program} {w : World} {κ : Type} [DecidableEq κ] {ek : EK prog w κ}
  {A : Around} {E : Value → Shared → Prop} {s s' : Shared} {R : Result → Shared → Prop} {l l2 : Addr} {xs ys : Array Value} {m m2 : Nat} {ks kl : List κ} {k : κ} {x v : Value}
theorem kp_tup {s s' : Shared} (K : Keeps s s') : TupKept s.heap s'.heap := .of fun _ _ e => kp_get K e
theorem rawIdx (i : Nat) : ((i : Int) + 1) = ((i + 1 : Nat) : Int) := by push_cast; rfl
theorem EK.All.get {h : Heap} (r : ek.All h xs.toList ks) {i : Nat} {y : Value} (e : xs[i]? = some y) : ∃ k, ks[i]? = some k ∧ ek.is h k y := All2.get r (by rwa [Array.getElem?_toList])
theorem EK.All.none {h : Heap} (r : ek.All h xs.toList ks) {i : Nat} (e : xs[i]? = none) : ks.length ≤ i := by
  have := r.length; rw [Array.length_toList] at this
  rw [Array.getElem?_eq_none_iff] at e; omega
theorem in_loop (hA : AOk A.in1) : ∀ (n i : Nat) (s : Shared), ks.length + 1 - i = n → i ≤ ks.length → s.heap.get? l = some (lstO xs m) → ek.All s.heap xs.toList ks → ek.is s.heap k x → k ∉ ks.take i →
    (∀ s', Keeps s s' → R (.ok (.ret (.bool (decide (k ∈ ks))))) s') → codeAny (model prog w) A (.builtin "list.__contains__.loop" ⟨[.ref l, x, rawInt i], []⟩) R s := by
  intro n
  induction n with
  | zero => intro i s hn hi; omega
  | succ n ih =>
    intro i s hn hi hl hr hk hno h
    refine codeAny_builtin entry_contains_loop ?_
    rw [Around.under_plainId plain_contains_loop _]
    obtain ⟨hp, g, d, tk, os⟩ := s
    wp_walk using wpAny_loadPart' hl
    rw [Int.toNat_natCast]
    cases e : xs[i]? with
    | none =>
      have hlen := hr.none e
      have hm : k ∉ ks := by rwa [List.take_of_length_le hlen] at hno
      wp_walk
      have := h _ (kp_self _)
      rwa [decide_eq_false hm] at this
    | some y =>
      obtain ⟨k', hk', hy⟩ := hr.get e
      dsimp only
      refine wpAny_bind (ek.eqBool hA hy hk fun s₁ K₁ => ?_)
      by_cases hkk : k' = k
      · subst hkk
        rw [if_pos (by simp)]
        have hm : k' ∈ ks := List.mem_of_getElem? hk'
        wp_walk
        have := h _ K₁
        rwa [decide_eq_true hm] at this
      · rw [if_neg (by simpa using hkk)]
        wp_walk
        rw [rawIdx]
        have hlt : i < ks.length := (List.getElem?_eq_some_iff.mp hk').1
        refine ⟨plainId_quiet plain_contains_loop _, ih (i + 1) s₁ (by omega) hlt (kp_get K₁ hl) (hr.mono (kp_tup K₁)) (ek.mono (kp_tup K₁) hk) ?_ fun s' K => h s' (kp_tr K₁ K)⟩
        rw [List.take_add_one, hk', Option.toList_some, List.mem_append, List.mem_singleton]
        exact fun q => q.elim hno fun q => hkk q.symm
theorem lst_contains {Q : Bool → Shared → Prop} (hA : AOk3 A) (hl : s.heap.get? l = some (lstO xs m)) (hr : ek.All s.heap xs.toList ks) (hk : ek.is s.heap k x)
    (h : ∀ s', Keeps s s' → Q (decide (k ∈ ks)) s') : wpAny (model prog w) A (contains (.ref l) x) Q E s := by
  have hT : s.TypeIs (.ref l) "list" := ⟨_, hl, rfl⟩
  refine wpAny_contains_slot hT PySem.F.slot_list_contains (wpAny_call ?_)
  refine codeAny_call_builtin PySem.F.slot_list_contains.plain PySem.F.entry_list_contains (PySem.F.slot_list_contains.check _ _ _ _ _ _ _ _ hT (PySem.F.args_list_contains_2 _ _) ?_)
  unfold Builtin.«list.__contains__» slotArgs
  refine wpAny_bind (wpAny_pure ?_)
  dsimp only
  refine wpAny_pure ⟨plainId_quiet plain_contains_loop _, ?_⟩
  refine in_loop (ek := ek) (k := k) (ks := ks) (i := 0) ?_ _ s rfl (Nat.zero_le _) hl hr hk (by simp) fun s' K => wpAny_truthy_bool (h s' K)
  exact hA.in1.ok
theorem take_ne {ks kl : List κ} {i : Nat} {a b : κ} (ha : ks[i]? = some a) (hb : kl[i]? = some b) (h : a ≠ b) : ks ≠ kl := fun q => by
  rw [q, hb] at ha; exact h (Option.some.inj ha).symm
theorem eq_loop (hA : AOk A.in1) (hlen : ks.length = kl.length) : ∀ (n i : Nat) (s : Shared), ks.length + 1 - i = n → i ≤ ks.length → s.heap.get? l = some (lstO xs m) → s.heap.get? l2 = some (lstO ys m2) → ek.All s.heap xs.toList ks → ek.All s.heap ys.toList kl →
    ks.take i = kl.take i → (∀ s', Keeps s s' → R (.ok (.ret (.bool (decide (ks = kl))))) s') → codeAny (model prog w) A (.builtin "list.__eq__.loop" ⟨[.ref l, .ref l2, rawInt i, rawInt 2], []⟩) R s := by
  intro n
  induction n with
  | zero => intro i s hn hi; omega
  | succ n ih =>
    intro i s hn hi hl hl2 hr hr2 ht h
    refine codeAny_builtin entry_eq_loop ?_
    rw [Around.under_plainId plain_eq_loop _]
    obtain ⟨hp, g, d, tk, os⟩ := s
    have e2 := hr.length
    have e3 := hr2.length
    rw [Array.length_toList] at e2 e3
    wp_walk using wpAny_loadPart' hl, wpAny_loadPart' hl2
    rw [Int.toNat_natCast]
    cases e : xs[i]? with
    | none =>
      have hle := hr.none e
      have e' : ys[i]? = none := Array.getElem?_eq_none_iff.mpr (by omega)
      rw [e']
      wp_walk using wpAny_loadPart' hl, wpAny_loadPart' hl2
      have hm : ks = kl := by rwa [List.take_of_length_le hle, List.take_of_length_le (by omega)] at ht
      have := h _ (kp_self _)
      rw [decide_eq_true hm] at this
      show R (.ok (.ret (.bool (xs.size == ys.size)))) _
      have hz : xs.size = ys.size := by omega
      simpa [hz] using this
    | some y =>
      obtain ⟨k', hk', hy⟩ := hr.get e
      have hlt : i < ks.length := (List.getElem?_eq_some_iff.mp hk').1
      obtain ⟨y2, e'⟩ : ∃ y2, ys[i]? = some y2 := ⟨_, Array.getElem?_eq_getElem (by omega)⟩
      obtain ⟨k2, hk2, hy2⟩ := hr2.get e'
      rw [e']
      dsimp only
      refine wpAny_bind (ek.eqBool hA hy hy2 fun s₁ K₁ => ?_)
      by_cases hkk : k' = k2
      · subst hkk
        rw [if_pos (by simp)]
        wp_walk
        rw [rawIdx]
        refine ⟨plainId_quiet plain_eq_loop _, ih (i + 1) s₁ (by omega) hlt (kp_get K₁ hl) (kp_get K₁ hl2) (hr.mono (kp_tup K₁)) (hr2.mono (kp_tup K₁)) ?_ fun s' K => h s' (kp_tr K₁ K)⟩
        rw [List.take_add_one, List.take_add_one, hk', hk2, ht]
      · rw [if_neg (by simpa using hkk)]
        obtain ⟨hp1, g1, d1, tk1, os1⟩ := s₁
        have hl' := kp_get K₁ hl
        have hl2' := kp_get K₁ hl2
        wp_walk using wpAny_loadPart' hl', wpAny_loadPart' hl2'
        rw [e, e']
        wp_walk
        have := h _ K₁
        rwa [decide_eq_false (take_ne hk' hk2 hkk)] at this
theorem ne_loop (hA : AOk A.in1) (hlen : ks.length = kl.length) : ∀ (n i : Nat) (s : Shared), ks.length + 1 - i = n → i ≤ ks.length → s.heap.get? l = some (lstO xs m) → s.heap.get? l2 = some (lstO ys m2) → ek.All s.heap xs.toList ks → ek.All s.heap ys.toList kl →
    ks.take i = kl.take i → (∀ s', Keeps s s' → R (.ok (.ret (.bool (!decide (ks = kl))))) s') → codeAny (model prog w) A (.builtin "list.__eq__.loop" ⟨[.ref l, .ref l2, rawInt i, rawInt 3], []⟩) R s := by
  intro n
  induction n with
  | zero => intro i s hn hi; omega
  | succ n ih =>
    intro i s hn hi hl hl2 hr hr2 ht h
    refine codeAny_builtin entry_eq_loop ?_
    rw [Around.under_plainId plain_eq_loop _]
    obtain ⟨hp, g, d, tk, os⟩ := s
    have e2 := hr.length
    have e3 := hr2.length
    rw [Array.length_toList] at e2 e3
    wp_walk using wpAny_loadPart' hl, wpAny_loadPart' hl2
    rw [Int.toNat_natCast]
    cases e : xs[i]? with
    | none =>
      have hle := hr.none e
      have e' : ys[i]? = none := Array.getElem?_eq_none_iff.mpr (by omega)
      rw [e']
      wp_walk using wpAny_loadPart' hl, wpAny_loadPart' hl2
      have hm : ks = kl := by rwa [List.take_of_length_le hle, List.take_of_length_le (by omega)] at ht
      have := h _ (kp_self _)
      rw [decide_eq_true hm] at this
      show R (.ok (.ret (.bool (xs.size != ys.size)))) _
      have hz : xs.size = ys.size := by omega
      simpa [hz] using this
    | some y =>
      obtain ⟨k', hk', hy⟩ := hr.get e
      have hlt : i < ks.length := (List.getElem?_eq_some_iff.mp hk').1
      obtain ⟨y2, e'⟩ : ∃ y2, ys[i]? = some y2 := ⟨_, Array.getElem?_eq_getElem (by omega)⟩
      obtain ⟨k2, hk2, hy2⟩ := hr2.get e'
      rw [e']
      dsimp only
      refine wpAny_bind (ek.eqBool hA hy hy2 fun s₁ K₁ => ?_)
      by_cases hkk : k' = k2
      · subst hkk
        rw [if_pos (by simp)]
        wp_walk
        rw [rawIdx]
        refine ⟨plainId_quiet plain_eq_loop _, ih (i + 1) s₁ (by omega) hlt (kp_get K₁ hl) (kp_get K₁ hl2) (hr.mono (kp_tup K₁)) (hr2.mono (kp_tup K₁)) ?_ fun s' K => h s' (kp_tr K₁ K)⟩
        rw [List.take_add_one, List.take_add_one, hk', hk2, ht]
      · rw [if_neg (by simpa using hkk)]
        obtain ⟨hp1, g1, d1, tk1, os1⟩ := s₁
        have hl' := kp_get K₁ hl
        have hl2' := kp_get K₁ hl2
        wp_walk using wpAny_loadPart' hl', wpAny_loadPart' hl2'
        rw [e, e']
        wp_walk
        have := h _ K₁
        rwa [decide_eq_false (take_ne hk' hk2 hkk)] at this
theorem lst_eq {Q : Value → Shared → Prop} (hA : AOk3 A) (hl : s.heap.get? l = some (lstO xs m)) (hl2 : s.heap.get? l2 = some (lstO ys m2)) (hr : ek.All s.heap xs.toList ks) (hr2 : ek.All s.heap ys.toList kl)
    (h : ∀ s', Keeps s s' → Q (.bool (decide (ks = kl))) s') : wpAny (model prog w) A (richCompare .Eq (.ref l) (.ref l2)) Q E s := by
  have hT : s.TypeIs (.ref l) "list" := ⟨_, hl, rfl⟩
  have hT2 : s.TypeIs (.ref l2) "list" := ⟨_, hl2, rfl⟩
  refine wpAny_richCompare_same_room hT hT2 PySem.F.slot_list_eq (wpAny_call ?_) (by have := hA.units; omega)
  refine codeAny_call_builtin PySem.F.slot_list_eq.plain PySem.F.entry_list_eq (PySem.F.slot_list_eq.check _ _ _ _ _ _ _ _ hT (PySem.F.args_list_eq_2 _ _) ?_)
  have e2 := hr.length
  have e3 := hr2.length
  rw [Array.length_toList] at e2 e3
  have hA1 : AOk A.in1 := hA.in1.ok
  obtain ⟨hp, g, d, tk, os⟩ := s
  have f3 := AutoSeq1.sub_list_list
  by_cases hz : xs.size = ys.size
  · have hne : ¬ (xs.size != ys.size) = true := by simp [hz]
    wp_walk using wpAny_loadPart' hl, wpAny_loadPart' hl2
    rw [if_neg hne]
    wp_walk
    refine ⟨plainId_quiet plain_eq_loop _, ?_⟩
    exact eq_loop (ek := ek) (ks := ks) (kl := kl) (i := 0) hA1 (by omega) _ _ rfl (Nat.zero_le _) hl hl2 hr hr2 rfl fun s' K => ⟨by simp, h s' K⟩
  · have hne : (xs.size != ys.size) = true := by simpa using hz
    wp_walk using wpAny_loadPart' hl, wpAny_loadPart' hl2
    rw [if_pos hne]
    wp_walk
    have hm : ks ≠ kl := fun q => hz (by rw [e2, e3, q])
    have := h _ (kp_self _)
    rw [decide_eq_false hm] at this
    exact ⟨by simp, this⟩
theorem lst_ne {Q : Value → Shared → Prop} (hA : AOk3 A) (hl : s.heap.get? l = some (lstO xs m)) (hl2 : s.heap.get? l2 = some (lstO ys m2)) (hr : ek.All s.heap xs.toList ks) (hr2 : ek.All s.heap ys.toList kl)
    (h : ∀ s', Keeps s s' → Q (.bool (!decide (ks = kl))) s') : wpAny (model prog w) A (richCompare .NotEq (.ref l) (.ref l2)) Q E s := by
  have hT : s.TypeIs (.ref l) "list" := ⟨_, hl, rfl⟩
  have hT2 : s.TypeIs (.ref l2) "list" := ⟨_, hl2, rfl⟩
  refine wpAny_richCompare_same_room hT hT2 PySem.F.slot_list_ne (wpAny_call ?_) (by have := hA.units; omega)
  refine codeAny_call_builtin PySem.F.slot_list_ne.plain PySem.F.entry_list_ne (PySem.F.slot_list_ne.check _ _ _ _ _ _ _ _ hT (PySem.F.args_list_ne_2 _ _) ?_)
  have e2 := hr.length
  have e3 := hr2.length
  rw [Array.length_toList] at e2 e3
  have hA1 : AOk A.in1 := hA.in1.ok
  obtain ⟨hp, g, d, tk, os⟩ := s
  have f3 := AutoSeq1.sub_list_list
  by_cases hz : xs.size = ys.size
  · have hne : ¬ (xs.size != ys.size) = true := by simp [hz]
    wp_walk using wpAny_loadPart' hl, wpAny_loadPart' hl2
    rw [if_neg hne]
    wp_walk
    refine ⟨plainId_quiet plain_eq_loop _, ?_⟩
    exact ne_loop (ek := ek) (ks := ks) (kl := kl) (i := 0) hA1 (by omega) _ _ rfl (Nat.zero_le _) hl hl2 hr hr2 rfl fun s' K => ⟨by simp, h s' K⟩
  · have hne : (xs.size != ys.size) = true := by simpa using hz
    wp_walk using wpAny_loadPart' hl, wpAny_loadPart' hl2
    rw [if_pos hne]
    wp_walk
    have hm : ks ≠ kl := fun q => hz (by rw [e2, e3, q])
    have := h _ (kp_self _)
    rw [decide_eq_false hm] at this
    exact ⟨by simp, this⟩
end
end
section
open PySem PySem.W PyProof.Rows PySem.Calls Builtin PySem.MeetsSeq PySem.MeetsSeq3
set_option Elab.async false
set_option maxRecDepth 100000
section
variable {prog : Program} {w : World} {κ : Type} [DecidableEq κ] {ek : EK prog w κ}
  {A : Around} {E : Value → Shared → Prop} {s s' : Shared} {R : Result → Shared → Prop} {l l2 : Addr} {xs ys : Array Value} {m m2 : Nat} {ks kl : List κ} {k : κ} {x v : Value}
theorem lst_upd {f : Array Value → Array Value} (ho : s.heap.get? l = some (lstO xs m)) : ∃ m', ({ s with heap := s.heap.update l (Obj.mapSeq f) } : Shared).heap.get? l = some (lstO (f xs) m') :=
  ⟨_, by rw [Heap.get?_update_self _ ho (by rfl)]; rfl⟩
theorem fx_upd {u : Obj → Obj} : Fx s { s with heap := s.heap.update l u } [l] :=
  ⟨fun b o e hb => by rw [← e]; exact (Heap.SameBut.update ..).2 b (by simpa using hb), rfl, rfl⟩
def insAt {α : Type} (xs : List α) (i : Int) (x : α) : List α :=
  let k := if i < 0 then (i + xs.length).toNat else min i.toNat xs.length
  xs.take k ++ x :: xs.drop k
theorem insert_fx {i : Int} {tk : Tok} {Q : Value → Shared → Prop} (ho : s.heap.get? l = some (lstO xs m)) (hz : xs.size ≤ sizeLine) (hi : -1000 ≤ i ∧ i ≤ 1000)
    (h : ∀ s' ys m', Fx s s' [l] → s'.heap.get? l = some (lstO ys m') → ys.toList = insAt xs.toList i v → Q .none s') : wpAny (model prog w) A (call (.builtin "list.insert") [.ref l, .int i tk, v]) Q E s := by
  have hf : ¬(!Builtin.List.listFitsIndex i) = true := by
    have : Builtin.List.listFitsIndex i = true := by unfold Builtin.List.listFitsIndex; simp; omega
    simp [this]
  refine call_meets PySem.F.slot_list_insert ⟨_, ho, rfl⟩ PySem.F.entry_list_insert (PySem.F.args_list_insert_3 _ _ _) (PySem.AutoListH.list_insert_list_int_val_1 l xs m i tk v hf hz) ⟨ho, ?_⟩
  obtain ⟨m', e⟩ := lst_upd (f := fun xs => have k := if i < 0 then (i + ((xs.size : Nat) : Int)).toNat else min i.toNat xs.size; (xs.extract 0 k).push v ++ xs.extract k) ho
  refine h _ _ m' fx_upd e ?_
  unfold insAt
  simp [List.take_of_length_le]
theorem pop_fx {Q : Value → Shared → Prop} (ho : s.heap.get? l = some (lstO xs m)) (hz : xs.size ≤ sizeLine) (hy : xs[xs.size - 1]? = some v)
    (h : ∀ s' ys m', Fx s s' [l] → s'.heap.get? l = some (lstO ys m') → ys.toList = xs.toList.dropLast → Q v s') : wpAny (model prog w) A (call (.builtin "list.pop") [.ref l]) Q E s := by
  refine call_meets PySem.F.slot_list_pop ⟨_, ho, rfl⟩ PySem.F.entry_list_pop (PySem.F.args_list_pop_1 _) (list_pop_last l xs m v hy hz) ⟨ho, ?_⟩
  obtain ⟨m', e⟩ := lst_upd (f := fun ys => ys.eraseIdxIfInBounds (xs.size - 1)) ho
  refine h _ _ m' fx_upd e ?_
  have hlt := (Array.getElem?_eq_some_iff.mp hy).1
  rw [Array.eraseIdxIfInBounds, dif_pos hlt, Array.toList_eraseIdx, List.dropLast_eq_take, ← Array.length_toList]
  rw [List.eraseIdx_eq_take_drop_succ]
  simp
  omega
theorem pop_empty {Q : Value → Shared → Prop} (hA : AOk3 A) (ho : s.heap.get? l = some (lstO #[] m))
    (h : ∀ h' tk e, Heap.NewExc s.heap h' e "IndexError" → E (.ref e) { s with heap := h', toks := tk }) : wpAny (model prog w) A (call (.builtin "list.pop") [.ref l]) Q E s :=
  call_meets PySem.F.slot_list_pop ⟨_, ho, rfl⟩ PySem.F.entry_list_pop (PySem.F.args_list_pop_1 _) (PySem.AutoListH.list_pop_list_0 l #[] m (by rfl)) ⟨ho, hA.hand, h⟩
theorem rm_loop (hA : AOk A.in1) (hz : xs.size ≤ sizeLine) {j : Nat} (hj : ks[j]? = some k) (hno : k ∉ ks.take j) : ∀ (n i : Nat) (s : Shared), j + 1 - i = n → i ≤ j → s.heap.get? l = some (lstO xs m) → ek.All s.heap xs.toList ks → ek.is s.heap k x →
    (∀ s' ys m', Fx s s' [l] → s'.heap.get? l = some (lstO ys m') → ys.toList = xs.toList.eraseIdx j → R (.ok (.ret .none)) s') → codeAny (model prog w) A (.builtin "list.remove.loop" ⟨[.ref l, x, rawInt i], []⟩) R s := by
  intro n
  induction n with
  | zero => intro i s hn hi; omega
  | succ n ih =>
    intro i s hn hi hl hr hk h
    refine codeAny_builtin entry_remove_loop ?_
    rw [Around.under_plainId plain_remove_loop _]
    obtain ⟨hp, g, d, tk, os⟩ := s
    wp_walk using wpAny_loadPart' hl
    rw [Int.toNat_natCast]
    have hjl : j < ks.length := (List.getElem?_eq_some_iff.mp hj).1
    have hsz := hr.length
    rw [Array.length_toList] at hsz
    obtain ⟨y, e⟩ : ∃ y, xs[i]? = some y := ⟨_, Array.getElem?_eq_getElem (by omega)⟩
    obtain ⟨k', hk', hy⟩ := hr.get e
    rw [e]
    dsimp only
    refine wpAny_bind (ek.eqBool hA hy hk fun s₁ K₁ => ?_)
    obtain ⟨hp1, g1, d1, tk1, os1⟩ := s₁
    have hl1 := kp_get K₁ hl
    by_cases hkk : k' = k
    · subst hkk
      have hij : i = j := by
        rcases Nat.lt_or_ge i j with q | q
        · exact absurd (List.mem_of_getElem? (by rw [List.getElem?_take, if_pos q]; exact hk')) hno
        · omega
      subst hij
      rw [if_pos (by simp)]
      have hz' : (xs.eraseIdxIfInBounds i).size ≤ sizeLine + 1 := Nat.le_trans (size_erased xs _) (Nat.le_succ_of_le hz)
      wp_walk using (wpAny_updateSeq hl1 rfl (hz := hz) (_hz' := hz')), wpAny_loadPart' hl1
      obtain ⟨m', e2⟩ := lst_upd (s := ⟨hp1, g1, d1, tk1, os1⟩) (f := fun ys => ys.eraseIdxIfInBounds i) hl1
      refine h _ _ m' ((Fx.of_keeps K₁ _).trans fx_upd) e2 ?_
      rw [Array.eraseIdxIfInBounds, dif_pos (by omega), Array.toList_eraseIdx]
    · rw [if_neg (by simpa using hkk)]
      wp_walk
      rw [rawIdx]
      have hne : i ≠ j := fun q => by rw [q, hj] at hk'; exact hkk (Option.some.inj hk').symm
      exact ⟨plainId_quiet plain_remove_loop _, ih (i + 1) _ (by omega) (by omega) hl1 (hr.mono (kp_tup K₁)) (ek.mono (kp_tup K₁) hk) fun s' ys m' F => h s' ys m' ((Fx.of_keeps K₁ _).trans F)⟩
theorem remove_fx {Q : Value → Shared → Prop} (hA : AOk3 A) (ho : s.heap.get? l = some (lstO xs m)) (hr : ek.All s.heap xs.toList ks) (hk : ek.is s.heap k x) (hm : k ∈ ks) (nd : ks.Nodup) (hz : xs.size ≤ sizeLine)
    (h : ∀ s' ys m', Fx s s' [l] → s'.heap.get? l = some (lstO ys m') → ek.All s'.heap ys.toList (ks.filter fun y => decide (y ≠ k)) → Q .none s') : wpAny (model prog w) A (call (.builtin "list.remove") [.ref l, x]) Q E s := by
  have hT : s.TypeIs (.ref l) "list" := ⟨_, ho, rfl⟩
  refine wpAny_call (codeAny_call_builtin PySem.F.slot_list_remove.plain PySem.F.entry_list_remove (PySem.F.slot_list_remove.check _ _ _ _ _ _ _ _ hT (PySem.F.args_list_remove_2 _ _) ?_))
  have hA1 : AOk A.in1 := hA.in1.ok
  obtain ⟨j, hj⟩ := List.getElem?_of_mem hm
  have hno : k ∉ ks.take j := fun q => by
    obtain ⟨i, hi⟩ := List.getElem?_of_mem q
    rw [List.getElem?_take] at hi
    split at hi
    · rename_i hlt
      have := (List.getElem?_inj (Nat.lt_trans hlt (List.getElem?_eq_some_iff.mp hj).1) nd).mp (hi.trans hj.symm)
      omega
    · cases hi
  wp_walk
  refine ⟨plainId_quiet plain_remove_loop _, rm_loop (ek := ek) (i := 0) hA1 hz hj hno _ _ rfl (Nat.zero_le _) ho hr hk fun s' ys m' F e q => h s' ys m' F e ?_⟩
  rw [q, ← eraseIdx_filter nd hj]
  exact All2.eraseIdx (hr.mono (F.tup1 ho (by show Value.type "list" ≠ _; decide))) j
end
end
section
open PySem PySem.W PyProof.Rows PySem.Calls
set_option Elab.async false
set_option maxRecDepth 100000
abbrev tupO (vs : List Value) : Obj := { cls := .type "tuple", data := .seq vs.toArray }
def BindsV (s : Shared) (fd : FuncData) (args : Args) (vs : List Value) (binds : Addr → List (Str × Value)) : Prop :=
  ∀ (M : Model) (A : Around) (E : Value → Shared → Prop) (Q : List (Str × Value) → Shared → Prop), Q (binds s.heap.objs.size) { s with heap := s.heap.push (tupO vs) } → wpAny M A (bindArgs fd args) Q E s
theorem BindsV.of_eq {s : Shared} {fd : FuncData} {args : Args} {vs : List Value} {binds : Addr → List (Str × Value)} {k : Value → Sem (List (Str × Value))} (hz : vs.length ≤ 1000) (h : bindArgs fd args = newTuple vs >>= k) (hk : ∀ D, k (.ref D) = pure (binds D)) : BindsV s fd args vs binds := by
  intro M A E Q q
  rw [h]
  unfold newTuple
  refine wpAny_bind (wpAny_newObj_type ?_ (show vs.toArray.size ≤ sizeLine by rw [sizeLine_eq]; simp; omega))
  rw [hk]
  exact wpAny_pure q
section
variable {prog : Program} {w : World} {K : Frag} {d : Nat} {A : Around} {base : Heap} {outer : List Env} {s : Shared} {foot : List (Addr × Obj)}
  {R : Result → Shared → Prop} {name qual : Str} {params : Arguments} {body : List Stmt} {scope : Scope} {dV kV doc pm cdv ct oc : Value} {an od : Option Addr} {osl : Array (Option Value)} {f : Addr} {args : Args} {vs : List Value} {binds : Addr → List (Str × Value)}
theorem off_ne {A : Around} {a : Addr} (_ : Below A base outer s.heap) (h : s.heap.get? a = none) : Off base outer a ∨ ∃ o, base.get? a = some o := by
  by_cases q : ∃ o, base.get? a = some o
  · exact .inr q
  · refine .inl ⟨?_, fun env he => ?_⟩
    · cases e : base.get? a with
      | none => rfl
      | some o => exact absurd ⟨o, e⟩ q
    · intro hf
      have B : Below A base outer s.heap := by assumption
      obtain ⟨_, o, ho, _⟩ := B.frames.mem (List.mem_filterMap.mpr ⟨env, he, hf⟩)
      rw [h] at ho; cases ho
theorem push_old {h : Heap} {o x : Obj} {b : Addr} (e : (h.push o).get? b = some x) (hne : b ≠ h.objs.size) : h.get? b = some x := by
  obtain ⟨e1, e2⟩ := Heap.get?_some_iff.mp e
  refine Heap.get?_some_iff.mpr ⟨?_, e2⟩
  have e1 : (h.objs.push o)[b]? = some x := e1
  rw [Array.getElem?_push, if_neg hne] at e1
  exact e1
theorem Below.off_new {A : Around} {a : Addr} (B : Below A base outer s.heap) (h : s.heap.get? a = none) : Off base outer a := by
  rcases off_ne B h with q | ⟨o, q⟩
  · exact q
  · rw [B.stays _ _ q] at h; cases h
theorem enterV (Gd : Gnd K base) (C : Site (d + 1) A base outer s.heap) (foot : List (Addr × Obj)) (OW : Own base outer s foot)
    (ho : K.lookup f = some ⟨oc, od, .func (fnX name qual params body scope [] dV kV doc pm an cdv ct), osl⟩) (hcd : codeIn K cdv qual = true)
    (hbind : BindsV s (fnX name qual params body scope [] dV kV doc pm an cdv ct) args vs binds)
    (hkind : ∀ D, ((binds D).all fun y => scope.names.lookup y.1 == some .local || scope.names.lookup y.1 == some .cell) = true)
    (hnd : ((cellsFrom 0 scope.names []).map (·.1)).Nodup) {fl : Addr → List (Str × Value)}
    (hfl : ∀ L D, bindL (envOfC qual scope L f cdv).kindOf (binds D) (fun _ => none) = fun y => (fl D).lookup y)
    (h : ∀ g L s₁ cells D, s.heap.get? D = none → Room d (A.deeper (envOfC qual scope L f cdv)) → Wd s.gens s.os g L s₁ (fl D) (cells ++ (D, tupO vs) :: foot) → Inn A base outer s s₁ g foot →
      CellsAre (bindC (envOfC qual scope L f cdv).kindOf (binds D) fun _ => none) (cellsFrom (L + 1) scope.names []) cells →
      wpAny (model prog w) (A.deeper (envOfC qual scope L f cdv)) (execs body (envOfC qual scope L f cdv))
        (fun fl s' => R (.ok (.ret (match fl with | .ret v => v | _ => .none))) s')
        (fun e s' => wpAny (model prog w) (A.deeper (envOfC qual scope L f cdv)) (leaving (envOfC qual scope L f cdv) e) (fun _ s'' => R (.error e) s'') (fun e' s'' => R (.error e') s'') s') s₁)
    (hco : scope.isCoroutine = false := by rfl) (hgen : scope.isGenerator = false := by rfl) (hk : scope.kind = .function := by rfl) : codeAny (model prog w) A (.call (.ref f) args) R s := by
  obtain ⟨p, lo, mg, mb, T⟩ := Gd.top
  obtain ⟨hfoot, nd, off⟩ := OW
  have hr := C.rm.room
  refine codeAny_call_function (by omega) (C.below.stays _ _ (Gd.inK _ _ ho)) rfl hco hgen rfl (codeRec_of (Gd.inK.keeps C.below.stays) hcd) (hbind _ _ _ _ ?_)
  have hnone : s.heap.get? s.heap.objs.size = none := Heap.get?_none_of_le (Nat.le_refl _)
  have hpush : ∀ b o, s.heap.get? b = some o → (s.heap.push (tupO vs)).get? b = some o := fun b o e => Heap.get?_push_of_some _ e
  have offD : Off base outer s.heap.objs.size := Below.off_new C.below hnone
  have BP : Below A base outer (s.heap.push (tupO vs)) := ⟨C.below.stack, fun b o e => hpush _ _ (C.below.stays b o e), C.below.frames.of_keeps fun b o e _ => ⟨o, hpush _ _ e, rfl⟩⟩
  have off2 : ∀ a ∈ s.heap.objs.size :: foot.map (·.1), Off base outer a := fun a ha => by
    rcases List.mem_cons.mp ha with rfl | ha
    · exact offD
    · exact off a ha
  have nd2 : (((s.heap.objs.size, tupO vs) :: foot).map (·.1)).Nodup := by
    rw [List.map_cons, List.nodup_cons]
    refine ⟨fun hm => ?_, nd⟩
    obtain ⟨q, hq, e⟩ := List.mem_map.mp hm
    have := hfoot q hq
    rw [e, hnone] at this; cases this
  have hfoot2 : ∀ q ∈ (s.heap.objs.size, tupO vs) :: foot, (s.heap.push (tupO vs)).get? q.1 = some q.2 := fun q hq => by
    rcases List.mem_cons.mp hq with rfl | hq
    · exact Heap.get?_push_size _ rfl
    · exact hpush _ _ (hfoot q hq)
  refine wpAny_newFunctionEnv_cells hk (kindsX (hkind _) _) fun env' he s' x => ?_
  subst he
  refine ⟨(T.nolimit.keeps BP.stays).keeps x.toInCall.keep, codeAny_func ?_⟩
  obtain ⟨h₁, tk, rfl, _⟩ := x.done
  have hk₁ := x.toInCall.keep
  dsimp only at hk₁ x ⊢
  generalize hH : s.heap.push (tupO vs) = H at *
  have hc : ∀ n c, (n, c) ∈ cellsFrom (H.objs.size + 1) scope.names [] → h₁.IsCell c (bindC (envOfC qual scope H.objs.size f cdv).kindOf (binds s.heap.objs.size) (fun _ => none) n) ∧ H.objs.size < c := fun n c hm =>
    ⟨x.cell n c (lookup_of_mem_nodup (cellsFrom_names scope.names 0 (H.objs.size + 1) [] [] rfl ▸ hnd) hm), x.above n c hm⟩
  obtain ⟨cells, NC, Y⟩ := Cl.news (h₀ := H) (Nat.le_refl _) hc
  have B' : Below A base outer (hideAll H (((s.heap.objs.size, tupO vs) :: foot).map (·.1))) := below_hide (s := { s with heap := H }) BP off2
  have hns := x.toInCall.ns
  have hfl' := hfl H.objs.size s.heap.objs.size
  have FF : Fr (hideAll H (((s.heap.objs.size, tupO vs) :: foot).map (·.1))) H.objs.size h₁ (fun y => List.lookup y (fl s.heap.objs.size)) := ⟨by rw [← hfl']; exact hns, fun b o e => hk₁ b o (of_hideAll _ e), Nat.le_of_eq (hideAll_size _ _)⟩
  have hap : (cells.map (·.1)).Nodup := by rw [cellsAre_addrs Y, List.nodup_iff_pairwise_ne, List.pairwise_map]; exact x.apart
  have hdis : ∀ p ∈ cells, ∀ q ∈ (s.heap.objs.size, tupO vs) :: foot, p.1 ≠ q.1 := fun p hp q hq e => by
    have := (NC p hp).2.2
    rw [e, hfoot2 q hq] at this; cases this
  refine h (hideAll H (((s.heap.objs.size, tupO vs) :: foot).map (·.1))) H.objs.size ⟨h₁, s.gens, s.drawn, tk, s.os⟩ cells s.heap.objs.size hnone ⟨?_, ?_, C.rm.hand⟩ ⟨FF, ?_, ?_, rfl, rfl⟩ ⟨B', ?_, ?_, ?_⟩ Y
  · show A.depth + 1 + d < _; omega
  · show A.units + 3 + 10 * d < _; have := C.rm.units; omega
  · intro p hp
    rcases List.mem_append.mp hp with hp | hp
    · refine ⟨(NC p hp).1, (NC p hp).2.1, ?_⟩
      cases q : (hideAll H (((s.heap.objs.size, tupO vs) :: foot).map (·.1))).get? p.1 with
      | none => rfl
      | some o => have := of_hideAll _ q; rw [(NC p hp).2.2] at this; cases this
    · exact ⟨hk₁ _ _ (hfoot2 p hp), Nat.ne_of_lt (Heap.lt_size (hfoot2 p hp)), hideAll_none _ (List.mem_map_of_mem hp)⟩
  · rw [List.map_append]
    refine List.nodup_append.mpr ⟨hap, nd2, ?_⟩
    intro a ha b hb
    obtain ⟨p, hp, rfl⟩ := List.mem_map.mp ha
    obtain ⟨q, hq, rfl⟩ := List.mem_map.mp hb
    exact hdis p hp q hq
  · intro b o e hb
    refine hideAll_get _ (hpush _ _ e) fun hm => ?_
    rcases List.mem_cons.mp hm with rfl | hm
    · rw [hnone] at e; cases e
    · exact hb hm
  · intro b o e
    have e2 := of_hideAll _ e
    have hne : b ≠ s.heap.objs.size := fun q => by rw [q, hideAll_none _ (by simp)] at e; cases e
    rw [← hH] at e2
    exact push_old e2 hne
  · exact fun b o e => hk₁ _ _ (hpush _ _ e)
theorem envX_of {L : Addr} {cl : Addr → List (Str × Addr)} (hcl : ∀ L, cellsFrom (L + 1) scope.names [] = cl L) : envOfC qual scope L f cdv = envX qual scope L f cdv (cl L) := by
  unfold envOfC; rw [hcl]
theorem enterVX (Gd : Gnd K base) (C : Site (d + 1) A base outer s.heap) (foot : List (Addr × Obj)) (OW : Own base outer s foot)
    (ho : K.lookup f = some ⟨oc, od, .func (fnX name qual params body scope [] dV kV doc pm an cdv ct), osl⟩) (hcd : codeIn K cdv qual = true)
    (hbind : BindsV s (fnX name qual params body scope [] dV kV doc pm an cdv ct) args vs binds)
    (hkind : ∀ D, ((binds D).all fun y => scope.names.lookup y.1 == some .local || scope.names.lookup y.1 == some .cell) = true)
    (hnd : ((cellsFrom 0 scope.names []).map (·.1)).Nodup) {fl : Addr → List (Str × Value)} {cl : Addr → List (Str × Addr)} (hcl : ∀ L, cellsFrom (L + 1) scope.names [] = cl L)
    (hfl : ∀ L D, bindL (envX qual scope L f cdv (cl L)).kindOf (binds D) (fun _ => none) = fun y => (fl D).lookup y)
    (h : ∀ g L s₁ cells D, s.heap.get? D = none → Room d (A.deeper (envX qual scope L f cdv (cl L))) → Wd s.gens s.os g L s₁ (fl D) (cells ++ (D, tupO vs) :: foot) → Inn A base outer s s₁ g foot →
      CellsAre (bindC (envX qual scope L f cdv (cl L)).kindOf (binds D) fun _ => none) (cl L) cells →
      wpAny (model prog w) (A.deeper (envX qual scope L f cdv (cl L))) (execs body (envX qual scope L f cdv (cl L)))
        (fun fl s' => R (.ok (.ret (match fl with | .ret v => v | _ => .none))) s')
        (fun e s' => wpAny (model prog w) (A.deeper (envX qual scope L f cdv (cl L))) (leaving (envX qual scope L f cdv (cl L)) e) (fun _ s'' => R (.error e) s'') (fun e' s'' => R (.error e') s'') s') s₁)
    (hco : scope.isCoroutine = false) (hgen : scope.isGenerator = false) (hk : scope.kind = .function) : codeAny (model prog w) A (.call (.ref f) args) R s := by
  refine enterV Gd C foot OW ho hcd hbind hkind hnd (fl := fl) (fun L D => ?_) (fun g L s₁ cells D hD Rm W I Y => ?_) hco hgen hk
  · rw [envX_of hcl]; exact hfl L D
  · rw [envX_of hcl] at Rm Y ⊢
    rw [hcl] at Y
    exact h g L s₁ cells D hD Rm W I Y
theorem enterCX (Gd : Gnd K base) (C : Site (d + 1) A base outer s.heap) (foot : List (Addr × Obj)) (OW : Own base outer s foot) {binds : List (Str × Value)}
    (ho : K.lookup f = some ⟨oc, od, .func (fnX name qual params body scope [] dV kV doc pm an cdv ct), osl⟩) (hcd : codeIn K cdv qual = true)
    (hbind : BindsTo s (fnX name qual params body scope [] dV kV doc pm an cdv ct) args binds)
    (hkind : (binds.all fun y => scope.names.lookup y.1 == some .local || scope.names.lookup y.1 == some .cell) = true)
    (hnd : ((cellsFrom 0 scope.names []).map (·.1)).Nodup) {fl : List (Str × Value)} {cl : Addr → List (Str × Addr)} (hcl : ∀ L, cellsFrom (L + 1) scope.names [] = cl L)
    (hfl : ∀ L, bindL (envX qual scope L f cdv (cl L)).kindOf binds (fun _ => none) = fun y => fl.lookup y)
    (h : ∀ g L s₁ cells, Room d (A.deeper (envX qual scope L f cdv (cl L))) → Wd s.gens s.os g L s₁ fl (cells ++ foot) → Inn A base outer s s₁ g foot →
      CellsAre (bindC (envX qual scope L f cdv (cl L)).kindOf binds fun _ => none) (cl L) cells →
      wpAny (model prog w) (A.deeper (envX qual scope L f cdv (cl L))) (execs body (envX qual scope L f cdv (cl L)))
        (fun fl s' => R (.ok (.ret (match fl with | .ret v => v | _ => .none))) s')
        (fun e s' => wpAny (model prog w) (A.deeper (envX qual scope L f cdv (cl L))) (leaving (envX qual scope L f cdv (cl L)) e) (fun _ s'' => R (.error e) s'') (fun e' s'' => R (.error e') s'') s') s₁)
    (hco : scope.isCoroutine = false) (hgen : scope.isGenerator = false) (hk : scope.kind = .function) : codeAny (model prog w) A (.call (.ref f) args) R s := by
  refine enterC Gd C foot OW ho hcd hbind hkind hnd (fl := fl) (fun L => ?_) (fun g L s₁ cells Rm W I Y => ?_) hco hgen hk
  · rw [envX_of hcl]; exact hfl L
  · rw [envX_of hcl] at Rm Y ⊢
    rw [hcl] at Y
    exact h g L s₁ cells Rm W I Y
end
end
section
open PySem PySem.W PyProof.Rows PySem.Calls Builtin PySem.MeetsSeq PySem.MeetsSeq3
set_option Elab.async false
set_option maxRecDepth 100000
section
variable {prog : Program} {w : World} {κ : Type} [DecidableEq κ] {ek : EK prog w κ}
  {A : Around} {E : Value → Shared → Prop} {s s' : Shared} {R : Result → Shared → Prop} {l l2 d it : Addr} {od : Obj} {ed : Array DictEntry} {ep i m m2 : Nat} {xs ys : Array Value} {ks kl : List κ} {k : κ} {x v : Value} {h h' : Heap}
theorem KeepNS.tup (k : KeepNS h h') : TupKept h h' := fun b o e _ n => k b o e fun es m t q => by obtain ⟨ys, j, z⟩ := n; rw [z] at q; cases q
theorem Fx.pushed (s : Shared) (o : Obj) : Fx s { s with heap := s.heap.push o } [] := ⟨fun b x e _ => Heap.get?_push_of_some _ e, rfl, rfl⟩
theorem fp2 {o : Obj} (hl : h.get? l = some o) (n : ∀ es n t, o.data ≠ .set es n t) : ∀ b ∈ [s.heap.objs.size, l], (∃ o, h.get? b = some o ∧ ∀ es n t, o.data ≠ .set es n t) ∨ s.heap.get? b = none := fun b hb => by
  rcases List.mem_cons.mp hb with rfl | hb
  · exact .inr (Heap.get?_none_of_le (Nat.le_refl _))
  · rw [List.mem_singleton.mp hb]; exact .inl ⟨o, hl, n⟩
theorem feed_list {I : Addr} (hl : s.heap.get? l = some (lstO xs m)) (hr : ek.All s.heap xs.toList kl) (hi : s.heap.IsListIter I l 0) (hne : l ≠ I) :
    Feeding ek s I [I, l] [I] kl (fun i v => xs[i]? = some v) (fun i h => h.IsListIter I l i ∧ h.IsList l xs) where
  walks := fun A hh => by rw [← hr.length, Array.length_toList]; exact Walks.list hh I l hne xs
  start := ⟨hi, _, hl, rfl, _, rfl⟩
  keys := fun i v e => hr.get e
  noSet := fun b hb => by
    rcases List.mem_cons.mp hb with rfl | hb
    · obtain ⟨o, e, _, d⟩ := hi; exact ⟨o, e, fun _ _ _ q => by rw [d] at q; cases q⟩
    · rw [List.mem_singleton.mp hb]; exact ⟨_, hl, fun _ _ _ q => by cases q⟩
  wrNT := fun i h st b hb => by
    rw [List.mem_singleton.mp hb]
    obtain ⟨o, e, c, _⟩ := st.1
    exact ⟨o, e, by rw [c]; decide⟩
theorem iter_list (hl : h.get? l = some (lstO xs m)) (hr : ek.All h xs.toList kl) : Iter ek A h (.ref l) kl [] := by
  intro s E Q k q
  have hl' : s.heap.get? l = some (lstO xs m) := k _ _ hl fun _ _ _ q => by cases q
  refine wpAny_pyIter_list ⟨_, hl', rfl, _, rfl⟩ ?_
  have F := Fx.pushed s { cls := .type "list_iterator", data := .fields #[.ref l, .int 0 0] }
  have hne : l ≠ s.heap.objs.size := Nat.ne_of_lt (Heap.lt_size hl')
  refine q _ _ _ _ _ _ F (feed_list (m := m) (F.keep _ _ hl' (by simp)) ((hr.mono k.tup).mono (nil_tup F)) ⟨_, Heap.get?_push_size _ rfl, rfl, rfl⟩ hne) (fun b hb => ?_) (fp2 hl (fun _ _ _ q => by cases q))
  rw [List.mem_singleton.mp hb]
  exact .inr (Heap.get?_none_of_le (Nat.le_refl _))
theorem feed_tuple {I : Addr} (hl : s.heap.get? l = some { cls := .type "tuple", data := .seq xs m }) (hr : ek.All s.heap xs.toList kl) (hi : s.heap.IsTupleIter I l 0) (hne : l ≠ I) :
    Feeding ek s I [I, l] [I] kl (fun i v => xs[i]? = some v) (fun i h => h.IsTupleIter I l i ∧ h.IsTuple l xs) where
  walks := fun A hh => by rw [← hr.length, Array.length_toList]; exact Walks.tuple hh I l hne xs
  start := ⟨hi, _, hl, rfl, _, rfl⟩
  keys := fun i v e => hr.get e
  noSet := fun b hb => by
    rcases List.mem_cons.mp hb with rfl | hb
    · obtain ⟨o, e, _, d⟩ := hi; exact ⟨o, e, fun _ _ _ q => by rw [d] at q; cases q⟩
    · rw [List.mem_singleton.mp hb]; exact ⟨_, hl, fun _ _ _ q => by cases q⟩
  wrNT := fun i h st b hb => by
    rw [List.mem_singleton.mp hb]
    obtain ⟨o, e, c, _⟩ := st.1
    exact ⟨o, e, by rw [c]; decide⟩
theorem iter_tuple (hl : h.get? l = some { cls := .type "tuple", data := .seq xs m }) (hr : ek.All h xs.toList kl) : Iter ek A h (.ref l) kl [] := by
  intro s E Q k q
  have hl' : s.heap.get? l = some { cls := .type "tuple", data := .seq xs m } := k _ _ hl fun _ _ _ q => by cases q
  refine wpAny_pyIter_tuple ⟨_, hl', rfl, _, rfl⟩ ?_
  have F := Fx.pushed s { cls := .type "tuple_iterator", data := .fields #[.ref l, .int 0 0] }
  have hne : l ≠ s.heap.objs.size := Nat.ne_of_lt (Heap.lt_size hl')
  refine q _ _ _ _ _ _ F (feed_tuple (m := m) (F.keep _ _ hl' (by simp)) ((hr.mono k.tup).mono (nil_tup F)) ⟨_, Heap.get?_push_size _ rfl, rfl, rfl⟩ hne) (fun b hb => ?_) (fp2 hl (fun _ _ _ q => by cases q))
  rw [List.mem_singleton.mp hb]
  exact .inr (Heap.get?_none_of_le (Nat.le_refl _))
theorem next_dict_item {e : DictEntry} {Q : Option Value → Shared → Prop} (hit : s.heap.IsKeyIter it d i ed.size ep) (ho : s.heap.get? d = some od) (hd : od.data = .dict ed ep) (hx : ed[i]? = some e)
    (hQ : ∀ h', h'.IsKeyIter it d (i + 1) ed.size ep → Heap.SameBut it s.heap h' → Q (some e.key) { s with heap := h' }) : wpAny (model prog w) A (pyNext (.ref it)) Q E s := by
  obtain ⟨o, hoi, hc, hdt⟩ := id hit
  have hlt : i < ed.size := (Array.getElem?_eq_some_iff.mp hx).1
  unfold pyNext
  refine wpAny_bind (wpAny_attempt (wpAny_callSpecial?_slot (name := Str.ofString "__next__") hit.typeIs PySem.F.slot_dict_keyiterator_next
    (wpAny_call_entry PySem.F.slot_dict_keyiterator_next hit.typeIs PySem.F.entry_dict_keyiterator_next ?_ (PySem.F.args_dict_keyiterator_next_1 _))))
  refine wpAny_bind (wpAny_pure (wpAny_bind (wpAny_bind ?_)))
  first | refine wpAny_bind (wpAny_typeNameOfWhole_keyiter hit.typeIs (wpAny_pure ?_)) | refine wpAny_bind (wpAny_typeNameOf_keyiter hit.typeIs (wpAny_pure ?_))
  refine wpAny_bind (wpAny_fieldsOf hoi hdt ?_)
  have hown : Builtin.Dict_items.ownsTuple "dict_keyiterator" = false := by decide
  simp only [hown, Bool.false_eq_true, if_false]
  show wpAny _ _ (if (Value.ref d == Value.none) = true then _ else _) _ _ s
  rw [if_neg (show ¬ ((Value.ref d == Value.none) = true) from Bool.false_ne_true)]
  refine wpAny_bind (wpAny_pure (wpAny_bind (wpAny_dictEntries ho hd ?_)))
  rw [if_neg (by simp)]
  refine wpAny_bind (wpAny_pure (wpAny_bind (wpAny_dictEpoch ho hd ?_)))
  rw [if_neg (by simp)]
  refine wpAny_pure ?_
  simp only [show ¬ ((i : Int) < 0) from by omega, if_false, Int.toNat_natCast, hx]
  refine wpAny_bind ?_
  first | refine wpAny_bind (wpAny_typeNameOfWhole_keyiter hit.typeIs (wpAny_pure ?_)) | refine wpAny_bind (wpAny_typeNameOf_keyiter hit.typeIs (wpAny_pure ?_))
  refine wpAny_bind (wpAny_isOneOf_keyiter hit.typeIs ?_)
  show wpAny _ _ (setField (.ref it) 1 (rawInt ((i : Int) + 1)) >>= _) _ _ s
  refine wpAny_bind (wpAny_setField hoi hdt (by simp) ?_)
  have hit' : (s.heap.update it (Obj.mapFields (·.setIfInBounds 1 (rawInt ((i : Int) + 1))))).IsKeyIter it d (i + 1) ed.size ep :=
    ⟨_, Heap.get?_update_self _ hoi (Obj.isFreed_of_fields (Obj.data_mapFields hdt _)), (Obj.cls_mapFields ..).trans hc, by rw [Obj.data_mapFields hdt]; simp [rawInt]⟩
  refine wpAny_bind (wpAny_holding ?_)
  refine wpAny_bind (wpAny_isOneOf_keyiter (s := { s with heap := s.heap.update it (Obj.mapFields (·.setIfInBounds 1 (rawInt ((i : Int) + 1)))) }) hit'.typeIs ?_)
  show wpAny _ _ (pure e.key) _ _ _
  exact wpAny_pure (wpAny_pure ⟨_, rfl, wpAny_pure (hQ _ hit' (Heap.SameBut.update ..))⟩)
theorem next_dict_end {Q : Option Value → Shared → Prop} (hh : A.handled = none) (hit : s.heap.IsKeyIter it d ed.size ed.size ep) (ho : s.heap.get? d = some od) (hd : od.data = .dict ed ep)
    (hQ : ∀ h', Heap.ExtBut it s.heap h' → Q none { s with heap := h' }) : wpAny (model prog w) A (pyNext (.ref it)) Q E s := by
  obtain ⟨o, hoi, hc, hdt⟩ := id hit
  unfold pyNext
  refine wpAny_bind (wpAny_attempt (wpAny_callSpecial?_slot (name := Str.ofString "__next__") hit.typeIs PySem.F.slot_dict_keyiterator_next
    (wpAny_call_entry PySem.F.slot_dict_keyiterator_next hit.typeIs PySem.F.entry_dict_keyiterator_next ?_ (PySem.F.args_dict_keyiterator_next_1 _))))
  refine wpAny_bind (wpAny_pure (wpAny_bind (wpAny_bind ?_)))
  first | refine wpAny_bind (wpAny_typeNameOfWhole_keyiter hit.typeIs (wpAny_pure ?_)) | refine wpAny_bind (wpAny_typeNameOf_keyiter hit.typeIs (wpAny_pure ?_))
  refine wpAny_bind (wpAny_fieldsOf hoi hdt ?_)
  have hown : Builtin.Dict_items.ownsTuple "dict_keyiterator" = false := by decide
  simp only [hown, Bool.false_eq_true, if_false]
  show wpAny _ _ (if (Value.ref d == Value.none) = true then _ else _) _ _ s
  rw [if_neg (show ¬ ((Value.ref d == Value.none) = true) from Bool.false_ne_true)]
  refine wpAny_bind (wpAny_pure (wpAny_bind (wpAny_dictEntries ho hd ?_)))
  rw [if_neg (by simp)]
  refine wpAny_bind (wpAny_pure (wpAny_bind (wpAny_dictEpoch ho hd ?_)))
  rw [if_neg (by simp)]
  refine wpAny_pure ?_
  simp only [show ¬ ((ed.size : Int) < 0) from by omega, if_false, Int.toNat_natCast, Array.getElem?_eq_none (Nat.le_refl _)]
  refine wpAny_bind ?_
  first | refine wpAny_bind (wpAny_typeNameOfWhole_keyiter hit.typeIs (wpAny_pure ?_)) | refine wpAny_bind (wpAny_typeNameOf_keyiter hit.typeIs (wpAny_pure ?_))
  show wpAny _ _ (setField (.ref it) 0 .none >>= _) _ _ s
  refine wpAny_bind (wpAny_setField hoi hdt (by simp) ?_)
  refine wpAny_bind ?_
  simp only [newExc, newTuple]
  refine wpAny_bind (wpAny_newObj_type ?_ (by size_fits))
  refine wpAny_bind (m := firstArgMember _ _) (wpAny_of_eq (a := Value.none) (by first | rfl | (simp only [firstArgMember]; rfl)) ?_)
  refine wpAny_newObj_type ?_ (by size_fits)
  simp only [raiseNew]
  refine wpAny_bind (wpAny_handled ?_)
  rw [show A.in1.handled = none from hh]
  refine wpAny_bind (wpAny_pure (wpAny_throw ?_))
  refine wpAny_bind (wpAny_isInstance (T := "StopIteration") (b := true) ⟨_, Heap.get?_push_size _ rfl, rfl⟩ isSubtype_stop ?_)
  exact wpAny_pure (hQ _ (((Heap.SameBut.update ..).extBut.push _).push _))
theorem walk_dict {I : Addr} (hh : A.handled = none) (hne : d ≠ I) (hd : od.data = .dict ed ep) :
    Walks prog w A I [I, d] [I] ed.size (fun i v => ∃ e, ed[i]? = some e ∧ v = e.key) (fun i h => h.IsKeyIter I d i ed.size ep ∧ h.get? d = some od) where
  sub := fun b hb => by rw [List.mem_singleton.mp hb]; exact .head _
  frame := fun _ _ _ st hk => ⟨st.1.at fun o e => hk I (by simp) o e, hk d (by simp) _ st.2⟩
  item := fun i s Q E hi st hQ => by
    refine next_dict_item st.1 st.2 hd (Array.getElem?_eq_getElem hi) fun h' hit' hs' => ?_
    exact hQ _ h' s.toks ⟨_, Array.getElem?_eq_getElem hi, rfl⟩ ⟨hit', (hs'.2 d hne).trans st.2⟩ fun b o hb e => (hs'.2 b fun h => hb (by simp [h])).trans e
  done := fun s Q E st hQ => next_dict_end hh st.1 st.2 hd fun h' he' => hQ h' s.toks fun b o hb e => he' b o (fun h => hb (by simp [h])) e
  self := fun _ _ _ _ st hQ => wpAny_pyIter_keyiter st.1 hQ
theorem feed_dict {I : Addr} (D : DI ek s.heap d od ed ep kl) (hi : s.heap.IsKeyIter I d 0 ed.size ep) (hne : d ≠ I) :
    Feeding ek s I [I, d] [I] kl (fun i v => ∃ e, ed[i]? = some e ∧ v = e.key) (fun i h => h.IsKeyIter I d i ed.size ep ∧ h.get? d = some od) where
  walks := fun A hh => by
    have e := All2.length D.ents
    rw [Array.length_toList] at e
    rw [← e]; exact walk_dict hh hne D.data
  start := ⟨hi, D.at_⟩
  keys := fun i v z => by
    obtain ⟨e, he, rfl⟩ := z
    obtain ⟨k, a, b⟩ := All2.get D.ents (show ed.toList[i]? = some e by rwa [Array.getElem?_toList])
    exact ⟨k, a, b.2⟩
  noSet := fun b hb => by
    rcases List.mem_cons.mp hb with rfl | hb
    · obtain ⟨o, e, _, d⟩ := hi; exact ⟨o, e, fun _ _ _ q => by rw [d] at q; cases q⟩
    · rw [List.mem_singleton.mp hb]; exact ⟨_, D.at_, D.notSet⟩
  wrNT := fun i h st b hb => by
    rw [List.mem_singleton.mp hb]
    obtain ⟨o, e, c, _⟩ := st.1
    exact ⟨o, e, by rw [c]; decide⟩
theorem iter_dict (D : DI ek h d od ed ep kl) : Iter ek A h (.ref d) kl [] := by
  intro s E Q k q
  have D' : DI ek s.heap d od ed ep kl := D.keepNS k k.tup
  have hT : s.TypeIs (.ref d) "dict" := ⟨_, D'.at_, D'.cls⟩
  refine wpAny_pyIter_slot hT PySem.F.slot_dict_iter (wpAny_call_entry PySem.F.slot_dict_iter hT PySem.F.entry_dict_iter ?_ (PySem.F.args_dict_iter_1 _))
  unfold Builtin.«dict.__iter__»
  refine wpAny_bind ?_
  unfold Builtin.Dict.dictSlotNone
  refine wpAny_bind (wpAny_notOrdered_dict hT ?_)
  show wpAny _ _ (pure (Value.ref d)) _ _ s
  refine wpAny_pure ?_
  show wpAny _ _ (Builtin.Dict.showsAll d >>= _) _ _ s
  unfold Builtin.Dict.showsAll
  rw [if_neg (by rw [D.noSys]; exact Bool.false_ne_true)]
  refine wpAny_bind (wpAny_pure (wpAny_bind (wpAny_dictEntries D'.at_ D'.data (wpAny_bind (wpAny_dictEpoch D'.at_ D'.data ?_)))))
  refine wpAny_bind (wpAny_newObj_type (wpAny_pure ⟨_, rfl, "dict_keyiterator", _, ⟨_, Heap.get?_push_size _ rfl, rfl⟩, PySem.F.slot_dict_keyiterator_next.lookup, ?_⟩))
  have F := Fx.pushed s { cls := .type "dict_keyiterator", data := .fields #[.ref d, .int 0 0, .int ed.size 0, .int ep 0] }
  have hne : d ≠ s.heap.objs.size := Nat.ne_of_lt (Heap.lt_size D'.at_)
  refine q _ _ _ _ _ _ F (feed_dict (D'.fx F (nil_tup F) (by simp)) ⟨_, Heap.get?_push_size _ rfl, rfl, rfl⟩ hne) (fun b hb => ?_) (fp2 D.at_ D.notSet)
  rw [List.mem_singleton.mp hb]
  exact .inr (Heap.get?_none_of_le (Nat.le_refl _))
structure IterF (ek : EK prog w κ) (A : Around) (s : Shared) (v : Value) (kl : List κ) (w0 as : List Addr) : Prop where
  live : ∀ b ∈ as, ∃ o, s.heap.get? b = some o
  run : ∀ (s' : Shared) (E : Value → Shared → Prop) (Q : Value → Shared → Prop), Fx s s' [] → (∀ s'' I fp wr P St, Fx s' s'' [] → Feeding ek s'' I fp wr kl P St → (∀ b ∈ wr, b ∈ w0 ∨ s'.heap.get? b = none) → (∀ b ∈ fp, b ∈ as ∨ s'.heap.get? b = none) → Q (.ref I) s'') → wpAny (model prog w) A (pyIter v) Q E s'
theorem IterF.later {as w0 : List Addr} (x : IterF ek A s v kl w0 as) (F : Fx s s' []) : IterF ek A s' v kl w0 as := ⟨fun b hb => let ⟨o, e⟩ := x.live b hb; ⟨o, F.keep _ _ e (by simp)⟩, fun s'' E Q F' q => x.run s'' E Q (F.trans F') q⟩
theorem iterF_list (hl : s.heap.get? l = some (lstO xs m)) (hr : ek.All s.heap xs.toList kl) : IterF ek A s (.ref l) kl [] [l] := by
  refine ⟨fun b hb => by rw [List.mem_singleton.mp hb]; exact ⟨_, hl⟩, fun s E Q k q => ?_⟩
  have hl' := k.keep _ _ hl (by simp)
  refine wpAny_pyIter_list ⟨_, hl', rfl, _, rfl⟩ ?_
  have F := Fx.pushed s { cls := .type "list_iterator", data := .fields #[.ref l, .int 0 0] }
  have hne : l ≠ s.heap.objs.size := Nat.ne_of_lt (Heap.lt_size hl')
  refine q _ _ _ _ _ _ F (feed_list (m := m) (F.keep _ _ hl' (by simp)) ((hr.mono (nil_tup k)).mono (nil_tup F)) ⟨_, Heap.get?_push_size _ rfl, rfl, rfl⟩ hne) (fun b hb => ?_) fun b hb => ?_
  · rw [List.mem_singleton.mp hb]
    exact .inr (Heap.get?_none_of_le (Nat.le_refl _))
  · rcases List.mem_cons.mp hb with rfl | hb
    · exact .inr (Heap.get?_none_of_le (Nat.le_refl _))
    · exact .inl hb
theorem iterF_tuple (hl : s.heap.get? l = some { cls := .type "tuple", data := .seq xs m }) (hr : ek.All s.heap xs.toList kl) : IterF ek A s (.ref l) kl [] [l] := by
  refine ⟨fun b hb => by rw [List.mem_singleton.mp hb]; exact ⟨_, hl⟩, fun s E Q k q => ?_⟩
  have hl' := k.keep _ _ hl (by simp)
  refine wpAny_pyIter_tuple ⟨_, hl', rfl, _, rfl⟩ ?_
  have F := Fx.pushed s { cls := .type "tuple_iterator", data := .fields #[.ref l, .int 0 0] }
  have hne : l ≠ s.heap.objs.size := Nat.ne_of_lt (Heap.lt_size hl')
  refine q _ _ _ _ _ _ F (feed_tuple (m := m) (F.keep _ _ hl' (by simp)) ((hr.mono (nil_tup k)).mono (nil_tup F)) ⟨_, Heap.get?_push_size _ rfl, rfl, rfl⟩ hne) (fun b hb => ?_) fun b hb => ?_
  · rw [List.mem_singleton.mp hb]
    exact .inr (Heap.get?_none_of_le (Nat.le_refl _))
  · rcases List.mem_cons.mp hb with rfl | hb
    · exact .inr (Heap.get?_none_of_le (Nat.le_refl _))
    · exact .inl hb
theorem iterF_dict (D : DI ek s.heap d od ed ep kl) : IterF ek A s (.ref d) kl [] [d] := by
  refine ⟨fun b hb => by rw [List.mem_singleton.mp hb]; exact ⟨_, D.at_⟩, fun s E Q k q => ?_⟩
  have D' : DI ek s.heap d od ed ep kl := D.fx k (nil_tup k) (by simp)
  have hT : s.TypeIs (.ref d) "dict" := ⟨_, D'.at_, D'.cls⟩
  refine wpAny_pyIter_slot hT PySem.F.slot_dict_iter (wpAny_call_entry PySem.F.slot_dict_iter hT PySem.F.entry_dict_iter ?_ (PySem.F.args_dict_iter_1 _))
  unfold Builtin.«dict.__iter__»
  refine wpAny_bind ?_
  unfold Builtin.Dict.dictSlotNone
  refine wpAny_bind (wpAny_notOrdered_dict hT ?_)
  show wpAny _ _ (pure (Value.ref d)) _ _ s
  refine wpAny_pure ?_
  show wpAny _ _ (Builtin.Dict.showsAll d >>= _) _ _ s
  unfold Builtin.Dict.showsAll
  rw [if_neg (by rw [D.noSys]; exact Bool.false_ne_true)]
  refine wpAny_bind (wpAny_pure (wpAny_bind (wpAny_dictEntries D'.at_ D'.data (wpAny_bind (wpAny_dictEpoch D'.at_ D'.data ?_)))))
  refine wpAny_bind (wpAny_newObj_type (wpAny_pure ⟨_, rfl, "dict_keyiterator", _, ⟨_, Heap.get?_push_size _ rfl, rfl⟩, PySem.F.slot_dict_keyiterator_next.lookup, ?_⟩))
  have F := Fx.pushed s { cls := .type "dict_keyiterator", data := .fields #[.ref d, .int 0 0, .int ed.size 0, .int ep 0] }
  have hne : d ≠ s.heap.objs.size := Nat.ne_of_lt (Heap.lt_size D'.at_)
  refine q _ _ _ _ _ _ F (feed_dict (D'.fx F (nil_tup F) (by simp)) ⟨_, Heap.get?_push_size _ rfl, rfl, rfl⟩ hne) (fun b hb => ?_) fun b hb => ?_
  · rw [List.mem_singleton.mp hb]
    exact .inr (Heap.get?_none_of_le (Nat.le_refl _))
  · rcases List.mem_cons.mp hb with rfl | hb
    · exact .inr (Heap.get?_none_of_le (Nat.le_refl _))
    · exact .inl hb
end
end
section
open PySem PySem.W PyProof.Rows PySem.Calls Builtin PySem.MeetsSeq PySem.MeetsSeq3
set_option Elab.async false
set_option maxRecDepth 100000
set_option linter.unusedVariables false
section
variable {prog : Program} {w : World} {κ : Type} [DecidableEq κ] {ek : EK prog w κ}
  {A : Around} {E : Value → Shared → Prop} {s s' : Shared} {R : Result → Shared → Prop} {l l2 d S : Addr} {od : Obj} {ed : Array DictEntry} {ep i m m2 : Nat} {xs ys : Array Value} {ks kl : List κ} {k : κ} {x v : Value} {h h' : Heap} {w0 as : List Addr}
def HintF (prog : Program) (w : World) (A : Around) (s : Shared) (v : Value) : Prop :=
  ∀ (s' : Shared) (E : Value → Shared → Prop) (Q : Bool → Shared → Prop), Fx s s' [] → (∀ b s'', Fx s' s'' [] → Q b s'') → wpAny (model prog w) A (Builtin.List.listLengthHint v) Q E s'
theorem Feeding.fx {I : Addr} {fp wr as : List Addr} {P : Nat → Value → Prop} {St : Nat → Heap → Prop} (Fd : Feeding ek s I fp wr kl P St) (F : Fx s s' as) (tk : TupKept s.heap s'.heap) (h : ∀ b ∈ as, b ∉ fp) : Feeding ek s' I fp wr kl P St where
  walks := Fd.walks
  start := (Fd.walks { frames := none, depth := 0, units := 0, handled := none } rfl).frame _ _ _ Fd.start fun b hb o e => F.keep b o e fun m => h b m hb
  keys := fun i v p => (Fd.keys i v p).imp fun k z => ⟨z.1, ek.mono tk z.2⟩
  noSet := fun b hb => (Fd.noSet b hb).imp fun o z => ⟨F.keep _ _ z.1 fun m => h b m hb, z.2⟩
  wrNT := Fd.wrNT
theorem ext_loop {I : Addr} {fp wr : List Addr} {P : Nat → Value → Prop} {St : Nat → Heap → Prop} (hh : A.handled = none) (Fd : Feeding ek s I fp wr kl P St) (hS : s.heap.get? S = some (lstO #[] m)) (hSf : S ∉ fp) (hz : kl.length ≤ 10000) (hR : ∀ s' xs m, Fx s s' (S :: wr) → s'.heap.get? S = some (lstO xs m) → ek.All s'.heap xs.toList kl → R (.ok (.ret .none)) s') :
    codeAny (model prog w) A (.builtin "list.extend.loop" ⟨[.ref S, .ref I, .none], []⟩) R s := by
  have hSw : S ∉ wr := fun q => hSf ((Fd.walks A hh).sub S q)
  have tupOf : ∀ s', Fx s s' (S :: wr) → TupKept s.heap s'.heap := fun s' F => F.tup fun b hb => by
    rcases List.mem_cons.mp hb with rfl | hb
    · exact ⟨_, hS, by show Value.type "list" ≠ _; decide⟩
    · exact Fd.wrNT _ _ Fd.start b hb
  refine feed_loop Fd hh (as := [S]) (fun b hb => by rw [List.mem_singleton.mp hb]; exact hSf) (plainId_quiet PySem.F.plain_extend_loop _) (Around.under_plainId PySem.F.plain_extend_loop _)
    (dn := ret .none) (body := fun x => do Builtin.List.listUpdate (.ref S) (·.push x); again (.builtin "list.extend.loop" ⟨[.ref S, .ref I, .none], []⟩)) (fun Q E s hn => ?_)
    (fun d s' => Fx s s' (S :: wr) ∧ ∃ xs m, s'.heap.get? S = some (lstO xs m) ∧ ek.All s'.heap xs.toList d ∧ d.length ≤ kl.length)
    (fun d s' hi => tupOf s' hi.1) ?_ ?_ ?_ ⟨Fx.refl _ _, #[], m, hS, .nil, by simp⟩
  · rw [den_of PySem.F.entry_extend_loop]
    refine wpAny_bind (wpAny_mono hn (fun r s' z => ?_) fun _ _ z => z)
    cases r <;> exact z
  · rintro d s' s'' ⟨F, xs, m, e, a, z⟩ F' tk
    exact ⟨F.trans (F'.mono fun b hb => .tail _ hb), xs, m, F'.keep _ _ e hSw, a.mono tk, z⟩
  · rintro k x d r s' hkl ⟨F, xs, m, e, a, z⟩ hk
    have hsz := a.length
    rw [Array.length_toList] at hsz
    have hl : d.length + 1 ≤ kl.length := by rw [hkl]; simp
    refine wpAny_bind ?_
    show wpAny _ _ (updateSeq S (·.push x)) _ _ _
    refine wpAny_updateSeq e rfl (hz := by rw [sizeLine_eq]; omega) (wpAny_pure (.inl ⟨rfl, fx_upd, F.trans (fx_upd.mono fun b hb => by rw [List.mem_singleton.mp hb]; exact .head _), ?_⟩))
    obtain ⟨m', e2⟩ := lst_upd (s := s') (f := (·.push x)) e
    refine ⟨xs.push x, m', e2, ?_, by simp; omega⟩
    have F2 : Fx s' { s' with heap := s'.heap.update S (Obj.mapSeq (·.push x)) } [S] := fx_upd
    have tk := F2.tup1 e (by show Value.type "list" ≠ _; decide)
    rw [Array.toList_push]
    exact All2.app (a.mono tk) (.cons (ek.mono tk hk) .nil)
  · rintro s' ⟨F, xs, m, e, a, z⟩
    exact wpAny_pure ⟨_, rfl, hR s' xs m F e a⟩
theorem fx_touch {f g : Array Value → Array Value} (hS : s.heap.get? S = some (lstO xs m)) : ∃ m', ({ s with heap := (s.heap.update S (Obj.mapSeq f)).update S (Obj.mapSeq g) } : Shared).heap.get? S = some (lstO (g (f xs)) m') := by
  obtain ⟨m', e⟩ := lst_upd (f := f) hS
  exact lst_upd (s := { s with heap := s.heap.update S (Obj.mapSeq f) }) (f := g) e
theorem list_iter {T : Value} {Q : Value → Shared → Prop} (hA : AOk3 A) (hT : Looks (model prog w) s.heap (typeOf v) T) (h1 : T ≠ .type "list") (h2 : T ≠ .type "tuple") (hi : IterF ek A.in1.in1 s v kl w0 as) (hn : HintF prog w A.in1.in1 s v) (hz : kl.length ≤ 10000)
    (h : ∀ s' r xs m, Fx s s' w0 → s.heap.get? r = none → s'.heap.get? r = some (lstO xs m) → ek.All s'.heap xs.toList kl → Q (.ref r) s') (hv : v ≠ .ref s.heap.objs.size) :
    wpAny (model prog w) A (call (.type "list") [v]) Q E s := by
  refine callType_codes (Q₁ := fun obj s₁ => obj = .ref s.heap.objs.size ∧ s₁ = { s with heap := s.heap.push { cls := .type "list", data := .seq #[] } }) PySem.F.called_list (PySem.F.typeCall_list_1 _) PySem.F.entry_list_init
    (code_list_new _ ⟨rfl, rfl⟩) fun obj s₁ h₁ => ?_
  obtain ⟨rfl, rfl⟩ := h₁
  have hS : (s.heap.push { cls := .type "list", data := .seq #[] }).get? s.heap.objs.size = some (lstO #[] 0) := Heap.get?_push_size _ rfl
  have hnone : s.heap.get? s.heap.objs.size = none := Heap.get?_none_of_le (Nat.le_refl _)
  refine ⟨⟨_, hS, rfl⟩, PySem.F.args_list_init_2 _ _, ?_⟩
  have F0 := Fx.pushed s { cls := .type "list", data := .seq #[] }
  generalize hS' : s.heap.objs.size = S at *
  generalize hs1 : ({ s with heap := s.heap.push { cls := .type "list", data := .seq #[] } } : Shared) = s₁ at *
  have hS1 : s₁.heap.get? S = some (lstO #[] 0) := by rw [← hs1]; exact hS
  show wpAny _ A.in1.in1 (do let old ← Builtin.List.listItems (.ref S); Builtin.List.listUpdate (.ref S) (fun _ => #[]); letGo old.toList.reverse; Builtin.List.listExtendWith (.ref S) v .none) _ _ _
  refine wpAny_bind ?_
  unfold Builtin.List.listItems
  refine wpAny_bind (wpAny_seqItems hS1 rfl (wpAny_pure ?_))
  show wpAny _ A.in1.in1 (updateSeq S (fun _ => #[]) >>= fun _ => letGo (#[] : Array Value).toList.reverse >>= fun _ => Builtin.List.listExtendWith (.ref S) v .none) _ _ _
  refine wpAny_bind (wpAny_updateSeq hS1 rfl (wpAny_bind (wpAny_letGo ?_)))
  obtain ⟨m₂, hS2⟩ := lst_upd (s := s₁) (f := fun _ => (#[] : Array Value)) hS1
  have Fs : ∀ {s₂ : Shared}, Fx s₁ s₂ [S] → Fx s s₂ [] := fun F => by
    refine ⟨fun b o e _ => F.keep _ _ (F0.keep _ _ e (by simp)) fun q => ?_, F.gens.trans F0.gens, F.os.trans F0.os⟩
    rw [List.mem_singleton.mp q, hnone] at e; cases e
  have F2 : Fx s { s₁ with heap := s₁.heap.update S (Obj.mapSeq fun _ => #[]) } [] := Fs fx_upd
  generalize hs2 : ({ s₁ with heap := s₁.heap.update S (Obj.mapSeq fun _ => #[]) } : Shared) = s₂ at *
  unfold Builtin.List.listExtendWith
  refine wpAny_bind ((hT.keeps (h' := s₂.heap) fun b o e => F2.keep _ _ e (by simp)).here ?_)
  have hsr : Builtin.List.listSameRef (.ref S) v = false := by
    cases v <;> first | rfl | (rename_i a; simp only [Builtin.List.listSameRef]; simpa using fun q => hv (by rw [q]))
  have e1 : (T == Value.type "list") = false := by simpa using h1
  have e2 : (T == Value.type "tuple") = false := by simpa using h2
  simp only [hsr, e1, e2, Bool.or_false, Bool.false_eq_true, if_false]
  refine wpAny_bind (hi.run _ _ _ F2 fun s₃ I fp wr P St F₃ Fd hw hf => ?_)
  refine wpAny_bind (wpAny_holding (hn _ _ _ (F2.trans F₃) fun b s₄ F₄ => ?_))
  have hSf : S ∉ fp := fun q => by
    rcases hf S q with z | e
    · obtain ⟨o, e⟩ := hi.live S z
      rw [hnone] at e; cases e
    · rw [hS2] at e; cases e
  have F34 := F₄
  have fin : ∀ {s₅ : Shared} {m₅ : Nat}, Fx s₄ s₅ [S] → s₅.heap.get? S = some (lstO #[] m₅) → codeAny (model prog w) A.in1 (.builtin "list.extend.loop" ⟨[.ref S, .ref I, .none], []⟩) (wants (fun r s₂ => r = Value.none ∧ Q (.ref S) s₂) E) s₅ := fun {s₅ m₅} F₅ e₅ => by
    have F35 : Fx s₃ s₅ [S] := (F₄.mono fun b hb => by cases hb).trans F₅
    have tk35 : TupKept s₃.heap s₅.heap := F35.tup fun b hb => by
      rw [List.mem_singleton.mp hb]
      exact ⟨_, F₃.keep _ _ hS2 (by simp), by show Value.type "list" ≠ _; decide⟩
    have Fd5 : Feeding ek s₅ I fp wr kl P St := Fd.fx F35 tk35 fun b hb => by rw [List.mem_singleton.mp hb]; exact hSf
    refine ext_loop hA.hand Fd5 e₅ hSf hz fun s₆ xs m F₆ e₆ a₆ => ⟨rfl, h s₆ S xs m ⟨fun b o e nb => ?_, ?_, ?_⟩ hnone e₆ a₆⟩
    · have hbS : b ≠ S := fun q => by rw [q, hnone] at e; cases e
      refine F₆.keep _ _ (F35.keep _ _ (F₃.keep _ _ (F2.keep _ _ e (by simp)) (by simp)) (by simpa using hbS)) fun q => ?_
      rcases List.mem_cons.mp q with q | q
      · exact hbS q
      · rcases hw b q with z | z
        · exact nb z
        · rw [F2.keep _ _ e (by simp)] at z; cases z
    · exact F₆.gens.trans (F35.gens.trans (F₃.gens.trans F2.gens))
    · exact F₆.os.trans (F35.os.trans (F₃.os.trans F2.os))
  have e4 : s₄.heap.get? S = some (lstO #[] m₂) := F₄.keep _ _ (F₃.keep _ _ hS2 (by simp)) (by simp)
  split
  · refine wpAny_bind (wpAny_rule (wpAny_bind ?_))
    show wpAny _ _ (updateSeq S (·.push .none) >>= fun _ => updateSeq S (·.pop)) _ _ _
    refine wpAny_bind (wpAny_updateSeq e4 rfl (hz := by rw [sizeLine_eq]; simp) ?_)
    obtain ⟨m₅, e5⟩ := lst_upd (s := s₄) (f := (·.push Value.none)) e4
    refine wpAny_updateSeq e5 rfl (hz := by rw [sizeLine_eq]; simp) ?_
    obtain ⟨m₆, e6⟩ := fx_touch (s := s₄) (f := (·.push Value.none)) (g := (·.pop)) e4
    exact wpAny_pure ⟨plainId_quiet PySem.F.plain_extend_loop _, fin (fx_upd.trans (fx_upd (s := { s₄ with heap := s₄.heap.update S (Obj.mapSeq (·.push Value.none)) }))) e6⟩
  · exact wpAny_pure ⟨plainId_quiet PySem.F.plain_extend_loop _, fin (Fx.refl _ _) e4⟩
end
end
section
open PySem PySem.W PyProof.Rows PySem.Calls Builtin PySem.MeetsSeq PySem.MeetsSeq3
set_option Elab.async false
set_option maxRecDepth 100000
set_option linter.unusedVariables false
section
variable {prog : Program} {w : World} {κ : Type} [DecidableEq κ] {ek : EK prog w κ} {th : SetTh ek}
  {A : Around} {E : Value → Shared → Prop} {s s' : Shared} {R : Result → Shared → Prop} {l l2 d S a : Addr} {o od : Obj} {es : Array (Int × Value)} {ed : Array DictEntry} {ep i m m2 n : Nat} {t : SetTable} {xs ys : Array Value} {ks kl : List κ} {k : κ} {x v : Value} {h h' : Heap} {w0 : List Addr}
theorem callType2 {T newId initId : String} {args : List Value} {Q Q₁ : Value → Shared → Prop} (ft : TypeCalled T newId initId)
    (hct : checkTypeCall T ⟨args, []⟩ = pure ())
    (hnew : codeAny (model prog w) A.in1 (.call (.builtin newId) ⟨.type T :: args, []⟩) (wants Q₁ E) s)
    (hnext : ∀ obj s₁, Q₁ obj s₁ → s₁.TypeIs obj T ∧ codeAny (model prog w) A.in1 (.call (.builtin initId) ⟨obj :: args, []⟩) (wants (fun r s₂ => r = .none ∧ Q obj s₂) E) s₁) :
    wpAny (model prog w) A (call (.type T) args) Q E s := by
  obtain ⟨c, tl, hmro⟩ := ft.mro
  have hmade := ft.made
  have hsub := ft.sub
  refine wpAny_call (codeAny_of_tree ?_)
  show wpAny _ _ (callAny (.type T) _) _ _ _
  refine wpAny_pure ⟨Code.quiet_builtin _ (by decide +kernel), codeAny_builtin PySem.F.entry_type_call ?_⟩
  rw [Around.under_plain (weight_type_call_type T args []) rfl]
  have h1 := ft.notType
  have h2 := ft.canCreate
  repeat (any_goals (first | assumption | wp_step))
  refine codeAny_mono hnew fun r s₁ hr => ?_
  cases r with
  | error e => exact hr
  | ok fl =>
    cases fl with
    | ret obj =>
      obtain ⟨hT, hcode⟩ := hnext _ _ hr
      have hli := ft.init.lookup
      have hbi := ft.init.bind obj
      repeat (any_goals (first | assumption | wp_step))
      refine codeAny_mono hcode fun r₂ s₂ hr₂ => ?_
      cases r₂ with
      | error e => exact hr₂
      | ok fl₂ =>
        cases fl₂ with
        | ret r =>
          obtain ⟨rfl, hq⟩ := hr₂
          repeat (any_goals (first | assumption | wp_step))
        | _ => exact hr₂.elim
    | _ => exact hr.elim
theorem code_set_new {a : Value} {Q₁ : Value → Shared → Prop}
    (h : ∀ s' r t, Fx s s' [] → s.heap.get? r = none → s'.heap.get? r = some (setO #[] 0 t) → (∀ h, SetIs ek th.TT h #[] t []) → t.fill = 0 → Q₁ (.ref r) s') :
    codeAny (model prog w) A (.call (.builtin "set.__new__") ⟨[.type "set", a], []⟩) (wants Q₁ E) s := by
  refine codeAny_of_tree ?_
  show wpAny _ A.in1 (do checkBuiltinCall "set.__new__" ⟨[.type "set", a], []⟩; again (.builtin "set.__new__" ⟨[.type "set", a], []⟩)) _ _ s
  refine wpAny_bind (wpAny_of_eq (PySem.F.newCall_set_1 a) (wpAny_pure ⟨plainId_quiet PySem.F.plain_set_new _, codeAny_builtin PySem.F.entry_set_new ?_⟩))
  rw [Around.under_plainId PySem.F.plain_set_new _]
  unfold Builtin.«set.__new__»
  refine wpAny_bind (wpAny_of_eq (a := (.type "set", [a])) (by kernel_rfl) ?_)
  dsimp only
  exact wpAny_bind (st_newSet (th := th) fun s' r t F hr e i z => wpAny_pure (h s' r t F hr e i z))
theorem shown_set {r : Addr} (e : h.get? r = some o) (hc : o.cls = .type "set") : Looks (model prog w) h (shownTypeOf (.ref r)) (.type "set") := by
  unfold shownTypeOf
  refine Looks.andThen (a := .type "set") (by rw [← hc]; exact (Looks.ld e).andThen .now) ?_
  rw [show ((Value.type "set" == Value.type "builtin_function_or_method")) = false from by decide]
  exact .now
theorem nameCut_set {r : Addr} (e : h.get? r = some o) (hc : o.cls = .type "set") : Looks (model prog w) h (typeNameOfCut 200 (.ref r)) "set" :=
  (shown_set e hc).andThen (Looks.of_pure (by kernel_rfl))
theorem set_call {Q : Value → Shared → Prop} (hA : AOk3 A) (Ov : Opd th A.in1.in1 s v kl w0) (hns : ∀ b o, v = .ref b → s.heap.get? b = some o → ∀ es n t, o.data ≠ .set es n t)
    (h : ∀ s' r es n t, Fx s s' w0 → s.heap.get? r = none → SO th s'.heap r (setO es n t) es n t (kl.foldl addK []) → Q (.ref r) s') : wpAny (model prog w) A (call (.type "set") [v]) Q E s := by
  have hA2 : AOk2 A.in1.in1 := ⟨by have := hA.units; show A.units + 1 + 1 + 300 < _; omega, by have := hA.room; show A.depth + 8 < _; omega, hA.hand⟩
  refine callType2 (Q₁ := fun obj s₁ => ∃ r t, obj = .ref r ∧ Fx s s₁ [] ∧ s.heap.get? r = none ∧ s₁.heap.get? r = some (setO #[] 0 t) ∧ (∀ h, SetIs ek th.TT h #[] t []) ∧ t.fill = 0) PySem.F.called_set (PySem.F.typeCall_set_1 _)
    (code_set_new (th := th) fun s' r t F hr e i z => ⟨r, t, rfl, F, hr, e, i, z⟩) ?_
  rintro obj s₁ ⟨r, t, rfl, F, hr, e, i, z⟩
  have hT : s₁.TypeIs (.ref r) "set" := ⟨_, e, rfl⟩
  refine ⟨hT, codeAny_call_builtin PySem.F.called_set.init.plain PySem.F.entry_set_init (PySem.check_set_init_1 hT ?_)⟩
  unfold Builtin.«set.__init__»
  refine wpAny_bind (wpAny_pure ?_)
  dsimp only
  have So : SO th s₁.heap r (setO #[] 0 t) #[] 0 t [] := ⟨e, .inr rfl, rfl, i _⟩
  refine wpAny_bind ((nameCut_set e rfl).here (wpAny_bind (count_ok (by simp) (wpAny_bind (wpAny_pure (wpAny_bind (wpAny_bind (st_state So.at_ So.data So.fits (wpAny_pure ?_)))))))))
  rw [z]
  have Ov1 : Opd th A.in1.in1 s₁ v kl w0 := Ov.later (KeepNS.nil F) (nil_tup F) fun b o _ e => F.keep _ _ e (by simp)
  refine wpAny_bind (st_fillFrom (th := th) hA2 So z Ov1 (fun b o q e' => ?_) fun s₂ es n t F2 tk S2 => wpAny_pure ⟨rfl, h s₂ r es n t ?_ hr S2⟩)
  · cases Ov with
    | set b' o' es' n' t' q' S' => exact absurd S'.data (hns b' o' q' S'.at_ _ _ _)
    | dict d' o' ed' ep' q' D _ =>
      rw [q'] at q; cases q
      rw [F.keep _ _ D.at_ (by simp)] at e'; cases e'
      exact D.notSet
    | feed nv _ =>
      obtain ⟨l', o', T', q', y⟩ := nv
      rw [q'] at q; cases q
      rw [F.keep _ _ y.at_ (by simp)] at e'; cases e'
      exact y.data
  · refine ⟨fun b o e nb => F2.keep _ _ (F.keep _ _ e (by simp)) fun q => ?_, F2.gens.trans F.gens, F2.os.trans F.os⟩
    rcases List.mem_cons.mp q with q | q
    · rw [q, hr] at e; cases e
    · exact nb q
end
end
section
open PySem PySem.W PyProof.Rows PySem.Calls Builtin PySem.MeetsSeq PySem.MeetsSeq3
set_option Elab.async false
set_option maxRecDepth 100000
set_option linter.unusedVariables false
section
variable (P : Params)
theorem k_type225 : typeIn (KK P) (.ref 225) = some (.type "type") := by kernel_rfl
theorem k_inst_type : instIn (KK P) (.ref 225) (.type "type") = some true := by kernel_rfl
theorem f_new : findCls (KK P) (.ref 225) (.type "type") "__new__" = some (.val (.builtin "set.__new__")) := by kernel_rfl
theorem k_reads : readsIn (KK P) 225 (.type "type") = true := by kernel_rfl
theorem k_self225 : mroIn (KK P) 225 (.ref 225) = some true := by kernel_rfl
theorem k_init225 : findIn (KK P) (.ref 225) "__init__" = some (some (.ref 37)) := by kernel_rfl
theorem k_tinit : typeIn (KK P) (.ref 37) = some (.type "function") := by kernel_rfl
theorem k_tga225 : specialIn (KK P) (.ref 225) "__getattribute__" = some (some (.builtin "type.__getattribute__")) := by kernel_rfl
end
theorem pk_new0 (prog : Program) (w : World) : peek (KK w.params) ⟨(model prog w).prog, (model prog w).w.params⟩ (checkBuiltinCall "set.__new__" ⟨[.ref 225], []⟩) = some () := by kernel_rfl
theorem pk_new1 (prog : Program) (w : World) (v : Value) : peek (KK w.params) ⟨(model prog w).prog, (model prog w).w.params⟩ (checkBuiltinCall "set.__new__" ⟨[.ref 225, v], []⟩) = some () := by kernel_rfl
theorem pk_newClass (prog : Program) (w : World) (rest : List Value) : peek (KK w.params) ⟨(model prog w).prog, (model prog w).w.params⟩ (Frozenset.newClass "set" ⟨.ref 225 :: rest, []⟩) = some (.ref 225, rest) := by kernel_rfl
section
variable {prog : Program} {w : World} {κ : Type} [DecidableEq κ] {ek : EK prog w κ} {th : SetTh ek}
  {A : Around} {E : Value → Shared → Prop} {s s' : Shared} {R : Result → Shared → Prop} {l l2 d S a : Addr} {o od : Obj} {es : Array (Int × Value)} {ed : Array DictEntry} {ep i m m2 n : Nat} {t : SetTable} {xs ys : Array Value} {ks kl : List κ} {k : κ} {x v : Value} {h h' : Heap} {w0 : List Addr}
theorem code_oset_new {rest : List Value} {Q₁ : Value → Shared → Prop} (X : (KK w.params).In s.heap) (hr : peek (KK w.params) ⟨(model prog w).prog, (model prog w).w.params⟩ (checkBuiltinCall "set.__new__" ⟨.ref 225 :: rest, []⟩) = some ())
    (h : ∀ s' r dx t, Fx s s' [] → s.heap.get? r = none → s.heap.get? dx = none → r ≠ dx → s'.heap.get? r = some (osetO0 dx #[] 0 t) → s'.heap.get? dx = some dictO0 → (∀ h, SetIs ek th.TT h #[] t []) → t.fill = 0 → Q₁ (.ref r) s') :
    codeAny (model prog w) A (.call (.builtin "set.__new__") ⟨.ref 225 :: rest, []⟩) (wants Q₁ E) s := by
  refine codeAny_of_tree ?_
  show wpAny _ A.in1 (do checkBuiltinCall "set.__new__" ⟨.ref 225 :: rest, []⟩; again (.builtin "set.__new__" ⟨.ref 225 :: rest, []⟩)) _ _ s
  refine wpAny_bind ((Looks.of_peek X hr).here (wpAny_pure ⟨plainId_quiet PySem.F.plain_set_new _, codeAny_builtin PySem.F.entry_set_new ?_⟩))
  rw [Around.under_plainId PySem.F.plain_set_new _]
  unfold Builtin.«set.__new__»
  refine wpAny_bind ((Looks.of_peek X (pk_newClass prog w rest)).here ?_)
  dsimp only
  exact wpAny_bind (st_newOSet (th := th) X fun s' r dx t F hr hd hne e ed i z => wpAny_pure (h s' r dx t F hr hd hne e ed i z))
abbrev atCall (A : Around) (rest : List Value) : Around := A.under (.builtin "type.__call__" ⟨.ref 225 :: rest, []⟩)
theorem w_call (rest : List Value) : (Code.builtin "type.__call__" ⟨.ref 225 :: rest, []⟩).weight ≤ 1 := by
  have : (Code.builtin "type.__call__" ⟨.ref 225 :: rest, []⟩).weight = (Code.builtin "type.__call__" ⟨.ref 225 :: [], []⟩).weight := by kernel_rfl
  rw [this]; decide +kernel
theorem u_call (rest : List Value) : (Code.builtin "type.__call__" ⟨.ref 225 :: rest, []⟩).cUnits = 1 := by
  have : (Code.builtin "type.__call__" ⟨.ref 225 :: rest, []⟩).cUnits = (Code.builtin "type.__call__" ⟨.ref 225 :: [], []⟩).cUnits := by kernel_rfl
  rw [this]; decide +kernel
theorem e_call (rest : List Value) : (Code.builtin "type.__call__" ⟨.ref 225 :: rest, []⟩).envs = [] := by kernel_rfl
theorem Room.atCall {d : Nat} (x : Room (d + 1) A) (rest : List Value) : Room d (atCall A rest) := by
  refine ⟨?_, ?_, x.hand⟩
  · show A.depth + _ + d < _
    have := x.room; have := w_call rest; omega
  · show A.units + _ + 10 * d < _
    have := x.units; rw [u_call]; omega
theorem Site.atCall {d : Nat} {base : Heap} {outer : List Env} {h : Heap} (x : Site (d + 1) A base outer h) (rest : List Value) : Site d (atCall A rest) base outer h := by
  refine ⟨⟨?_, x.below.stays, x.below.frames⟩, x.rm.atCall rest⟩
  unfold Mine.atCall Around.under
  dsimp only
  rw [e_call, x.below.stack]; rfl
theorem make_oset {rest : List Value} (X : (KK w.params).In s.heap) (hr : peek (KK w.params) ⟨(model prog w).prog, (model prog w).w.params⟩ (checkBuiltinCall "set.__new__" ⟨.ref 225 :: rest, []⟩) = some ())
    (h : ∀ s' r dx t, Fx s s' [] → s.heap.get? r = none → s.heap.get? dx = none → r ≠ dx → s'.heap.get? r = some (osetO0 dx #[] 0 t) → s'.heap.get? dx = some dictO0 → (∀ h, SetIs ek th.TT h #[] t []) → t.fill = 0 →
      codeAny (model prog w) (atCall A rest) (.call (.ref 37) ⟨.ref r :: rest, []⟩) (InitBack r R) s') :
    codeAny (model prog w) A (.call (.ref 225) ⟨rest, []⟩) R s := by
  obtain ⟨hh, g, d, t, os⟩ := s
  obtain ⟨cd, hc, hm0⟩ := Option.map_eq_some_iff.mp (k_mro w.params)
  obtain ⟨oc, od, sl, hC⟩ : ∃ oc od sl, (KK w.params).lookup 225 = some ⟨oc, od, .cls cd, sl⟩ := by
    unfold clsIn at hc
    split at hc
    · rename_i q; cases hc; exact ⟨_, _, _, q⟩
    · cases hc
  have hC' := X _ _ hC
  have call := looks_specialIn (M := model prog w) X (show specialIn (KK w.params) (.ref 225) "__call__" = some (some (.builtin "type.__call__")) by kernel_rfl)
  have typ := looks_instIn (M := model prog w) X (k_inst_type w.params)
  have made : Looks (model prog w) hh (Bind.madeBy (.ref 225)) (some "set.__new__") := Looks.of_peek X (by kernel_rfl)
  have hm : Looks (model prog w) hh (mroOf (.ref 225)) cd.mro := (looks_clsIn X hc).andThen .now
  have e4 : cd.mro.isEmpty = false := by rw [hm0]; rfl
  refine codeAny_of_tree ?_
  show wpAny _ _ (callAny (.ref 225) _) _ _ _
  refine nd_load hC' ?_
  show wpAny _ _ (callAny.viaDunder (.ref 225) _) _ _ _
  unfold callAny.viaDunder
  refine wpAny_bind (call.at ?_)
  dsimp only
  rw [tc_bind]
  refine wpAny_bind (wpAny_pure (wpAny_bind (wpAny_pure ?_)))
  refine wpAny_pure (a := Fin.again (.call (.builtin "type.__call__") ⟨.ref 225 :: rest, []⟩)) (And.intro rfl ?_)
  refine codeAny_call_builtin_at (Code.quiet_builtin _ (by decide +kernel)) entry_typeCall (check_slot tc_kind tc_split typ (tc_args _ _ _) ?_)
  unfold Builtin.«type.__call__»
  repeat (first | simp only [e4, Bool.false_eq_true, if_false] | with_reducible refine wpAny_call ?_ | lk)
  refine code_oset_new (th := th) (rest := rest) (s := ⟨hh, g, d, t, os⟩) X hr ?_
  intro s' r dx t F hn1 hn2 hne e ed i z
  have X' : (KK w.params).In s'.heap := fx_in X F
  have ty : Looks (model prog w) s'.heap (typeOf (.ref r)) (.ref 225) := (Looks.ld e).andThen .now
  have inst : Looks (model prog w) s'.heap (isInstance (.ref r) (.ref 225)) true := ty.andThen (looks_mroIn X' (k_self225 _))
  have spec : Looks (model prog w) s'.heap (specialOf (.ref r) "__init__") (some (.ref 37)) := ty.andThen (looks_findIn X' (k_init225 _))
  refine wpAny_bind (inst.here ?_)
  rw [if_neg (by decide)]
  refine wpAny_bind (wpAny_holding ?_)
  unfold callSpecial?
  refine wpAny_bind (spec.here (wpAny_holding (wpAny_bind ((bind_fn X' _ (k_tinit _)).here (wpAny_bind (wpAny_call ?_))))))
  refine codeAny_mono (h s' r dx t F hn1 hn2 hne e ed i z) fun rr s'' q => ?_
  rcases rr with er | (v | _ | _ | _) <;> first | exact q | exact q.elim | skip
  obtain ⟨rfl, q⟩ := q
  exact wpAny_pure (wpAny_pure q)
end
end
section
open PySem PySem.W PyProof.Rows PySem.Calls Builtin PySem.MeetsSeq PySem.MeetsSeq3
set_option Elab.async false
set_option maxRecDepth 100000
set_option linter.unusedVariables false
abbrev fkO : Obj := { cls := .type "builtin_function_or_method", data := .fields #[.builtin "dict.fromkeys", .type "dict"] }
section
variable (P : Params)
theorem f_fk : findCls (KK P) (.type "dict") (.type "type") "fromkeys" = some (.get (.builtin "classmethod_descriptor.__get__") (.builtin "dict.fromkeys") .none (.type "dict")) := by kernel_rfl
theorem g_dict : nsIn (KK P) mainGlobals "dict" = some none := by kernel_rfl
theorem g_list : nsIn (KK P) mainGlobals "list" = some none := by kernel_rfl
end
theorem owner_fk : (kfb_private% "ownerAndName") "dict.fromkeys" = ("dict", "fromkeys") := by first | decide +kernel | kernel_rfl
theorem type_fk : typeOf (.builtin "dict.fromkeys") = pure (.type "classmethod_descriptor") := by show builtinType _ = _; rw [builtinType_eq_fast]; kernel_rfl
theorem isty_dict : isType (.type "dict") = pure true := by first | rfl | kernel_rfl | (unfold isType; rw [isSubtype_type]; kernel_rfl)
theorem meta_dict : typeOf (.type "dict") = pure (.type "type") := by kernel_rfl
theorem stub_dict : Manifest.isStub "dict" = false := by decide +kernel
theorem check_fk (v : Value) : checkBoundCall "dict.fromkeys" ⟨[.type "dict", v], []⟩ = pure () := by first | kernel_rfl | rfl
theorem entry_fk : entryFor table "dict.fromkeys" = some Builtin.«dict.fromkeys» := entryFor_of_tree (by kernel_rfl)
theorem entry_fkl : entryFor table "dict.fromkeys.loop" = some Builtin.«dict.fromkeys.loop» := entryFor_of_tree (by kernel_rfl)
theorem plain_fkl : plainId "dict.fromkeys.loop" = true := by decide +kernel
theorem quiet_fk {as : Args} : (Code.builtin "dict.fromkeys" as).quiet = true := Code.quiet_builtin _ (by decide +kernel)
theorem plain_fk : plainId "dict.fromkeys" = true := by decide +kernel
section
variable {prog : Program} {w : World} {κ : Type} [DecidableEq κ] {ek : EK prog w κ} {th : SetTh ek}
  {A : Around} {E : Value → Shared → Prop} {s s' : Shared} {R : Result → Shared → Prop} {l l2 d S a : Addr} {o od : Obj} {es : Array (Int × Value)} {ed : Array DictEntry} {ep i m m2 n : Nat} {t : SetTable} {xs ys : Array Value} {ks kl : List κ} {k : κ} {x v : Value} {h h' : Heap} {w0 as : List Addr}
  {G : Array GenState} {O : OsState} {g : Heap} {L : Addr} {fl : List (Str × Value)} {news : List (Addr × Obj)}
theorem run_fk_get {P : Fin → Shared → Prop} (h : P (.done (.ret (.ref s.heap.objs.size))) { s with heap := s.heap.push fkO }) :
    wpAny (model prog w) A (Builtin.«classmethod_descriptor.__get__» ⟨[.builtin "dict.fromkeys", .none, .type "dict"], []⟩) P E s := by
  unfold Builtin.«classmethod_descriptor.__get__»
  refine wpAny_bind (wpAny_of_eq (a := (.builtin "dict.fromkeys", none, some (.type "dict"))) (by first | rfl | kernel_rfl) ?_)
  simp only [owner_fk]
  refine wpAny_bind (wpAny_of_eq (a := .type "dict") rfl ?_)
  refine wpAny_bind (wpAny_of_eq (a := true) isty_dict ?_)
  refine KFB.if_not rfl ?_
  refine wpAny_bind (wpAny_of_eq (a := true) PySem.F.kt_sub_dict ?_)
  refine KFB.if_not rfl ?_
  exact wpAny_bind (wpAny_newObj_type (wpAny_pure h))
theorem getm_fk {pl : Sem Bool} {Q : Value × List Value → Shared → Prop} (X : (KK w.params).In s.heap)
    (h : Q (.ref s.heap.objs.size, []) { s with heap := s.heap.push fkO, toks := s.toks + 1 }) :
    wpAny (model prog w) A (getMethod (.type "dict") (PySem.Str.ofString "fromkeys") pl) Q E s := by
  have hstub : opaqueClassAbove (.type "dict") = pure none := by unfold opaqueClassAbove; dsimp only; rw [stub_dict]; rfl
  have L0 : Looks (model prog w) s.heap (typeOf (.type "dict")) (.type "type") := Looks.of_pure meta_dict
  have hg : findIn (KK w.params) (.type "type") "__getattribute__" = some (some (.builtin "type.__getattribute__")) := by kernel_rfl
  unfold getMethod specialOf
  refine wpAny_bind (wpAny_bind (L0.here ((looks_findIn X hg).here ?_)))
  dsimp only
  rw [if_pos canon_tga]
  refine wpAny_bind (wpAny_mono (Q := fun v => Q (v, [])) (E := E) ?_ (fun _ _ z => wpAny_pure z) fun _ _ z => z)
  have LO : Looks (model prog w) s.heap (opaqueClassAbove (.type "dict")) none := Looks.of_pure hstub
  refine cls_open X LO L0 hg (looks_hook X (r := none) (by rfl)) (by show subIn _ _ _ = _; rfl) (f_fk _) ?_
  show wpAny _ _ (holding [.builtin "dict.fromkeys"] (call (.builtin "classmethod_descriptor.__get__") [.builtin "dict.fromkeys", .none, .type "dict"]) >>= fun v => ret v) _ _ _
  refine wpAny_bind (wpAny_holding (wpAny_call_entry KFB.slot_get type_fk KFB.entry_get (run_fk_get (s := { s with toks := s.toks + 1 }) ⟨_, rfl, wpAny_pure (wpAny_pure h)⟩) (KFB.args_get _ _ _)))
theorem newCall_dict_0 : checkBuiltinCall "dict.__new__" ⟨[.type "dict"], []⟩ = pure () := by kernel_rfl
theorem typeCall_dict_0 : checkTypeCall "dict" ⟨[], []⟩ = pure () := by kernel_rfl
theorem code_dict_new0 {Q₁ : Value → Shared → Prop} (h : Q₁ (.ref s.heap.objs.size) { s with heap := s.heap.push { cls := .type "dict", data := .dict #[] } }) :
    codeAny (model prog w) A (.call (.builtin "dict.__new__") ⟨[.type "dict"], []⟩) (wants Q₁ E) s := by
  refine codeAny_call_builtin PySem.F.kt_plain_dict_new PySem.F.kt_entry_dict_new (wpAny_of_eq newCall_dict_0 ?_)
  have hsub := PySem.F.kt_sub_dict
  have hmro := PySem.F.kt_mro_dict
  obtain ⟨hp, g, d, tk, os⟩ := s
  unfold Builtin.«dict.__new__»
  wp_walk
  exact h
theorem dict_call0 {Q : Value → Shared → Prop} (h : Q (.ref s.heap.objs.size) { s with heap := s.heap.push dictO0 }) : wpAny (model prog w) A (call (.type "dict") []) Q E s := by
  refine callType2 (Q₁ := fun obj s₁ => obj = .ref s.heap.objs.size ∧ s₁ = { s with heap := s.heap.push dictO0 }) PySem.F.kt_called_dict typeCall_dict_0 (code_dict_new0 ⟨rfl, rfl⟩) ?_
  rintro obj s₁ ⟨rfl, rfl⟩
  have hT : Shared.TypeIs { s with heap := s.heap.push dictO0 } (.ref s.heap.objs.size) "dict" := ⟨_, Heap.get?_push_size _ rfl, rfl⟩
  refine ⟨hT, codeAny_call_builtin PySem.F.kt_called_dict.init.plain PySem.F.entry_dict_init (PySem.F.kt_called_dict.init.check _ _ _ _ _ _ _ _ hT (PySem.F.args_dict_init_1 _) ?_)⟩
  unfold Builtin.«dict.__init__»
  refine wpAny_bind ?_
  unfold Builtin.Dict.selfAndRest
  refine wpAny_bind (wpAny_notOrdered_dict hT ?_)
  show wpAny _ _ (pure (s.heap.objs.size, [])) _ _ _
  refine wpAny_pure ?_
  show wpAny _ _ (Builtin.Dict.updateCommon "dict.__init__" "dict" s.heap.objs.size [] []) _ _ _
  unfold Builtin.Dict.updateCommon
  dsimp only
  show wpAny _ _ (Builtin.Dict.addKeywords s.heap.objs.size [] >>= _) _ _ _
  exact wpAny_bind (wpAny_pure (wpAny_pure ⟨rfl, h⟩))
theorem all2_modify {α β : Type} {Rel : α → β → Prop} {f : α → α} {l : List α} {m : List β} (x : All2 Rel l m) (hf : ∀ a b, Rel a b → Rel (f a) b) : ∀ i, All2 Rel (l.modify i f) m := by
  induction x with
  | nil => intro i; cases i <;> exact .nil
  | cons a y ih => intro i; cases i with
    | zero => exact .cons (hf _ _ a) y
    | succ i => exact .cons a (ih i)
theorem dict_set {Q : Unit → Shared → Prop} (hA : AOk A) (D : DI ek s.heap d od ed ep kl) (hk : ek.is s.heap k x)
    (h : ∀ s' od' ed' ep', Fx s s' [d] → DI ek s'.heap d od' ed' ep' (addK kl k) → Q () s') : wpAny (model prog w) A (dictSet d x .none) Q E s := by
  have hsz := All2.length D.ents
  rw [Array.length_toList] at hsz
  have sub : ∀ y ∈ kl, y ∈ ek.univ := fun y hy => by
    obtain ⟨e, _, z⟩ := All2.right D.ents hy
    exact ek.mem z.2
  have h12 : kl.length ≤ 12 := EK.small (ek := ek) D.nd sub
  unfold dictSet
  refine wpAny_holding (wpAny_bind (ek.pyHash hA hk fun s₁ K₁ => ?_))
  have tk1 := kp_tup K₁
  unfold dictSetHashed
  refine wpAny_holding (wpAny_bind ?_)
  have D1 := D.fx (Fx.of_keeps K₁ []) tk1 (by simp)
  refine ek.dictFind hA D1.at_ D1.data D1.ents D1.nd (ek.mono tk1 hk) fun s₂ r K₂ hr => ?_
  have tk2 := kp_tup K₂
  have D2 := D1.fx (Fx.of_keeps K₂ []) tk2 (by simp)
  have hk2 := ek.mono tk2 (ek.mono tk1 hk)
  have F12 : Fx s s₂ [d] := (Fx.of_keeps K₁ _).trans (Fx.of_keeps K₂ _)
  have hnt : od.cls ≠ .type "tuple" := by rw [D.cls]; decide
  cases r with
  | some i =>
    have hm : k ∈ kl := List.mem_of_getElem? hr
    refine wpAny_bind (wpAny_rule (wpAny_bind (wpAny_updateDict D2.at_ D2.data (wpAny_point ?_) (by simp))))
    refine h _ (Obj.mapDict (·.modify i fun e => { e with val := .none }) od) (ed.modify i fun e => { e with val := .none }) ep (F12.trans fx_upd) ?_
    have e := Heap.get?_update_self (Obj.mapDict (·.modify i fun e => { e with val := Value.none })) D2.at_ (by obtain ⟨c, dd, dt, sl⟩ := od; have := D.data; simp only at this; subst this; rfl)
    rw [show addK kl k = kl from if_pos hm]
    refine ⟨e, ?_, ?_, ?_, D.nd, D.noSys, by obtain ⟨c, dd, dt, sl⟩ := od; have := D.data; simp only at this; subst this; exact D.noDict⟩
    · obtain ⟨c, dd, dt, sl⟩ := od; have := D.data; simp only at this; subst this; exact D.cls
    · obtain ⟨c, dd, dt, sl⟩ := od; have := D.data; simp only at this; subst this; rfl
    · have F3 : Fx s₂ { s₂ with heap := s₂.heap.update d (Obj.mapDict (·.modify i fun e => { e with val := Value.none })) } [d] := fx_upd
      have tk3 := F3.tup1 D2.at_ hnt
      rw [Array.toList_modify]
      refine all2_modify (f := fun (e : DictEntry) => { e with val := Value.none }) ?_ (fun e k z => z) i
      exact All2.imp (fun _ _ z => ⟨z.1, ek.mono tk3 z.2⟩) D2.ents
  | none =>
    refine wpAny_bind (wpAny_rule (wpAny_updateDictKeys D2.at_ D2.data ?_ (by rw [sizeLine_eq]; omega) (by simp)))
    have e := Heap.get?_update_self (Obj.mapDictKeys (·.push ⟨ek.hash k, x, Value.none⟩)) D2.at_ (by obtain ⟨c, dd, dt, sl⟩ := od; have := D.data; simp only at this; subst this; rfl)
    have F3 : Fx s₂ { s₂ with heap := s₂.heap.update d (Obj.mapDictKeys (·.push ⟨ek.hash k, x, Value.none⟩)) } [d] := fx_upd
    have tk3 := F3.tup1 D2.at_ hnt
    refine h _ (Obj.mapDictKeys (·.push ⟨ek.hash k, x, Value.none⟩) od) (ed.push ⟨ek.hash k, x, .none⟩) (ep + 1) (F12.trans F3) ?_
    rw [show addK kl k = kl ++ [k] from if_neg hr]
    refine ⟨e, ?_, ?_, ?_, ?_, D.noSys, by obtain ⟨c, dd, dt, sl⟩ := od; have := D.data; simp only at this; subst this; exact D.noDict⟩
    · obtain ⟨c, dd, dt, sl⟩ := od; have := D.data; simp only at this; subst this; exact D.cls
    · obtain ⟨c, dd, dt, sl⟩ := od; have := D.data; simp only at this; subst this; rfl
    · rw [Array.toList_push]
      exact All2.app (All2.imp (fun _ _ z => ⟨z.1, ek.mono tk3 z.2⟩) D2.ents) (.cons ⟨rfl, ek.mono tk3 hk2⟩ .nil)
    · have := nodup_addK (k := k) D.nd
      rwa [show addK kl k = kl ++ [k] from if_neg hr] at this
theorem fk_loop {I : Addr} {fp wr : List Addr} {P : Nat → Value → Prop} {St : Nat → Heap → Prop} (hA : AOk2 A) (Fd : Feeding ek s I fp wr kl P St) (D : DI ek s.heap d od ed ep []) (hSf : d ∉ fp)
    (hR : ∀ s' od' ed' ep', Fx s s' (d :: wr) → DI ek s'.heap d od' ed' ep' (kl.foldl addK []) → R (.ok (.ret (.ref d))) s') :
    codeAny (model prog w) A (.builtin "dict.fromkeys.loop" ⟨[.ref d, .ref I, .none], []⟩) R s := by
  have hSw : d ∉ wr := fun q => hSf ((Fd.walks A hA.hand).sub d q)
  have hnt : od.cls ≠ .type "tuple" := by rw [D.cls]; decide
  have tupOf : ∀ s', Fx s s' (d :: wr) → TupKept s.heap s'.heap := fun s' F => F.tup fun b hb => by
    rcases List.mem_cons.mp hb with rfl | hb
    · exact ⟨_, D.at_, hnt⟩
    · exact Fd.wrNT _ _ Fd.start b hb
  refine feed_loop Fd hA.hand (as := [d]) (fun b hb => by rw [List.mem_singleton.mp hb]; exact hSf) (plainId_quiet plain_fkl _) (Around.under_plainId plain_fkl _)
    (dn := ret (.ref d)) (body := fun key => do
      if (← typeOf (.ref d)) == .type "dict" then holding [key] (dictSet d key .none)
      else rule "dict.fromkeys.by-setitem"; holding [key] (setItem (.ref d) key .none)
      again (.builtin "dict.fromkeys.loop" ⟨[.ref d, .ref I, .none], []⟩)) (fun Q E s hn => ?_)
    (fun dn s' => Fx s s' (d :: wr) ∧ ∃ od' ed' ep', DI ek s'.heap d od' ed' ep' (dn.foldl addK []))
    (fun d s' hi => tupOf s' hi.1) ?_ ?_ ?_ ⟨Fx.refl _ _, _, _, _, D⟩
  · rw [den_of entry_fkl]
    refine wpAny_bind (wpAny_mono hn (fun r s' z => ?_) fun _ _ z => z)
    cases r <;> exact z
  · rintro dn s' s'' ⟨F, od', ed', ep', D'⟩ F' tk
    exact ⟨F.trans (F'.mono fun b hb => .tail _ hb), od', ed', ep', D'.fx F' tk hSw⟩
  · rintro k x dn r s' hkl ⟨F, od', ed', ep', D'⟩ hk
    refine wpAny_bind (D'.typeOf.here ?_)
    rw [if_pos (by simp)]
    refine wpAny_bind (wpAny_holding (dict_set hA.ok1 D' hk fun s'' od'' ed'' ep'' F'' D'' => ?_))
    refine wpAny_pure (.inl ⟨rfl, F'', F.trans (F''.mono fun b hb => by rw [List.mem_singleton.mp hb]; exact .head _), od'', ed'', ep'', ?_⟩)
    rw [List.foldl_append]; exact D''
  · rintro s' ⟨F, od', ed', ep', D'⟩
    exact wpAny_pure ⟨_, rfl, hR s' od' ed' ep' F D'⟩
theorem fk_call {u : Addr} {Tv : Value} {Q : Value → Shared → Prop} (hA : AOk3 A) (hu : s.heap.get? u = some fkO) (hT : Looks (model prog w) s.heap (typeOf v) Tv) (h1 : Tv ≠ .type "dict") (h2 : Tv ≠ .type "set") (h3 : Tv ≠ .type "frozenset") (hsys : sysModules < s.heap.objs.size)
    (hi : IterF ek A.in1 s v kl w0 as)
    (h : ∀ s' d od ed ep, Fx s s' w0 → s.heap.get? d = none → DI ek s'.heap d od ed ep (kl.foldl addK []) → Q (.ref d) s') : wpAny (model prog w) A (call (.ref u) [v]) Q E s := by
  refine wpAny_call (codeAny_of_tree ?_)
  show wpAny _ A.in1 (callAny (.ref u) ⟨[v], []⟩) _ _ s
  simp only [callAny]
  refine wpAny_bind (wpAny_load hu ?_)
  simp only [show (Value.type "builtin_function_or_method" == Value.type "method" || Value.type "builtin_function_or_method" == Value.type "builtin_function_or_method" || Value.type "builtin_function_or_method" == Value.type "method-wrapper") = true by decide, if_true]
  refine KFB.if_so (by decide) ?_
  refine wpAny_bind (wpAny_of_eq (a := ()) (check_fk v) ?_)
  refine wpAny_bind (wpAny_pure (wpAny_pure ⟨quiet_fk, codeAny_builtin entry_fk ?_⟩))
  rw [Around.under_plainId plain_fk _]
  unfold Builtin.«dict.fromkeys»
  dsimp only
  refine wpAny_bind (wpAny_of_eq (a := true) isty_dict ?_)
  refine KFB.if_not rfl ?_
  refine wpAny_bind (wpAny_of_eq (a := true) PySem.F.kt_sub_dict ?_)
  refine KFB.if_not rfl ?_
  refine KFB.if_not rfl ?_
  refine wpAny_bind (wpAny_rule (wpAny_bind (wpAny_pure (wpAny_bind ?_))))
  show wpAny _ _ (call (.type "dict") []) _ _ _
  refine dict_call0 ?_
  have F0 := Fx.pushed s dictO0
  have hd : (s.heap.push dictO0).get? s.heap.objs.size = some dictO0 := Heap.get?_push_size _ rfl
  have hnone : s.heap.get? s.heap.objs.size = none := Heap.get?_none_of_le (Nat.le_refl _)
  have hns : (s.heap.objs.size == sysModules) = false := by simpa using Nat.ne_of_gt hsys
  generalize s.heap.objs.size = d at *
  generalize hs1 : ({ s with heap := s.heap.push dictO0 } : Shared) = s₁ at *
  have hd1 : s₁.heap.get? d = some dictO0 := by rw [← hs1]; exact hd
  have D1 : DI ek s₁.heap d dictO0 #[] 0 ([] : List κ) := ⟨hd1, rfl, rfl, .nil, List.nodup_nil, hns, rfl⟩
  refine wpAny_holding (wpAny_bind ((hT.keeps (h' := s₁.heap) fun b o e => F0.keep _ _ e (by simp)).here (wpAny_bind (D1.typeOf.here ?_))))
  refine KFB.if_not (by simp [h1]) ?_
  refine wpAny_bind (D1.typeOf.here ?_)
  refine KFB.if_not (by simp [h2, h3]) ?_
  refine wpAny_bind (hi.run _ _ _ F0 fun s₂ I fp wr P St F₂ Fd hw hf => ?_)
  have D2 := D1.fx F₂ (nil_tup F₂) (by simp)
  have hdf : d ∉ fp := fun q => by
    rcases hf d q with z | e
    · obtain ⟨o, e⟩ := hi.live d z
      rw [hnone] at e; cases e
    · rw [hd1] at e; cases e
  refine wpAny_pure ⟨plainId_quiet plain_fkl _, fk_loop hA.ok2 Fd D2 hdf fun s₃ od' ed' ep' F₃ D₃ => h s₃ d od' ed' ep' ⟨fun b o e nb => ?_, ?_, ?_⟩ hnone D₃⟩
  · refine F₃.keep _ _ (F₂.keep _ _ (F0.keep _ _ e (by simp)) (by simp)) fun q => ?_
    rcases List.mem_cons.mp q with q | q
    · rw [q, hnone] at e; cases e
    · rcases hw b q with z | z
      · exact nb z
      · rw [F0.keep _ _ e (by simp)] at z; cases z
  · exact F₃.gens.trans (F₂.gens.trans F0.gens)
  · exact F₃.os.trans (F₂.os.trans F0.os)
end
end
section
open PySem PySem.W PyProof.Rows PySem.Calls Builtin PySem.MeetsSeq PySem.MeetsSeq3
set_option Elab.async false
set_option maxRecDepth 100000
set_option linter.unusedVariables false
section
variable {prog : Program} {w : World} {κ : Type} [DecidableEq κ] {ek : EK prog w κ} {th : SetTh ek}
  {A : Around} {E : Value → Shared → Prop} {s s' : Shared} {R : Result → Shared → Prop} {l l2 d S a : Addr} {o od : Obj} {es : Array (Int × Value)} {ed : Array DictEntry} {ep i m m2 n : Nat} {t : SetTable} {xs ys : Array Value} {ks kl : List κ} {k : κ} {x v : Value} {h h' : Heap} {w0 : List Addr}
  {env : Env}
theorem paired_eq {l m : List Value} (x : Paired (fun v y => y = v) l m) : m = l := by
  induction x with
  | nil => rfl
  | cons a _ ih => rw [a, ih]
theorem all2_of_get {α β : Type} {Rel : α → β → Prop} : ∀ {l : List α} {m : List β}, l.length = m.length → (∀ (i : Nat) (v : α), l[i]? = some v → ∃ k, m[i]? = some k ∧ Rel v k) → All2 Rel l m
  | [], [], _, _ => .nil
  | a :: l, b :: m, hl, h => by
    refine .cons ?_ (all2_of_get (by simpa using hl) fun i v e => ?_)
    · obtain ⟨k, e, z⟩ := h 0 a rfl
      cases e; exact z
    · exact h (i + 1) v (by simpa using e)
  | [], _ :: _, hl, _ => by simp at hl
  | _ :: _, [], hl, _ => by simp at hl
open Classical in
theorem comp_filter {xn : Str} {px ep' pos : Pos} {iter c : Expr} {scope : Scope} {cl : List (Str × Addr)} {Q : Value → Shared → Prop} (q : κ → Bool)
    (hclos : closureFor scope env = pure cl) (hcell : ∀ y ∈ scope.names, y.2 ≠ .cell) (hkind : scope.kind = .function)
    (hnames : ∀ y ∈ scope.names, y.2 = .local → scope.names.lookup y.1 = some .local) (hx : scope.names.lookup xn = some .local)
    (hdb : (xn == ("__debug__" : Str)) = false)
    (h : wpAny (model prog w) A (eval iter env) (fun xv s₁ => wpAny (model prog w) A (pyIter xv) (fun it s₂ => ∃ I fp wr P St, it = .ref I ∧ Feeding ek s₂ I fp wr kl P St ∧ kl.length ≤ 10000 ∧ (∀ b ∈ fp, b < s₂.heap.objs.size) ∧
      (∀ C s₃ m₃ v k E', s₃.heap.Ns C m₃ → m₃ xn = some v → (∀ b o, b ∉ wr → s₂.heap.get? b = some o → s₃.heap.get? b = some o) → ek.is s₃.heap k v → wpAny (model prog w) A (isTrue c (compEnvC scope cl C env) (eval c (compEnvC scope cl C env))) (fun ok s₄ => ok = q k ∧ Keeps s₃ s₄) E' s₃) ∧
      (∀ s' D xs m, Fx s₂ s' wr → s₂.heap.get? D = none → s'.heap.get? D = some (lstO xs m) → ek.All s'.heap xs.toList (kl.filter q) → Q (.ref D) s')) E s₁) E s)
    (hh : A.handled = none)
    (hs : ∀ x, foldedSetIterable iter env x = pure x := by intro _; rfl) :
    wpAny (model prog w) A (eval (.ListComp (.Name xn ep') [⟨.Name xn px, iter, [c], 0⟩] scope pos) env) Q E s := by
  rw [eval_ListComp]
  refine wpAny_comprehension_free (use := none) rfl hs hclos hkind hnames (wpAny_mono h (fun xv s₁ h₁ => wpAny_mono h₁ (fun it s₂ h₂ => ?_) fun _ _ e => e) fun _ _ e => e)
  obtain ⟨I, fp, wr, P, St, rfl, Fd, hsz, hfp, ht, hQ⟩ := h₂
  have pq : ∀ {v k}, ek.is s₂.heap k v → decide (∃ k, ek.is s₂.heap k v ∧ q k = true) = q k := fun {v k} hk => by
    cases hq : q k with
    | true => exact decide_eq_true ⟨k, hk, hq⟩
    | false =>
      refine decide_eq_false fun ⟨k', hk', hq'⟩ => ?_
      rw [ek.inj hk' hk, hq] at hq'; cases hq'
  have tkOf : ∀ {s₃ : Shared}, (∀ b o, b ∉ wr → s₂.heap.get? b = some o → s₃.heap.get? b = some o) → TupKept s₂.heap s₃.heap := fun hk b o e c _ => hk b o (fun m => by
    obtain ⟨o', e', n⟩ := Fd.wrNT _ _ Fd.start b m
    rw [e] at e'; cases e'; exact n c) e
  refine comp_block_walkC (RR := fun acc C => compPost (model prog w) A E none Q acc C) (Fd.walks A hh) (by rw [sizeLine_eq]; omega) (fun v => decide (∃ k, ek.is s₂.heap k v ∧ q k = true)) (fun v y => y = v) hcell hkind hx Fd.start hfp ⟨?_, ?_⟩ ?_
  · intro C i v s₃ m₃ E' hC hp hns hm hk htk
    obtain ⟨k, hk1, hk2⟩ := Fd.keys i v hp
    rw [List.forIn_cons]
    refine wpAny_bind ?_
    rw [if_pos rfl]
    refine wpAny_bind (wpAny_mono (ht C s₃ m₃ v k E' hns hm hk (ek.mono (tkOf hk) hk2)) (fun ok s₄ z => wpAny_pure ?_) fun _ _ z => z)
    dsimp only
    rw [List.forIn_nil]
    exact wpAny_pure ⟨z.1.trans (pq hk2).symm, z.2⟩
  · intro C i v s₃ m₃ E' hC hp hpv hns hm hk htk
    refine wpAny_Name (wpAny_loadName_local (by show (relabel scope env).kind = _; exact hkind) (lookup_relabel_local hx) hns hm ?_) hdb
    exact ⟨rfl, kp_self _⟩
  · intro D C h' tk m' ys vs hD hC hDC hn hl hpl hlen hP hF hk
    obtain ⟨mm, hpl⟩ := hpl
    have hvs : ek.All s₂.heap vs kl := by
      refine all2_of_get (by rw [hlen]) fun i v e => ?_
      exact Fd.keys i v (hP i v e)
    have hys : ys.toList = vs.filter fun v => decide (∃ k, ek.is s₂.heap k v ∧ q k = true) := paired_eq hF
    have hkk : ∀ h'', Heap.SameBut C h' h'' → ∀ b o, b ∉ wr → s₂.heap.get? b = some o → h''.get? b = some o := fun h'' hs'' b o hb e =>
      (hs''.2 b fun q => by rw [q, hC] at e; cases e).trans (hk b o hb e)
    refine ⟨m', hn, fun h'' hs'' => hQ _ D ys mm ⟨fun b o e hb => hkk h'' hs'' b o hb e, rfl, rfl⟩ hD ((hs''.2 D hDC).trans hpl) ?_⟩
    rw [hys]
    exact EK.All.mono (ek := ek) (tkOf (s₃ := { s₂ with heap := h'' }) (hkk h'' hs'')) (All2.filter hvs fun v k z => pq z)
end
end
section
open PySem PySem.W PyProof.Rows PySem.Calls Builtin
set_option Elab.async false
set_option maxRecDepth 100000
set_option pp.deepTerms false
set_option pp.maxSteps 1500
structure Tob where
  dx : Addr
  l : Addr
  es : Array (Int × Value)
  n : Nat
  t : SetTable
  xs : Array Value
  m : Nat
abbrev Tob.obj (o : Tob) : Obj := osetO o.dx o.es o.n o.t o.l
abbrev Tob.ents (o : Tob) (x : Addr) : List (Addr × Obj) := [(x, o.obj), (o.l, lstO o.xs o.m), (o.dx, dictO0)]
section
variable {prog : Program} {w : World} {κ : Type} [DecidableEq κ] {ek : EK prog w κ} {th : SetTh ek}
  {A : Around} {E : Value → Shared → Prop} {s s' s₁ : Shared} {R : Result → Shared → Prop} {x : Addr} {ks kb kl km : List κ} {k : κ} {v v2 : Value} {w0 : List Addr} {name : Str} {id T : String}
  {G : Array GenState} {O : OsState} {g base : Heap} {outer : List Env} {L a r : Addr} {fl : List (Str × Value)} {news old upd rest foot : List (Addr × Obj)} {ob ob' : Obj} {f : Obj → List (Addr × Obj)} {o o' : Tob}
structure OS (th : SetTh ek) (h : Heap) (o : Tob) (ks : List κ) : Prop where
  set : SetIs ek th.TT h o.es o.t ks
  row : ek.All h o.xs.toList ks
theorem OS.mono {h h' : Heap} (x : OS th h o ks) (k : TupKept h h') : OS th h' o ks := ⟨x.set.mono k, x.row.mono k⟩
theorem OS.size {h : Heap} (x : OS th h o ks) : o.xs.size = ks.length := by rw [← Array.length_toList]; exact x.row.length
theorem OS.small {h : Heap} (x : OS th h o ks) : ks.length ≤ 12 := x.set.small
theorem OS.so {h : Heap} (x : OS th h o ks) {y : Addr} (e : h.get? y = some o.obj) : SO th h y o.obj o.es o.n o.t ks := ⟨e, .inl rfl, rfl, x.set⟩
theorem Wd.fx0 (H : Wd G O g L s fl news) (F : Fx s s' []) : Wd G O g L s' fl news := H.grow (fun b o e => F.keep b o e (by simp)) F.gens F.os
theorem Wd.fx1 (H : Wd G O g L s fl news) (P : Rep a ob news f) (F : Fx s s' [a]) (e : s'.heap.get? a = some ob') : Wd G O g L s' fl (f ob') := by
  obtain ⟨pre, post, rfl, hh⟩ := P.split
  rw [hh]
  have nd := H.nd
  rw [List.map_append, List.map_cons] at nd
  have nd2 := List.nodup_append.mp nd
  have h1 : ∀ p ∈ pre, p.1 ≠ a := fun p hp e => nd2.2.2 _ (List.mem_map_of_mem hp) _ (List.mem_cons_self) e
  have h2 : ∀ p ∈ post, p.1 ≠ a := fun p hp e => (List.nodup_cons.mp nd2.2.1).1 (List.mem_map.mpr ⟨p, hp, e⟩)
  have ha := H.nw (a, ob) (by simp)
  have keep : ∀ b o, s.heap.get? b = some o → b ≠ a → s'.heap.get? b = some o := fun b o e hb => F.keep b o e (by simpa using hb)
  refine ⟨⟨H.fr.ns.at' fun o e => keep _ o e (Ne.symm ha.2.1), fun b o e => keep _ _ (H.fr.keep b o e) fun q => ?_, H.fr.above⟩, ?_, ?_, F.gens.trans H.gens, F.os.trans H.os⟩
  · rw [q, ha.2.2] at e; cases e
  · intro p hp
    rcases List.mem_append.mp hp with hp | hp
    · have z := H.nw p (List.mem_append_left _ hp); exact ⟨keep _ _ z.1 (h1 p hp), z.2⟩
    · rcases List.mem_cons.mp hp with rfl | hp
      · exact ⟨e, ha.2⟩
      · have z := H.nw p (List.mem_append_right _ (.tail _ hp)); exact ⟨keep _ _ z.1 (h2 p hp), z.2⟩
  · rw [List.map_append, List.map_cons]; exact nd
theorem Wd.fxNew (H : Wd G O g L s fl news) (F : Fx s s' []) (hr : s.heap.get? r = none) (e : s'.heap.get? r = some ob) : Wd G O g L s' fl ((r, ob) :: news) := by
  have H' := H.fx0 F
  refine ⟨H'.fr, fun p hp => ?_, ?_, H'.gens, H'.os⟩
  · rcases List.mem_cons.mp hp with rfl | hp
    · refine ⟨e, fun q => ?_, ?_⟩
      · obtain ⟨oL, _, _, hL, _⟩ := H.fr.ns; rw [← q, hr] at hL; cases hL
      · cases q : g.get? r with
        | none => rfl
        | some o'' => rw [H.fr.keep _ _ q] at hr; cases hr
    · exact H'.nw p hp
  · rw [List.map_cons, List.nodup_cons]
    refine ⟨fun hm => ?_, H.nd⟩
    obtain ⟨p, hp, q⟩ := List.mem_map.mp hm
    have := (H.nw p hp).1
    rw [q, hr] at this; cases this
theorem Inn.tup {A₀ : Around} (I : Inn A₀ base outer s s₁ g foot) : TupKept s.heap s₁.heap := .of I.keep
theorem Inn.kin {A₀ : Around} {K : Frag} (Gd : Gnd K base) (I : Inn A₀ base outer s s₁ g foot) : K.In g := Gd.inK.keeps I.below.stays
theorem Room.ok3 {d : Nat} (x : Room d A) (h : 41 ≤ d) : AOk3 A := ⟨by have := x.units; omega, by have := x.room; omega, x.hand⟩
theorem Wd.kin {K : Frag} (H : Wd G O g L s fl news) (X : K.In g) : K.In s.heap := X.keeps H.keeps
theorem Wd.take (H : Wd G O g L s fl news) (h : ∀ p ∈ upd, p ∈ news) : ∀ p ∈ upd, s.heap.get? p.1 = some p.2 := fun p hp => H.get (h p hp)
theorem Ext.front : ∀ {u rest : List (Addr × Obj)}, Ext u (u ++ rest) rest
  | [], _ => .nil
  | _ :: _, _ => .cons .head Ext.front
theorem Ext.self {u : List (Addr × Obj)} : Ext u u [] := by have := Ext.front (u := u) (rest := []); rwa [List.append_nil] at this
theorem inst_S (W : Wd G O g L s fl news) (hx : (x, o.obj) ∈ news) (hd : (o.dx, dictO0) ∈ news) : InstAt s.heap x o.obj 225 (some dictO0) := ⟨W.get hx, rfl, rfl, W.get hd⟩
theorem list_S {Q : Value → Shared → Prop} {qual : Str} {sc : Scope} {fa : Addr} {cdv : Value} {cl : List (Str × Addr)} {np ap : Pos} (W : Wd G O g L s fl news) (X : (KK w.params).In g) (hx : (x, o.obj) ∈ news) (hd : (o.dx, dictO0) ∈ news)
    (hn : (fun y => fl.lookup y) "self" = some (.ref x)) (h : Q (.ref o.l) { s with toks := s.toks + 1 })
    (hk : sc.kind = .function := by rfl) (hx' : (envX qual sc L fa cdv cl).kindOf "self" = some .local := by rfl) :
    wpAny (model prog w) A (eval (.Attribute (.Name "self" np) "_list" ap) (envX qual sc L fa cdv cl)) Q E s := by
  refine Attribute_Name_ (nameX_L W.fr hn ?_ hk hx' rfl)
  exact get_slotS (W.kin X) (inst_S W hx hd) rfl rfl h
theorem append_fx {l : Addr} {xs : Array Value} {m : Nat} {Q : Value → Shared → Prop} (ho : s.heap.get? l = some (lstO xs m)) (hz : xs.size ≤ sizeLine)
    (h : ∀ s', Fx s s' [l] → s'.heap.get? l = some (lstO (xs.push v) (m + 1)) → Q .none s') : wpAny (model prog w) A (call (.builtin "list.append") [.ref l, v]) Q E s :=
  append_at ho (fun h' hs e => h _ ⟨fun b o q hb => (hs.2 b (by simpa using hb)).trans q, rfl, rfl⟩ e) hz
section
variable (P : Params)
theorem f_set_add : findCls (KK P) (.type "set") (.type "type") "add" = some (.val (.builtin "set.add")) := by kernel_rfl
theorem g_set : nsIn (KK P) mainGlobals "set" = some none := by kernel_rfl
end
theorem meta_set : typeOf (.type "set") = pure (.type "type") := by kernel_rfl
theorem stub_set : Manifest.isStub "set" = false := by decide +kernel
theorem set_method {pl : Sem Bool} {Q : Value × List Value → Shared → Prop} (W : Wd G O g L s fl news) (X : (KK w.params).In g) (e : findCls (KK w.params) (.type "set") (.type "type") name = some (.val (.builtin id))) (hh : handedIn (.builtin id) = true)
    (h : Q (.builtin id, []) { s with toks := s.toks + 1 }) : wpAny (model prog w) A (getMethod (.type "set") name pl) Q E s :=
  (@PySem.W.method_type prog w A E s (KK w.params) L g (fun y => fl.lookup y) name (.builtin id) "set" pl Q W.fr X meta_set stub_set e hh) h
theorem hi_add : handedIn (.builtin "set.add") = true := by kernel_rfl
theorem nt_list (xs : Array Value) (m : Nat) : (lstO xs m).cls ≠ .type "tuple" := by show Value.type "list" ≠ .type "tuple"; decide
theorem nt_oset (dx : Addr) (es : Array (Int × Value)) (n : Nat) (t : SetTable) (l : Addr) : (osetO dx es n t l).cls ≠ .type "tuple" := by show Value.ref 225 ≠ .type "tuple"; decide
theorem setName {Q : Value → Shared → Prop} {qual : Str} {sc : Scope} {fa : Addr} {cdv : Value} {cl : List (Str × Addr)} {np : Pos} (Gd : Gnd (KK w.params) base) (W : Wd G O g L s fl news) (B : base.StaysIn g) (h : Q (.type "set") s)
    (hk : sc.kind = .function := by rfl) (hx' : (envX qual sc L fa cdv cl).kindOf "set" = some .globalImplicit := by rfl) :
    wpAny (model prog w) A (eval (.Name "set" np) (envX qual sc L fa cdv cl)) Q E s := by
  obtain ⟨p, lo, mg, mb, T⟩ := Gd.top
  exact nameX_B W.fr (Gd.inK.keeps B) (T.keeps B) (g_set _) (by kernel_rfl) (by decide) h hk hx' rfl
theorem Wd.fxL (W : Wd G O g L s fl news) (F : Fx s s' [L]) : TupKept s.heap s'.heap := fun b o e c n => by
  by_cases q : b = L
  · obtain ⟨oL, es, ep, hL, hc, hd⟩ := W.fr.ns
    rw [q, hL] at e; cases e
    obtain ⟨ys, j, z⟩ := n
    rw [hc] at z; cases z
  · exact F.keep _ _ e (by simpa using q)
theorem store_W {Q : Unit → Shared → Prop} {qual y : Str} {sc : Scope} {fa : Addr} {cdv : Value} {cl : List (Str × Addr)} (W : Wd G O g L s fl news)
    (h : ∀ s', Wd G O g L s' ((y, v) :: fl) news → Fx s s' [L] → Q () s')
    (hk : sc.kind = .function := by rfl) (hx : (envX qual sc L fa cdv cl).kindOf y = some .local := by rfl) : wpAny (model prog w) A (storeName (envX qual sc L fa cdv cl) y v) Q E s :=
  wpAny_storeName_local hx W.fr.ns (fun h' hn hs => h _ (W.store hn hs) ⟨fun b o e hb => (hs.2 b fun q => hb (by rw [q]; exact .head _)).trans e, rfl, rfl⟩) (by show (sc.kind == .class || (sc.kind == .module && L != mainGlobals)) = false; rw [hk]; rfl)
theorem nosub_list : isSubtype (.type "list") (.type "set") = pure false := by rw [isSubtype_type]; kernel_rfl
theorem nosub_list_fs : isSubtype (.type "list") (.type "frozenset") = pure false := by rw [isSubtype_type]; kernel_rfl
theorem nosub_tuple : isSubtype (.type "tuple") (.type "set") = pure false := by rw [isSubtype_type]; kernel_rfl
theorem nosub_tuple_fs : isSubtype (.type "tuple") (.type "frozenset") = pure false := by rw [isSubtype_type]; kernel_rfl
theorem noSet_list {h : Heap} {l : Addr} {xs : Array Value} {m : Nat} (e : h.get? l = some (lstO xs m)) : NoSet h (.ref l) := ⟨l, _, "list", rfl, e, rfl, nosub_list, nosub_list_fs, by decide, fun _ _ _ q => by cases q⟩
theorem noSet_tuple {h : Heap} {l : Addr} {xs : Array Value} {m : Nat} (e : h.get? l = some { cls := .type "tuple", data := .seq xs m }) : NoSet h (.ref l) := ⟨l, _, "tuple", rfl, e, rfl, nosub_tuple, nosub_tuple_fs, by decide, fun _ _ _ q => by cases q⟩
section
variable (P : Params)
theorem g_OrderedSet : nsIn (KK P) mainGlobals "OrderedSet" = some (some (.ref 225)) := by kernel_rfl
theorem f_set_update : findCls (KK P) (.type "set") (.type "type") "update" = some (.val (.builtin "set.update")) := by kernel_rfl
theorem f_set_remove : findCls (KK P) (.type "set") (.type "type") "remove" = some (.val (.builtin "set.remove")) := by kernel_rfl
theorem f_set_clear : findCls (KK P) (.type "set") (.type "type") "clear" = some (.val (.builtin "set.clear")) := by kernel_rfl
theorem f_set_init : findCls (KK P) (.type "set") (.type "type") "__init__" = some (.val (.builtin "set.__init__")) := by kernel_rfl
theorem f_set_inter : findCls (KK P) (.type "set") (.type "type") "intersection" = some (.val (.builtin "set.intersection")) := by kernel_rfl
theorem f_set_diff : findCls (KK P) (.type "set") (.type "type") "difference" = some (.val (.builtin "set.difference")) := by kernel_rfl
theorem f_set_iu : findCls (KK P) (.type "set") (.type "type") "intersection_update" = some (.val (.builtin "set.intersection_update")) := by kernel_rfl
theorem f_set_du : findCls (KK P) (.type "set") (.type "type") "difference_update" = some (.val (.builtin "set.difference_update")) := by kernel_rfl
theorem f_set_su : findCls (KK P) (.type "set") (.type "type") "symmetric_difference_update" = some (.val (.builtin "set.symmetric_difference_update")) := by kernel_rfl
theorem keep225 : keepIn (KK P) (.ref 225) = true := by kernel_rfl
end
theorem hi_update : handedIn (.builtin "set.update") = true := by kernel_rfl
theorem hi_remove : handedIn (.builtin "set.remove") = true := by kernel_rfl
theorem hi_clear : handedIn (.builtin "set.clear") = true := by kernel_rfl
theorem hi_init : handedIn (.builtin "set.__init__") = true := by kernel_rfl
theorem hi_inter : handedIn (.builtin "set.intersection") = true := by kernel_rfl
theorem hi_diff : handedIn (.builtin "set.difference") = true := by kernel_rfl
theorem hi_iu : handedIn (.builtin "set.intersection_update") = true := by kernel_rfl
theorem hi_du : handedIn (.builtin "set.difference_update") = true := by kernel_rfl
theorem hi_su : handedIn (.builtin "set.symmetric_difference_update") = true := by kernel_rfl
theorem hi_new : handedIn (.builtin "set.__new__") = true := by kernel_rfl
theorem kName {y : Str} {v : Value} {Q : Value → Shared → Prop} {qual : Str} {sc : Scope} {fa : Addr} {cdv : Value} {cl : List (Str × Addr)} {np : Pos} (Gd : Gnd (KK w.params) base) (W : Wd G O g L s fl news) (B : base.StaysIn g) (e : nsIn (KK w.params) mainGlobals y = some (some v)) (h : Q v s)
    (hk : sc.kind = .function := by rfl) (hx' : (envX qual sc L fa cdv cl).kindOf y = some .globalImplicit := by rfl) (hd : (y == ("__debug__" : Str)) = false := by decide) :
    wpAny (model prog w) A (eval (.Name y np) (envX qual sc L fa cdv cl)) Q E s := by
  obtain ⟨p, lo, mg, mb, T⟩ := Gd.top
  exact nameX_K W.fr (Gd.inK.keeps B) (T.keeps B) e h hk hx' hd
theorem bName {y : Str} {v : Value} {Q : Value → Shared → Prop} {qual : Str} {sc : Scope} {fa : Addr} {cdv : Value} {cl : List (Str × Addr)} {np : Pos} (Gd : Gnd (KK w.params) base) (W : Wd G O g L s fl news) (B : base.StaysIn g) (e : nsIn (KK w.params) mainGlobals y = some none) (hv : bootBuiltins y = some v) (h : Q v s)
    (hn : y ≠ "__name__" := by decide) (hk : sc.kind = .function := by rfl) (hx' : (envX qual sc L fa cdv cl).kindOf y = some .globalImplicit := by rfl) (hd : (y == ("__debug__" : Str)) = false := by decide) :
    wpAny (model prog w) A (eval (.Name y np) (envX qual sc L fa cdv cl)) Q E s := by
  obtain ⟨p, lo, mg, mb, T⟩ := Gd.top
  exact nameX_B W.fr (Gd.inK.keeps B) (T.keeps B) e hv hn h hk hx' hd
theorem Own.nil : Own base outer s [] := ⟨fun p h => absurd h (by simp), List.nodup_nil, fun a h => absurd h (by simp)⟩
theorem Wd.fxNew2 {r2 : Addr} {ob2 : Obj} (H : Wd G O g L s fl news) (F : Fx s s' []) (hr : s.heap.get? r = none) (e : s'.heap.get? r = some ob) (hr2 : s.heap.get? r2 = none) (e2 : s'.heap.get? r2 = some ob2) (hne : r ≠ r2) : Wd G O g L s' fl ((r, ob) :: (r2, ob2) :: news) := by
  have H1 := H.fxNew F hr e
  have H2 := H.fxNew F hr2 e2
  refine ⟨H1.fr, fun p hp => ?_, ?_, H1.gens, H1.os⟩
  · rcases List.mem_cons.mp hp with rfl | hp
    · exact H1.nw _ (.head _)
    · exact H2.nw p hp
  · rw [List.map_cons, List.nodup_cons]
    refine ⟨fun hm => ?_, H2.nd⟩
    rw [List.map_cons] at hm
    rcases List.mem_cons.mp hm with q | hm
    · exact hne q
    · have := H1.nd
      rw [List.map_cons, List.nodup_cons] at this
      exact this.1 hm
theorem Chg.fx {foot : List Addr} (c : Chg s s' foot upd) : Fx s s' foot := ⟨c.keep, c.gens, c.os⟩
theorem Inn.tupg {A₀ : Around} (I : Inn A₀ base outer s s₁ g foot) (hf : ∀ p ∈ foot, s.heap.get? p.1 = some p.2 ∧ p.2.cls ≠ .type "tuple") : TupKept s.heap g := fun b o e c _ => I.hid b o e fun m => by
  obtain ⟨p, hp, q⟩ := List.mem_map.mp m
  obtain ⟨e', n⟩ := hf p hp
  rw [q, e] at e'; cases e'; exact n c
theorem Inn.tupg0 {A₀ : Around} (I : Inn A₀ base outer s s₁ g []) : TupKept s.heap g := I.tupg fun p h => absurd h (by simp)
theorem Tob.nt (o : Tob) (x : Addr) : ∀ p ∈ o.ents x, p.2.cls ≠ .type "tuple" := fun p hp => by
  rcases List.mem_cons.mp hp with rfl | hp
  · exact nt_oset _ _ _ _ _
  · rcases List.mem_cons.mp hp with rfl | hp
    · exact nt_list _ _
    · rw [List.mem_singleton.mp hp]; show Value.type "dict" ≠ _; decide
theorem Inn.tupgO {A₀ : Around} (I : Inn A₀ base outer s s₁ g (o.ents x)) (OW : Own base outer s (o.ents x)) : TupKept s.heap g := I.tupg fun p hp => ⟨OW.at_ p hp, o.nt x p hp⟩
theorem Wd.tg (W : Wd G O g L s fl news) : TupKept g s.heap := .of W.keeps
def There (h : Heap) (x : Addr) (o : Tob) : Prop := ∀ p ∈ o.ents x, h.get? p.1 = some p.2
theorem There.inst {h : Heap} (H : There h x o) : InstAt h x o.obj 225 (some dictO0) := ⟨H _ (.head _), rfl, rfl, H (o.dx, dictO0) (.tail _ (.tail _ (.head _)))⟩
theorem There.lst {h : Heap} (H : There h x o) : h.get? o.l = some (lstO o.xs o.m) := H (o.l, lstO o.xs o.m) (.tail _ (.head _))
theorem There.obj {h : Heap} (H : There h x o) : h.get? x = some o.obj := H _ (.head _)
theorem There.up {h h' : Heap} (H : There h x o) (k : ∀ b o, h.get? b = some o → h'.get? b = some o) : There h' x o := fun p hp => k _ _ (H p hp)
theorem There.now (H : There g x o) (W : Wd G O g L s fl news) : There s.heap x o := H.up W.keeps
theorem Wd.there (W : Wd G O g L s fl news) (h : ∀ p ∈ o.ents x, p ∈ news) : There s.heap x o := fun p hp => W.get (h p hp)
theorem There.fx {as : List Addr} (H : There s.heap x o) (F : Fx s s' as) (h : ∀ a ∈ (o.ents x).map (·.1), a ∉ as) : There s'.heap x o := fun p hp => F.keep _ _ (H p hp) (h _ (List.mem_map_of_mem hp))
theorem OS.sot {h : Heap} (O : OS th h o ks) (H : There h x o) : SO th h x o.obj o.es o.n o.t ks := O.so H.obj
theorem selfList {Q : Value → Shared → Prop} {qual : Str} {sc : Scope} {fa : Addr} {cdv : Value} {cl : List (Str × Addr)} {np ap : Pos} (W : Wd G O g L s fl news) (X : (KK w.params).In g) (H : There s.heap x o)
    (hn : (fun y => fl.lookup y) "self" = some (.ref x)) (h : Q (.ref o.l) { s with toks := s.toks + 1 })
    (hk : sc.kind = .function := by rfl) (hx' : (envX qual sc L fa cdv cl).kindOf "self" = some .local := by rfl) :
    wpAny (model prog w) A (eval (.Attribute (.Name "self" np) "_list" ap) (envX qual sc L fa cdv cl)) Q E s :=
  Attribute_Name_ (nameX_L W.fr hn (get_slotS (W.kin X) H.inst rfl rfl h) hk hx' rfl)
theorem site_W {d d' : Nat} {env : Env} (B : Below A base outer g) (W : Wd G O g L s fl news) (Rm : Room d (A.deeper env)) (hf : env.frame = some L) (hk : env.scope.kind = .function) (hd : d' ≤ d) : Site d' (A.deeper env) base (env :: outer) s.heap :=
  ⟨pushX B W.fr hf hk, Rm.mono hd⟩
theorem list_copy {Q : Value → Shared → Prop} {l : Addr} {xs : Array Value} {m : Nat} (ho : s.heap.get? l = some (lstO xs m)) (hz : xs.size ≤ sizeLine)
    (h : ∀ s' r m', Fx s s' [] → s.heap.get? r = none → s'.heap.get? r = some (lstO xs m') → Q (.ref r) s') : wpAny (model prog w) A (call (.type "list") [.ref l]) Q E s :=
  call_list_seq (hsz := hz) l (.inl rfl) ho rfl rfl fun h' c' k e => h _ _ c' ⟨fun b o q _ => k b o q, rfl, rfl⟩ (Heap.get?_none_of_le (Nat.le_refl _)) e
theorem list_copyT {Q : Value → Shared → Prop} {l : Addr} {xs : Array Value} {m : Nat} (ho : s.heap.get? l = some { cls := .type "tuple", data := .seq xs m }) (hz : xs.size ≤ sizeLine)
    (h : ∀ s' r m', Fx s s' [] → s.heap.get? r = none → s'.heap.get? r = some (lstO xs m') → Q (.ref r) s') : wpAny (model prog w) A (call (.type "list") [.ref l]) Q E s :=
  call_list_seq (hsz := hz) l (.inr rfl) ho rfl rfl fun h' c' k e => h _ _ c' ⟨fun b o q _ => k b o q, rfl, rfl⟩ (Heap.get?_none_of_le (Nat.le_refl _)) e
section
variable (P : Params)
theorem k_from_list : findIn (KK P) (.ref 225) "_from_list" = some (some (.ref 51)) := by kernel_rfl
theorem t_from_list : typeIn (KK P) (.ref 51) = some (.type "function") := by kernel_rfl
theorem g_iter : nsIn (KK P) mainGlobals "iter" = some none := by kernel_rfl
theorem k_iter225 : findIn (KK P) (.ref 225) "__iter__" = some (some (.ref 107)) := by kernel_rfl
theorem t_iter225 : typeIn (KK P) (.ref 107) = some (.type "function") := by kernel_rfl
theorem keep51 : keepIn (KK P) (.ref 51) = true := by kernel_rfl
end
theorem Wd.fxw {wr : List Addr} (H : Wd G O g L s fl news) (F : Fx s s' wr) (h : ∀ b ∈ wr, g.get? b = none ∧ b ≠ L ∧ ∀ p ∈ news, p.1 ≠ b) : Wd G O g L s' fl news := by
  refine ⟨⟨H.fr.ns.at' fun o e => F.keep _ o e fun m => (h _ m).2.1 rfl, fun b o e => F.keep _ _ (H.fr.keep b o e) fun m => ?_, H.fr.above⟩, fun p hp => ⟨F.keep _ _ (H.nw p hp).1 fun m => (h _ m).2.2 p hp rfl, (H.nw p hp).2⟩, H.nd, F.gens.trans H.gens, F.os.trans H.os⟩
  rw [(h b m).1] at e; cases e
theorem Wd.fresh (H : Wd G O g L s fl news) {b : Addr} (hb : s.heap.get? b = none) : g.get? b = none ∧ b ≠ L ∧ ∀ p ∈ news, p.1 ≠ b := by
  refine ⟨?_, fun q => ?_, fun p hp q => ?_⟩
  · cases q : g.get? b with
    | none => rfl
    | some o => rw [H.keeps _ _ q] at hb; cases hb
  · obtain ⟨oL, _, _, hL, _⟩ := H.fr.ns; rw [← q, hb] at hL; cases hL
  · have := H.get (a := p.1) (o := p.2) hp; rw [q, hb] at this; cases this
end
end
open PySem PySem.W PyProof.Rows PySem.Calls Builtin
local macro_rules | `(tactic| walk_at "rep") => `(tactic| first | exact .head | exact .tail .head | exact .tail (.tail .head) | exact .tail (.tail (.tail .head)))
local macro_rules | `(tactic| walk_at "mem") => `(tactic| first | exact List.Mem.head _ | exact .tail _ (.head _) | exact .tail _ (.tail _ (.head _)) | exact .tail _ (.tail _ (.tail _ (.head _))) | exact .tail _ (.tail _ (.tail _ (.tail _ (.head _)))) | exact .tail _ (.tail _ (.tail _ (.tail _ (.tail _ (.head _))))))
local macro_rules | `(tactic| walk_at "pick") => `(tactic| first | exact .head | exact .tail .head | exact .tail (.tail .head) | exact .tail (.tail (.tail .head)) | exact .tail (.tail (.tail (.tail .head))))
local macro_rules | `(tactic| walk_at "ext") => `(tactic| first | exact Ext.self | exact Ext.front | (repeat (first | exact Ext.nil | refine Ext.cons (by walk_at "pick") ?_)))
local macro_rules | `(tactic| walk_at "enter") => `(tactic| ((case ho => k_is); (case hcd => k_is); (case hbind => exact BindsTo.of_eq rfl); (case hloc => exact locs rfl); (case hcell => decide); (case c1 => rfl); (case c2 => rfl); (case c3 => rfl)))
section
open PySem PySem.W PyProof.Rows PySem.Calls Builtin
set_option Elab.async false
set_option maxRecDepth 100000
set_option pp.deepTerms false
set_option pp.maxSteps 1500
set_option linter.unusedVariables false
section
variable {prog : Program} {w : World} {κ : Type} [DecidableEq κ] {ek : EK prog w κ} {th : SetTh ek}
  {A : Around} {E : Value → Shared → Prop} {s s' s₁ : Shared} {R : Result → Shared → Prop} {x : Addr} {ks kb kl km : List κ} {k : κ} {v v2 : Value} {w0 : List Addr} {name : Str} {id T : String}
  {G : Array GenState} {O : OsState} {g base : Heap} {outer : List Env} {L a r l : Addr} {fl : List (Str × Value)} {news old upd rest foot : List (Addr × Obj)} {ob ob' : Obj} {f : Obj → List (Addr × Obj)} {o o' : Tob} {xs : Array Value} {m : Nat}
theorem c_add (Gd : Gnd (KK w.params) base) (C : Site 60 A base outer s.heap) (OW : Own base outer s (o.ents x)) (hO : OS th s.heap o ks) (hk : ek.is s.heap k v)
    (h : ∀ s' o', Chg s s' ((o.ents x).map (·.1)) (o'.ents x) → TupKept s.heap s'.heap → OS th s'.heap o' (addK ks k) → R (.ok (.ret .none)) s') :
    codeAny (model prog w) A (.call (.ref 58) ⟨[.ref x, v], []⟩) R s := by
  have XK : (Mine.hd.heap_39 w.params).In base ∧ PySem.Challenge.rw_eu0034_01 = PySem.Challenge.rw_eu0034_01 := ⟨Gd.inK, rfl⟩
  revert XK
  k_fill
  intro _
  refine' enter (K := Mine.hd.heap_39 w.params) (d := 59) (binds := [("self", .ref x), ("element", v)]) Gd C (o.ents x) OW ?ho ?hcd ?hbind ?hloc ?h ?hcell ?c1 ?c2 ?c3
  walk_at "enter"
  intro g L s₁ Rm W I
  have X := I.kin Gd
  have A3 := Rm.ok3 (by decide)
  have hO1 := hO.mono I.tup
  have hk1 := ek.mono I.tup hk
  refine wpAny_execs_cons (wpAny_If (wpAny_isTrue_Compare1 (nameX_L W.fr rfl (nameX_L W.fr rfl ?_))))
  refine notInOp_SO (th := th) A3 (W.kin X) (hO1.so (W.get (a := x) (by walk_at "mem"))) hk1 fun s₂ K₂ => wpAny_truthy_bool ?_
  have W2 := W.fx0 (Fx.of_keeps K₂ [])
  have hO2 := hO1.mono (TupKept.of fun b o e => kp_get K₂ e)
  have hk2 := ek.mono (TupKept.of fun b o e => kp_get K₂ e) hk1
  by_cases hm : k ∈ ks
  · rw [if_neg (by simpa using hm)]
    refine wpAny_execs_nil (wpAny_execs_nil ?_)
    refine h s₂ o (Chg.of_wd W2 I.hid (by walk_at "ext")) (I.tup.trans (.of fun b o e => kp_get K₂ e)) ?_
    rw [show addK ks k = ks from if_pos hm]
    exact hO2
  · rw [if_pos (by simpa using hm)]
    refine wpAny_execs_cons (wpAny_Expr_any (methodCall_KW (list_S (o := o) W2 X (by walk_at "mem") (by walk_at "mem") rfl ?_)))
    refine listMethod_K (s := { s₂ with toks := s₂.toks + 1 }) W2.toks.nw (its := o.xs) (n := o.m) (by walk_at "mem") PySem.F.slot_list_append PySem.F.type_list_append ?_
    refine callWith_method1 (args_cons (nameX_L W2.toks.fr rfl (args_nil ?_)))
    refine append_fx (s := { s₂ with toks := s₂.toks + 1 }) (xs := o.xs) (m := o.m) (W2.get (a := o.l) (by walk_at "mem")) (by rw [sizeLine_eq]; have := hO.size; have := hO.small; omega) fun s₃ F₃ e₃ => ?_
    have W3 := W2.toks.fx1 (a := o.l) (by walk_at "rep") F₃ e₃
    have T3 := F₃.tup1 (W2.get (a := o.l) (by walk_at "mem")) (nt_list _ _)
    have hO3 := hO2.mono T3
    have hk3 := ek.mono T3 hk2
    refine wpAny_execs_cons (wpAny_Expr_any (methodCall_KW (setName Gd W3 I.below.stays ?_)))
    refine @set_method _ _ _ _ _ _ "set.add" _ _ _ _ _ _ _ _ W3 X (f_set_add _) hi_add ?_
    refine callWith_method1 (args_cons (nameX_L W3.toks.fr rfl (args_cons (nameX_L W3.toks.fr rfl (args_nil ?_)))))
    refine call_add (th := th) A3 (W3.toks.kin X) (o := o.obj) (es := o.es) (n := o.n) (t := o.t) (ks := ks) (hO3.so (W3.toks.get (a := x) (by walk_at "mem"))) hk3 fun s₄ es' n' t' F₄ S₄ => ?_
    have W4 := W3.toks.fx1 (a := x) (ob := o.obj) .head F₄ S₄.at_
    have T4 := F₄.tup1 (W3.get (a := x) (by walk_at "mem")) (nt_oset _ _ _ _ _)
    refine wpAny_execs_nil (wpAny_execs_nil ?_)
    refine h s₄ ⟨o.dx, o.l, es', n', t', o.xs.push v, o.m + 1⟩ (Chg.of_wd W4 I.hid Ext.self) (I.tup.trans ((TupKept.of fun b o e => kp_get K₂ e).trans (T3.trans T4))) ⟨S₄.is, ?_⟩
    rw [Array.toList_push, addK, if_neg hm]
    exact All2.app (hO3.mono T4).row (.cons (ek.mono T4 hk3) .nil)
theorem c_from_list (Gd : Gnd (KK w.params) base) (C : Site 60 A base outer s.heap) (hl : s.heap.get? l = some (lstO xs m)) (hr : ek.All s.heap xs.toList kl) (nd : kl.Nodup)
    (h : ∀ s' x' dx es n t, Chg s s' [] [(x', osetO dx es n t l), (dx, dictO0)] → SetIs ek th.TT s'.heap es t kl → R (.ok (.ret (.ref x'))) s') :
    codeAny (model prog w) A (.call (.ref 51) ⟨[v, .ref l], []⟩) R s := by
  have XK : (Mine.hd.heap_39 w.params).In base ∧ PySem.Challenge.rw_eu0034_01 = PySem.Challenge.rw_eu0034_01 := ⟨Gd.inK, rfl⟩
  revert XK
  k_fill
  intro _
  refine' enter (K := Mine.hd.heap_39 w.params) (d := 59) (binds := [("self", v), ("new_list", .ref l)]) Gd C [] Own.nil ?ho ?hcd ?hbind ?hloc ?h ?hcell ?c1 ?c2 ?c3
  walk_at "enter"
  intro g L s₁ Rm W I
  have X := I.kin Gd
  have A3 := Rm.ok3 (by decide)
  have hlg := I.hid _ _ hl (by simp)
  have hrg := hr.mono I.tupg0
  refine wpAny_execs_cons (wpAny_Assign_Name (methodCall_KW (kName Gd W I.below.stays (g_OrderedSet _) ?_)))
  refine PySem.W.method_of_cls W.fr X (k_tga225 _) (PySem.W.cls_val W.fr X (k_type225 _) (k_reads _) (f_new _) hi_new ?_)
  refine callWith_method1 (args_cons (kName Gd W.toks I.below.stays (g_OrderedSet _) (args_nil ?_)))
  refine wpAny_call (code_oset_new (th := th) (rest := []) (W.toks.kin X) (pk_new0 prog w) fun s₂ x' dx t F₂ hn1 hn2 hne e₂ ed i z => ?_)
  have W2 := W.toks.fxNew2 F₂ hn1 e₂ hn2 ed hne
  refine store_W W2 fun s₃ W3 _ => ?_
  refine wpAny_execs_cons (plainObj_wpAny_Assign_Attribute (nameX_L W3.fr rfl (nameX_L W3.fr rfl ?_)))
  refine set_slotS (ox' := osetO dx #[] 0 t l) (od := some dictO0) X W3 ⟨W3.get (.head _), rfl, rfl, W3.get (.tail _ (.head _))⟩ .head rfl rfl fun s₄ W4 => ?_
  refine wpAny_execs_cons (wpAny_Expr_any (methodCall_KW (setName Gd W4 I.below.stays ?_)))
  refine @set_method _ _ _ _ _ _ "set.update" _ _ _ _ _ _ _ _ W4 X (f_set_update _) hi_update ?_
  refine callWith_method1 (args_cons (nameX_L W4.toks.fr rfl (args_cons (nameX_L W4.toks.fr rfl (args_nil ?_)))))
  have W5 := W4.toks (t := s₄.toks + 1)
  refine call_update (th := th) (o := osetO dx #[] 0 t l) (es := #[]) (n := 0) (t := t) (ks := []) (kl := kl) A3 (W5.kin X) ⟨W5.get (.head _), .inl rfl, rfl, i _⟩ (noSet_list (W5.base hlg)) (iter_list (W5.base hlg) (hrg.mono W5.tg)) fun s₆ es' n' t' F₆ T₆ S₆ => ?_
  have W6 := W5.fx1 .head F₆ S₆.at_
  refine wpAny_execs_cons (wpAny_Return_some (nameX_L W6.fr rfl ?_))
  refine h s₆ x' dx es' n' t' (Chg.of_wd W6 I.hid Ext.self) ?_
  have := S₆.is
  rwa [addAll_nodup nd] at this
theorem c_copy (Gd : Gnd (KK w.params) base) (C : Site 61 A base outer s.heap) (H : There s.heap x o) (hO : OS th s.heap o ks)
    (h : ∀ s' x' o', Chg s s' [] (o'.ents x') → OS th s'.heap o' ks → R (.ok (.ret (.ref x'))) s') :
    codeAny (model prog w) A (.call (.ref 44) ⟨[.ref x], []⟩) R s := by
  have XK : (Mine.hd.heap_39 w.params).In base ∧ PySem.Challenge.rw_eu0034_01 = PySem.Challenge.rw_eu0034_01 := ⟨Gd.inK, rfl⟩
  revert XK
  k_fill
  intro _
  refine' enter (K := Mine.hd.heap_39 w.params) (d := 60) (binds := [("self", .ref x)]) Gd C [] Own.nil ?ho ?hcd ?hbind ?hloc ?h ?hcell ?c1 ?c2 ?c3
  walk_at "enter"
  intro g L s₁ Rm W I
  have X := I.kin Gd
  have Hg : There g x o := H.up fun b o e => I.hid b o e (by simp)
  have Og := hO.mono I.tupg0
  refine wpAny_execs_cons (wpAny_Return_some (methodCall_KW (nameX_L W.fr rfl ?_)))
  refine method_S (W.kin X) (Hg.now W).inst (k_from_list _) (t_from_list _) ?_
  refine callWith_K X (keep51 _) (args_cons ?_)
  refine Call_ (bName (v := .type "list") Gd W I.below.stays (g_list _) (by kernel_rfl) ?_)
  refine callWith_type1 (args_cons (selfList W X (Hg.now W) rfl (args_nil ?_)))
  refine list_copy (s := { s₁ with toks := s₁.toks + 1 }) (Hg.now W).lst (by rw [sizeLine_eq]; have := hO.size; have := hO.small; omega) fun s₂ r m' F₂ hn e₂ => args_nil ?_
  have W2 := W.toks.fxNew F₂ hn e₂
  refine ⟨W2.kin X, wpAny_call ?_⟩
  refine c_from_list (th := th) (xs := o.xs) (m := m') (kl := ks) Gd (site_W I.below W2 Rm rfl rfl (by decide)) e₂ (Og.mono W2.tg).row hO.set.nodup fun s₃ x' dx es n t c i => ?_
  have W3 := W2.chg (old := []) .nil c
  refine h s₃ x' ⟨dx, r, es, n, t, o.xs, m'⟩ (Chg.of_wd W3 I.hid (.cons .head (.cons (.tail .head) (.cons .head .nil)))) ⟨i, (Og.mono W3.tg).row⟩
end
end
section
open PySem PySem.W PyProof.Rows PySem.Calls Builtin
set_option Elab.async false
set_option maxRecDepth 100000
set_option pp.deepTerms false
set_option pp.maxSteps 1500
set_option linter.unusedVariables false
section
variable {prog : Program} {w : World} {κ : Type} [DecidableEq κ] {ek : EK prog w κ} {th : SetTh ek}
  {A : Around} {E : Value → Shared → Prop} {s s' s₁ : Shared} {R : Result → Shared → Prop} {x : Addr} {ks kb kl km : List κ} {k : κ} {v v2 : Value} {w0 : List Addr} {name : Str} {id T : String}
  {G : Array GenState} {O : OsState} {g base : Heap} {outer : List Env} {L a r l : Addr} {fl : List (Str × Value)} {news old upd rest foot : List (Addr × Obj)} {ob ob' : Obj} {f : Obj → List (Addr × Obj)} {o o' : Tob} {xs : Array Value} {m : Nat}
theorem OS.lt {h : Heap} (x : OS th h o ks) : o.xs.size ≤ sizeLine := by rw [sizeLine_eq]; have := x.size; have := x.small; omega
theorem listMethod {l : Addr} {xs : Array Value} {m : Nat} {pl : Sem Bool} {Q : Value × List Value → Shared → Prop} (ho : s.heap.get? l = some (lstO xs m)) (slot : Slot "list" name id) (hty : typeOf (.builtin id) = pure (.type "method_descriptor"))
    (h : Q (.builtin id, [.ref l]) s) : wpAny (model prog w) A (getMethod (.ref l) name pl) Q E s :=
  getMethod_builtin ⟨_, ho, rfl⟩ PySem.F.plainAttrs_list slot hty (fun a e => by cases e; exact ⟨_, ho, rfl⟩) h
theorem c_discard (Gd : Gnd (KK w.params) base) (C : Site 60 A base outer s.heap) (OW : Own base outer s (o.ents x)) (hO : OS th s.heap o ks) (hk : ek.is s.heap k v)
    (h : ∀ s' o', Chg s s' ((o.ents x).map (·.1)) (o'.ents x) → OS th s'.heap o' (ks.filter fun y => decide (y ≠ k)) → R (.ok (.ret .none)) s') :
    codeAny (model prog w) A (.call (.ref 86) ⟨[.ref x, v], []⟩) R s := by
  have XK : (Mine.hd.heap_39 w.params).In base ∧ PySem.Challenge.rw_eu0034_01 = PySem.Challenge.rw_eu0034_01 := ⟨Gd.inK, rfl⟩
  revert XK
  k_fill
  intro _
  refine' enter (K := Mine.hd.heap_39 w.params) (d := 59) (binds := [("self", .ref x), ("element", v)]) Gd C (o.ents x) OW ?ho ?hcd ?hbind ?hloc ?h ?hcell ?c1 ?c2 ?c3
  walk_at "enter"
  intro g L s₁ Rm W I
  have X := I.kin Gd
  have A3 := Rm.ok3 (by decide)
  have Og := hO.mono (I.tupgO OW)
  have hkg := ek.mono (I.tupgO OW) hk
  refine wpAny_execs_cons (wpAny_If (wpAny_isTrue_Compare1 (nameX_L W.fr rfl (nameX_L W.fr rfl ?_))))
  refine inOp_SO (th := th) A3 (W.kin X) ((Og.mono W.tg).so (W.get (a := x) (.head _))) (ek.mono W.tg hkg) fun s₂ K₂ => wpAny_truthy_bool ?_
  have W2 := W.fx0 (Fx.of_keeps K₂ [])
  by_cases hm : k ∈ ks
  · rw [if_pos (by simpa using hm)]
    have O2 := Og.mono W2.tg
    have hk2 := ek.mono W2.tg hkg
    refine wpAny_execs_cons (wpAny_Expr_any (methodCall_KW (setName Gd W2 I.below.stays ?_)))
    refine @set_method _ _ _ _ _ _ "set.remove" _ _ _ _ _ _ _ _ W2 X (f_set_remove _) hi_remove ?_
    refine callWith_method1 (args_cons (nameX_L W2.toks.fr rfl (args_cons (nameX_L W2.toks.fr rfl (args_nil ?_)))))
    refine call_remove (th := th) (o := o.obj) (es := o.es) (n := o.n) (t := o.t) A3 (W2.toks.kin X) (O2.so (W2.get (a := x) (.head _))) hk2 (fun _ s₅ es n t F S => ?_) (fun q => absurd hm q)
    have W5 := W2.toks.fx1 (a := x) (ob := o.obj) .head F S.at_
    have T5 := F.tup1 (W2.get (a := x) (.head _)) (nt_oset _ _ _ _ _)
    refine wpAny_execs_cons (wpAny_Expr_any (methodCall_KW (selfList (o := ⟨o.dx, o.l, es, n, t, o.xs, o.m⟩) (x := x) W5 X (W5.there fun p hp => hp) rfl ?_)))
    refine listMethod (s := { s₅ with toks := s₅.toks + 1 }) (W5.get (a := o.l) (.tail _ (.head _))) PySem.F.slot_list_remove PySem.F.type_list_remove ?_
    refine callWith_method1 (args_cons (nameX_L W5.toks.fr rfl (args_nil ?_)))
    refine remove_fx (ek := ek) (ks := ks) (s := { s₅ with toks := s₅.toks + 1 }) A3 (W5.get (a := o.l) (.tail _ (.head _))) (O2.mono T5).row (ek.mono T5 hk2) hm hO.set.nodup hO.lt fun s₆ ys m' F6 e6 a6 => ?_
    have W6 := W5.toks.fx1 (a := o.l) (.tail .head) F6 e6
    have T6 := F6.tup1 (W5.get (a := o.l) (.tail _ (.head _))) (nt_list _ _)
    have O6 : OS th s₆.heap ⟨o.dx, o.l, es, n, t, ys, m'⟩ (ks.filter fun y => decide (y ≠ k)) := ⟨S.is.mono T6, a6⟩
    exact wpAny_execs_nil (wpAny_execs_nil (h s₆ _ (Chg.of_wd W6 I.hid Ext.self) O6))
  · rw [if_neg (by simpa using hm)]
    refine wpAny_execs_nil (wpAny_execs_nil (h s₂ o (Chg.of_wd W2 I.hid Ext.self) ?_))
    rw [show (ks.filter fun y => decide (y ≠ k)) = ks from List.filter_eq_self.mpr fun y hy => by simpa using fun q : y = k => hm (q ▸ hy)]
    exact Og.mono W2.tg
theorem c_remove (Gd : Gnd (KK w.params) base) (C : Site 60 A base outer s.heap) (OW : Own base outer s (o.ents x)) (hO : OS th s.heap o ks) (hk : ek.is s.heap k v) (hm : k ∈ ks)
    (h : ∀ s' o', Chg s s' ((o.ents x).map (·.1)) (o'.ents x) → OS th s'.heap o' (ks.filter fun y => decide (y ≠ k)) → R (.ok (.ret .none)) s') :
    codeAny (model prog w) A (.call (.ref 65) ⟨[.ref x, v], []⟩) R s := by
  have XK : (Mine.hd.heap_39 w.params).In base ∧ PySem.Challenge.rw_eu0034_01 = PySem.Challenge.rw_eu0034_01 := ⟨Gd.inK, rfl⟩
  revert XK
  k_fill
  intro _
  refine' enter (K := Mine.hd.heap_39 w.params) (d := 59) (binds := [("self", .ref x), ("element", v)]) Gd C (o.ents x) OW ?ho ?hcd ?hbind ?hloc ?h ?hcell ?c1 ?c2 ?c3
  walk_at "enter"
  intro g L s₁ Rm W I
  have X := I.kin Gd
  have A3 := Rm.ok3 (by decide)
  have Og := hO.mono (I.tupgO OW)
  have hkg := ek.mono (I.tupgO OW) hk
  have O2 := Og.mono W.tg
  have hk2 := ek.mono W.tg hkg
  refine wpAny_execs_cons (wpAny_Expr_any (methodCall_KW (setName Gd W I.below.stays ?_)))
  refine @set_method _ _ _ _ _ _ "set.remove" _ _ _ _ _ _ _ _ W X (f_set_remove _) hi_remove ?_
  refine callWith_method1 (args_cons (nameX_L W.toks.fr rfl (args_cons (nameX_L W.toks.fr rfl (args_nil ?_)))))
  refine call_remove (th := th) (o := o.obj) (es := o.es) (n := o.n) (t := o.t) A3 (W.toks.kin X) (O2.so (W.get (a := x) (.head _))) hk2 (fun _ s₅ es n t F S => ?_) (fun q => absurd hm q)
  have W5 := W.toks.fx1 (a := x) (ob := o.obj) .head F S.at_
  have T5 := F.tup1 (W.get (a := x) (.head _)) (nt_oset _ _ _ _ _)
  refine wpAny_execs_cons (wpAny_Expr_any (methodCall_KW (selfList (o := ⟨o.dx, o.l, es, n, t, o.xs, o.m⟩) (x := x) W5 X (W5.there fun p hp => hp) rfl ?_)))
  refine listMethod (s := { s₅ with toks := s₅.toks + 1 }) (W5.get (a := o.l) (.tail _ (.head _))) PySem.F.slot_list_remove PySem.F.type_list_remove ?_
  refine callWith_method1 (args_cons (nameX_L W5.toks.fr rfl (args_nil ?_)))
  refine remove_fx (ek := ek) (ks := ks) (s := { s₅ with toks := s₅.toks + 1 }) A3 (W5.get (a := o.l) (.tail _ (.head _))) (O2.mono T5).row (ek.mono T5 hk2) hm hO.set.nodup hO.lt fun s₆ ys m' F6 e6 a6 => ?_
  have W6 := W5.toks.fx1 (a := o.l) (.tail .head) F6 e6
  have T6 := F6.tup1 (W5.get (a := o.l) (.tail _ (.head _))) (nt_list _ _)
  have O6 : OS th s₆.heap ⟨o.dx, o.l, es, n, t, ys, m'⟩ (ks.filter fun y => decide (y ≠ k)) := ⟨S.is.mono T6, a6⟩
  exact wpAny_execs_nil (h s₆ _ (Chg.of_wd W6 I.hid Ext.self) O6)
theorem c_insert {i : Int} {tk : Tok} (Gd : Gnd (KK w.params) base) (C : Site 60 A base outer s.heap) (OW : Own base outer s (o.ents x)) (hO : OS th s.heap o ks) (hk : ek.is s.heap k v) (hi : -1000 ≤ i ∧ i ≤ 1000)
    (h : ∀ s' o', Chg s s' ((o.ents x).map (·.1)) (o'.ents x) → OS th s'.heap o' (if k ∈ ks then ks else insAt ks i k) → R (.ok (.ret .none)) s') :
    codeAny (model prog w) A (.call (.ref 79) ⟨[.ref x, .int i tk, v], []⟩) R s := by
  have XK : (Mine.hd.heap_39 w.params).In base ∧ PySem.Challenge.rw_eu0034_01 = PySem.Challenge.rw_eu0034_01 := ⟨Gd.inK, rfl⟩
  revert XK
  k_fill
  intro _
  refine' enter (K := Mine.hd.heap_39 w.params) (d := 59) (binds := [("self", .ref x), ("pos", .int i tk), ("element", v)]) Gd C (o.ents x) OW ?ho ?hcd ?hbind ?hloc ?h ?hcell ?c1 ?c2 ?c3
  walk_at "enter"
  intro g L s₁ Rm W I
  have X := I.kin Gd
  have A3 := Rm.ok3 (by decide)
  have Og := hO.mono (I.tupgO OW)
  have hkg := ek.mono (I.tupgO OW) hk
  refine wpAny_execs_cons (wpAny_If (wpAny_isTrue_Compare1 (nameX_L W.fr rfl (nameX_L W.fr rfl ?_))))
  refine notInOp_SO (th := th) A3 (W.kin X) ((Og.mono W.tg).so (W.get (a := x) (.head _))) (ek.mono W.tg hkg) fun s₂ K₂ => wpAny_truthy_bool ?_
  have W2 := W.fx0 (Fx.of_keeps K₂ [])
  by_cases hm : k ∈ ks
  · rw [if_neg (by simpa using hm)]
    refine wpAny_execs_nil (wpAny_execs_nil ?_)
    refine h s₂ o (Chg.of_wd W2 I.hid Ext.self) ?_
    rw [if_pos hm]
    exact Og.mono W2.tg
  · rw [if_pos (by simpa using hm)]
    refine wpAny_execs_cons (wpAny_Expr_any (methodCall_KW (selfList (o := o) (x := x) W2 X (W2.there fun p hp => hp) rfl ?_)))
    refine listMethod (s := { s₂ with toks := s₂.toks + 1 }) (W2.get (a := o.l) (.tail _ (.head _))) PySem.F.slot_list_insert PySem.F.type_list_insert ?_
    refine callWith_method1 (args_cons (nameX_L W2.toks.fr rfl (args_cons (nameX_L W2.toks.fr rfl (args_nil ?_)))))
    refine insert_fx (s := { s₂ with toks := s₂.toks + 1 }) (xs := o.xs) (m := o.m) (W2.get (a := o.l) (.tail _ (.head _))) hO.lt hi fun s₃ ys m' F₃ e₃ hys => ?_
    have W3 := W2.toks.fx1 (a := o.l) (.tail .head) F₃ e₃
    refine wpAny_execs_cons (wpAny_Expr_any (methodCall_KW (setName Gd W3 I.below.stays ?_)))
    refine @set_method _ _ _ _ _ _ "set.add" _ _ _ _ _ _ _ _ W3 X (f_set_add _) hi_add ?_
    refine callWith_method1 (args_cons (nameX_L W3.toks.fr rfl (args_cons (nameX_L W3.toks.fr rfl (args_nil ?_)))))
    refine call_add (th := th) A3 (W3.toks.kin X) (o := o.obj) (es := o.es) (n := o.n) (t := o.t) (ks := ks) ((Og.mono W3.tg).so (W3.toks.get (a := x) (.head _))) (ek.mono W3.tg hkg) fun s₄ es' n' t' F₄ S₄ => ?_
    have W4 := W3.toks.fx1 (a := x) (ob := o.obj) .head F₄ S₄.at_
    refine wpAny_execs_nil (wpAny_execs_nil ?_)
    refine h s₄ ⟨o.dx, o.l, es', n', t', ys, m'⟩ (Chg.of_wd W4 I.hid Ext.self) ⟨?_, ?_⟩
    · rw [if_neg hm]
      refine S₄.is.perm ?_
      rw [addK, if_neg hm]
      unfold insAt
      refine List.perm_append_comm.trans (List.Perm.trans ?_ List.perm_middle.symm)
      rw [List.singleton_append, List.take_append_drop]
    · show ek.All s₄.heap ys.toList _
      rw [hys, if_neg hm]
      have row := (Og.mono W4.tg).row
      have hl := row.length
      unfold insAt
      rw [hl]
      exact All2.app (All2.take row _) (.cons (ek.mono W4.tg hkg) (All2.drop row _))
end
end
section
open PySem PySem.W PyProof.Rows PySem.Calls Builtin
set_option Elab.async false
set_option maxRecDepth 100000
set_option pp.deepTerms false
set_option pp.maxSteps 1500
set_option linter.unusedVariables false
section
variable {prog : Program} {w : World} {κ : Type} [DecidableEq κ] {ek : EK prog w κ} {th : SetTh ek}
  {A : Around} {E : Value → Shared → Prop} {s s' s₁ : Shared} {R : Result → Shared → Prop} {x : Addr} {ks kb kl km : List κ} {k : κ} {v v2 : Value} {w0 : List Addr} {name : Str} {id T : String}
  {G : Array GenState} {O : OsState} {g base : Heap} {outer : List Env} {L a r l : Addr} {fl : List (Str × Value)} {news old upd rest foot : List (Addr × Obj)} {ob ob' : Obj} {f : Obj → List (Addr × Obj)} {o o' : Tob} {xs : Array Value} {m : Nat}
theorem c_clear (Gd : Gnd (KK w.params) base) (C : Site 60 A base outer s.heap) (OW : Own base outer s (o.ents x)) (hO : OS th s.heap o ks)
    (h : ∀ s' o', Chg s s' ((o.ents x).map (·.1)) (o'.ents x) → OS th s'.heap o' [] → R (.ok (.ret .none)) s') :
    codeAny (model prog w) A (.call (.ref 93) ⟨[.ref x], []⟩) R s := by
  have XK : (Mine.hd.heap_39 w.params).In base ∧ PySem.Challenge.rw_eu0034_01 = PySem.Challenge.rw_eu0034_01 := ⟨Gd.inK, rfl⟩
  revert XK
  k_fill
  intro _
  refine' enter (K := Mine.hd.heap_39 w.params) (d := 59) (binds := [("self", .ref x)]) Gd C (o.ents x) OW ?ho ?hcd ?hbind ?hloc ?h ?hcell ?c1 ?c2 ?c3
  walk_at "enter"
  intro g L s₁ Rm W I
  have X := I.kin Gd
  have A3 := Rm.ok3 (by decide)
  have Og := hO.mono (I.tupgO OW)
  refine wpAny_execs_cons (wpAny_Expr_any (methodCall_KW (setName Gd W I.below.stays ?_)))
  refine @set_method _ _ _ _ _ _ "set.clear" _ _ _ _ _ _ _ _ W X (f_set_clear _) hi_clear ?_
  refine callWith_method1 (args_cons (nameX_L W.toks.fr rfl (args_nil ?_)))
  refine call_clear (th := th) (s := { s₁ with toks := s₁.toks + 1 }) (W.kin X) ((Og.mono W.tg).so (W.get (a := x) (.head _))) fun s₂ n t F₂ S₂ => ?_
  have W2 := W.toks.fx1 (a := x) (ob := o.obj) .head F₂ S₂.at_
  refine wpAny_execs_cons (plainObj_wpAny_Assign_Attribute (List_ (args_nil ?_)))
  refine wpAny_newObj_type (nameX_L (W2.push (lstO #[] 0) rfl).fr rfl ?_)
  have W3 := W2.push (lstO #[] 0) rfl (t := s₂.toks)
  refine set_slotS (ox' := osetO o.dx #[] n t s₂.heap.objs.size) (od := some dictO0) X W3 ⟨W3.get (.tail _ (.head _)), rfl, rfl, W3.get (.tail _ (.tail _ (.tail _ (.head _))))⟩ (.tail .head) rfl rfl fun s₄ W4 => ?_
  refine wpAny_execs_nil ?_
  refine h s₄ ⟨o.dx, s₂.heap.objs.size, #[], n, t, #[], 0⟩ (Chg.of_wd W4 I.hid (.cons (.tail .head) (.cons .head (.cons (.tail .head) .nil)))) ⟨?_, .nil⟩
  obtain ⟨ks', a, b, c, d, e⟩ := S₂.is
  exact ⟨ks', by cases a; exact .nil, b, c, d, e⟩
abbrev itO (l : Addr) (i : Nat) : Obj := { cls := .type "list_iterator", data := .fields #[.ref l, .int i 0] }
theorem c_iter (Gd : Gnd (KK w.params) base) (C : Site 60 A base outer s.heap) (H : There s.heap x o)
    (h : ∀ s' I, Chg s s' [] [(I, itO o.l 0)] → R (.ok (.ret (.ref I))) s') :
    codeAny (model prog w) A (.call (.ref 107) ⟨[.ref x], []⟩) R s := by
  have XK : (Mine.hd.heap_39 w.params).In base ∧ PySem.Challenge.rw_eu0034_01 = PySem.Challenge.rw_eu0034_01 := ⟨Gd.inK, rfl⟩
  revert XK
  k_fill
  intro _
  refine' enter (K := Mine.hd.heap_39 w.params) (d := 59) (binds := [("self", .ref x)]) Gd C [] Own.nil ?ho ?hcd ?hbind ?hloc ?h ?hcell ?c1 ?c2 ?c3
  walk_at "enter"
  intro g L s₁ Rm W I
  have X := I.kin Gd
  have A3 := Rm.ok3 (by decide)
  have Hg : There g x o := H.up fun b o e => I.hid b o e (by simp)
  refine wpAny_execs_cons (wpAny_Return_some (Call_ (bName (v := .builtin "iter") Gd W I.below.stays (g_iter _) (by kernel_rfl) ?_)))
  refine callWith_builtin1 (args_cons (selfList W X (Hg.now W) rfl (args_nil ?_)))
  refine call_function_entry (by decide +kernel) (by decide +kernel) kdk_entry_iter (kdk_args_iter _) ?_
  unfold Builtin.«iter»
  refine wpAny_bind (wpAny_of_eq (a := [.ref o.l]) rfl ?_)
  dsimp only
  refine wpAny_bind (wpAny_pyIter_list (s := { s₁ with toks := s₁.toks + 1 }) ⟨_, (Hg.now W).lst, rfl, _, rfl⟩ (wpAny_pure ⟨_, rfl, ?_⟩))
  have W2 := W.push (itO o.l 0) rfl (t := s₁.toks + 1)
  exact h _ s₁.heap.objs.size (Chg.of_wd W2 I.hid (.cons .head .nil))
theorem iter_oset (Gd : Gnd (KK w.params) base) (C : Site 61 A base outer s.heap) (H : There s.heap x o) (hO : OS th s.heap o ks) : IterF ek A s (.ref x) ks [] [o.l] := by
  refine ⟨fun b hb => by rw [List.mem_singleton.mp hb]; exact ⟨_, H.lst⟩, fun s' E Q F q => ?_⟩
  have X : (KK w.params).In s'.heap := Gd.inK.keeps fun b o e => F.keep _ _ (C.below.stays _ _ e) (by simp)
  have H' : There s'.heap x o := H.up fun b o e => F.keep _ _ e (by simp)
  have C' : Site 61 A base outer s'.heap := ⟨⟨C.below.stack, fun b o e => F.keep _ _ (C.below.stays _ _ e) (by simp), C.below.frames.of_keeps fun b o e _ => ⟨o, F.keep _ _ e (by simp), rfl⟩⟩, C.rm⟩
  have ty : Looks (model prog w) s'.heap (typeOf (.ref x)) (.ref 225) := (Looks.ld H'.obj).andThen .now
  have sp : Looks (model prog w) s'.heap (specialOf (.ref x) "__iter__") (some (.ref 107)) := ty.andThen (looks_findIn X (k_iter225 _))
  unfold pyIter
  refine wpAny_bind (sp.here ?_)
  dsimp only
  have bd : Looks (model prog w) s'.heap (bindSpecial (.ref 107) (.ref x)) (.ref 107, [.ref x]) := bind_fn X _ (t_iter225 _)
  have fin : ∀ {Qo : Option Value → Shared → Prop}, (∀ s₂ I, Chg s' s₂ [] [(I, itO o.l 0)] → Qo (some (.ref I)) s₂) → wpAny (model prog w) A (do return some (← call (.ref 107) [.ref x])) Qo E s' := fun {Qo} h =>
    wpAny_bind (wpAny_call (c_iter Gd (by exact ⟨C'.below, C'.rm.mono (by decide)⟩) H' fun s₂ I c => wpAny_pure (h s₂ I c)))
  refine wpAny_bind ?_
  simp only [callSpecialIfBoundUnlessNone?, bindSpecialIfBound?]
  have last : ∀ s₂ I, Chg s' s₂ [] [(I, itO o.l 0)] → wpAny (model prog w) A (do
      match ← specialOf (.ref I) "__next__" with
      | none => rule "iter.non-iterator"; raiseError "TypeError" s!"iter() returned non-iterator of type '{← PySem.typeNameOf (.ref I)}'"
      | some _ => pure (.ref I)) Q E s₂ := fun s₂ I c => by
    have eI := c.new (I, itO o.l 0) (.head _)
    refine wpAny_bind (wpAny_specialOf ⟨_, eI, rfl⟩ slot_listiter_next.lookup ?_)
    have F2 := c.fx
    have H2 : There s₂.heap x o := H'.up fun b o e => F2.keep _ _ e (by simp)
    have O2 : OS th s₂.heap o ks := hO.mono ((nil_tup F).trans (nil_tup F2))
    have hn : s'.heap.get? I = none := (c.own (I, itO o.l 0) (.head _)).elim (fun q => absurd q (by simp)) id
    have hne : o.l ≠ I := fun q => by have := H'.lst; rw [q, hn] at this; cases this
    refine wpAny_pure (q s₂ I _ _ _ _ F2 (feed_list (m := o.m) H2.lst O2.row ⟨_, eI, rfl, rfl⟩ hne) (fun b hb => ?_) fun b hb => ?_)
    · rw [List.mem_singleton.mp hb]; exact .inr hn
    · rcases List.mem_cons.mp hb with rfl | hb
      · exact .inr hn
      · exact .inl hb
  refine wpAny_holding (wpAny_bind (wpAny_bind (sp.here ?_)))
  dsimp only
  refine wpAny_bind (wpAny_askSetting (wpAny_ite ?_))
  split
  · refine wpAny_bind (bd.here (wpAny_pure ?_))
    dsimp only
    rw [if_neg (by decide)]
    exact fin last
  · refine wpAny_tryCatch (wpAny_bind (bd.here (wpAny_pure ?_)))
    dsimp only
    rw [if_neg (by decide)]
    exact fin last
end
end
section
open PySem PySem.W PyProof.Rows PySem.Calls Builtin
set_option Elab.async false
set_option maxRecDepth 100000
set_option pp.deepTerms false
set_option pp.maxSteps 1500
set_option linter.unusedVariables false
section
variable {prog : Program} {w : World} {κ : Type} [DecidableEq κ] {ek : EK prog w κ} {th : SetTh ek}
  {A : Around} {E : Value → Shared → Prop} {s s' s₁ : Shared} {R : Result → Shared → Prop} {x : Addr} {ks kb kl km : List κ} {k : κ} {v v2 : Value} {w0 : List Addr} {name : Str} {id T : String}
  {G : Array GenState} {O : OsState} {g base : Heap} {outer : List Env} {L a r l d : Addr} {fl : List (Str × Value)} {news old upd rest foot : List (Addr × Obj)} {ob ob' od : Obj} {f : Obj → List (Addr × Obj)} {o o' : Tob} {xs : Array Value} {m ep : Nat} {ed : Array DictEntry} {h h' : Heap}
inductive OpK (th : SetTh ek) (h : Heap) (v : Value) (kl : List κ) : List Addr → Prop
  | list (l : Addr) (xs : Array Value) (m : Nat) : v = .ref l → h.get? l = some (lstO xs m) → ek.All h xs.toList kl → OpK th h v kl [l]
  | tuple (l : Addr) (xs : Array Value) (m : Nat) : v = .ref l → h.get? l = some { cls := .type "tuple", data := .seq xs m } → ek.All h xs.toList kl → OpK th h v kl [l]
  | dict (d : Addr) (od : Obj) (ed : Array DictEntry) (ep : Nat) : v = .ref d → DI ek h d od ed ep kl → OpK th h v kl [d]
  | oset (b : Addr) (o : Tob) : v = .ref b → There h b o → OS th h o kl → OpK th h v kl [b, o.l, o.dx]
theorem OpK.move {as : List Addr} (x : OpK th h v kl as) (k : ∀ a ∈ as, ∀ o, h.get? a = some o → h'.get? a = some o) (tk : TupKept h h') : OpK th h' v kl as := by
  cases x with
  | list l xs m e hl hr => exact .list _ _ _ e (k _ (.head _) _ hl) (hr.mono tk)
  | tuple l xs m e hl hr => exact .tuple _ _ _ e (k _ (.head _) _ hl) (hr.mono tk)
  | dict d od ed ep e D => exact .dict _ _ _ _ e (D.kept (k _ (.head _) _ D.at_) tk)
  | oset b o e H O => exact .oset _ _ e (fun p hp => k p.1 (by
      rcases List.mem_cons.mp hp with rfl | hp
      · exact .head _
      · rcases List.mem_cons.mp hp with rfl | hp
        · exact .tail _ (.head _)
        · rw [List.mem_singleton.mp hp]; exact .tail _ (.tail _ (.head _))) _ (H p hp)) (O.mono tk)
theorem OpK.up {as : List Addr} (x : OpK th h v kl as) (k : ∀ b o, h.get? b = some o → h'.get? b = some o) : OpK th h' v kl as := x.move (fun a _ o e => k a o e) (.of k)
theorem OpK.now {as : List Addr} (x : OpK th g v kl as) (W : Wd G O g L s fl news) : OpK th s.heap v kl as := x.up W.keeps
theorem OpK.live {as : List Addr} (x : OpK th h v kl as) : ∀ a ∈ as, ∃ o, h.get? a = some o := by
  cases x with
  | list l xs m e hl hr => intro a ha; rw [List.mem_singleton.mp ha]; exact ⟨_, hl⟩
  | tuple l xs m e hl hr => intro a ha; rw [List.mem_singleton.mp ha]; exact ⟨_, hl⟩
  | dict d od ed ep e D => intro a ha; rw [List.mem_singleton.mp ha]; exact ⟨_, D.at_⟩
  | oset b o e H O =>
    intro a ha
    rcases List.mem_cons.mp ha with rfl | ha
    · exact ⟨_, H.obj⟩
    · rcases List.mem_cons.mp ha with rfl | ha
      · exact ⟨_, H.lst⟩
      · rw [List.mem_singleton.mp ha]; exact ⟨_, H (o.dx, dictO0) (.tail _ (.tail _ (.head _)))⟩
theorem OpK.isRef {as : List Addr} (x : OpK th h v kl as) : ∃ a, v = .ref a ∧ a ∈ as := by
  cases x with
  | list l xs m e _ _ => exact ⟨_, e, .head _⟩
  | tuple l xs m e _ _ => exact ⟨_, e, .head _⟩
  | dict d od ed ep e _ => exact ⟨_, e, .head _⟩
  | oset b o e _ _ => exact ⟨_, e, .head _⟩
theorem OpK.opd {as : List Addr} (x : OpK th s.heap v kl as) (A : Around) : Opd th A s v kl [] := by
  cases x with
  | list l xs m e hl hr => subst e; exact .feed (noSet_list hl) (iter_list hl hr)
  | tuple l xs m e hl hr => subst e; exact .feed (noSet_tuple hl) (iter_tuple hl hr)
  | dict d od ed ep e D => subst e; exact .dict _ _ _ _ rfl D (iter_dict D)
  | oset b o e H O => subst e; exact .set _ _ _ _ _ rfl (O.sot H)
theorem OpK.iterF {as : List Addr} (Gd : Gnd (KK w.params) base) (C : Site 61 A base outer s.heap) (x : OpK th s.heap v kl as) : ∃ bs, (∀ b ∈ bs, b ∈ as) ∧ IterF ek A s v kl [] bs := by
  cases x with
  | list l xs m e hl hr => subst e; exact ⟨_, fun b hb => hb, iterF_list hl hr⟩
  | tuple l xs m e hl hr => subst e; exact ⟨_, fun b hb => hb, iterF_tuple hl hr⟩
  | dict d od ed ep e D => subst e; exact ⟨_, fun b hb => hb, iterF_dict D⟩
  | oset b o e H O => subst e; exact ⟨_, fun b hb => by rw [List.mem_singleton.mp hb]; exact .tail _ (.head _), iter_oset Gd C H O⟩
theorem for_walk {env : Env} {I : Addr} {fp wr as : List Addr} {n : Nat} {P : Nat → Value → Prop} {St : Nat → Heap → Prop} {y : Str} {px : Pos} {body : List Stmt} (Wk : Walks prog w A I fp wr n P St) (Inv : Nat → Shared → Prop) (has : ∀ a ∈ as, a ∉ fp)
    (hInv : ∀ i s' s'', Inv i s' → St i s'.heap → Fx s' s'' wr → Inv i s'')
    (turn : ∀ i v s', i < n → P i v → Inv i s' → wpAny (model prog w) A (storeName env y v) (fun _ s₂ => wpAny (model prog w) A (execs body env) (fun fl s₃ => match fl with
          | .next | .cont => Inv (i + 1) s₃ ∧ Fx s' s₃ as
          | .brk => R (.ok .next) s₃
          | .ret v => R (.ok (.ret v)) s₃) (notedBy (model prog w) A env fun e s' => R (.error e) s') s₂) (notedBy (model prog w) A env fun e s' => R (.error e) s') s')
    (fin : ∀ s', Inv n s' → R (.ok .next) s') (start : St 0 s.heap) (h0 : Inv 0 s) : codeAny (model prog w) A (.forLoop (.Name y px) (.ref I) body [] env) R s := by
  refine codeAny_forLoop (fun j s' => ∃ i, i + j = n ∧ St i s'.heap ∧ Inv i s') (fun j s' => ?_) n ⟨0, by omega, start, h0⟩
  rintro ⟨i, hij, st, hi⟩
  cases j with
  | zero =>
    have hn : i = n := by omega
    subst hn
    refine Wk.done s' _ _ st fun h' tk hk => ?_
    exact wpAny_execs_nil (fin _ (hInv i s' _ hi st ⟨fun b o e nb => hk b o nb e, rfl, rfl⟩))
  | succ j =>
    refine Wk.item i s' _ _ (by omega) st fun v h' tk hp st' hk => ?_
    have hi' := hInv i s' { s' with heap := h', toks := tk } hi st ⟨fun b o e nb => hk b o nb e, rfl, rfl⟩
    refine wpAny_assign_Name (wpAny_mono (turn i v _ (by omega) hp hi') (fun _ s₂ z => wpAny_mono z (fun f s₃ z => ?_) fun _ _ e => e) fun _ _ e => e)
    cases f with
    | next => exact ⟨j, by omega, i + 1, by omega, Wk.frame _ _ _ st' fun b hb o e => z.2.keep b o e fun m => has b m hb, z.1⟩
    | cont => exact ⟨j, by omega, i + 1, by omega, Wk.frame _ _ _ st' fun b hb o e => z.2.keep b o e fun m => has b m hb, z.1⟩
    | brk => exact z
    | ret v => exact z
theorem for_feed {env : Env} {I : Addr} {fp wr as : List Addr} {P : Nat → Value → Prop} {St : Nat → Heap → Prop} {y : Str} {px : Pos} {body : List Stmt} (Fd : Feeding ek s I fp wr kl P St) (hh : A.handled = none) (Inv : List κ → Shared → Prop) (has : ∀ a ∈ as, a ∉ fp)
    (hT : ∀ d s', Inv d s' → TupKept s.heap s'.heap)
    (hInv : ∀ d s' s'', Inv d s' → Fx s' s'' wr → TupKept s'.heap s''.heap → Inv d s'')
    (turn : ∀ d k r v s', kl = d ++ k :: r → ek.is s'.heap k v → Inv d s' → wpAny (model prog w) A (storeName env y v) (fun _ s₂ => wpAny (model prog w) A (execs body env) (fun fl s₃ => match fl with
          | .next | .cont => Inv (d ++ [k]) s₃ ∧ Fx s' s₃ as
          | .brk => R (.ok .next) s₃
          | .ret v => R (.ok (.ret v)) s₃) (notedBy (model prog w) A env fun e s' => R (.error e) s') s₂) (notedBy (model prog w) A env fun e s' => R (.error e) s') s')
    (fin : ∀ s', Inv kl s' → R (.ok .next) s') (h0 : Inv [] s) : codeAny (model prog w) A (.forLoop (.Name y px) (.ref I) body [] env) R s := by
  refine for_walk (Fd.walks A hh) (fun i s' => Inv (kl.take i) s') has (fun i s' s'' hi st F => hInv _ _ _ hi F (F.tup (Fd.wrNT _ _ st))) (fun i v s' hlt hp hi => ?_) (fun s' hi => fin s' (by rwa [List.take_length] at hi)) Fd.start h0
  obtain ⟨k, hk, hv⟩ := Fd.keys i v hp
  have hsplit : kl = kl.take i ++ k :: kl.drop (i + 1) := by
    conv => lhs; rw [← List.take_append_drop i kl]
    rw [List.drop_eq_getElem_cons hlt]
    congr 2
    exact Option.some.inj (by rw [← hk, List.getElem?_eq_getElem hlt])
  have htk : kl.take (i + 1) = kl.take i ++ [k] := by rw [List.take_add_one, hk]; rfl
  rw [htk]
  exact turn _ k _ v s' hsplit (ek.mono (hT _ _ hi) hv) hi
end
def bindLs (kindOf : Str → Option NameKind) : List (Str × Value) → List (Str × Value) → List (Str × Value)
  | [], l => l
  | (n, v) :: r, l => bindLs kindOf r (if kindOf n = some .local then (n, v) :: l else l)
theorem bindLs_is (kindOf : Str → Option NameKind) : ∀ (binds l : List (Str × Value)), bindL kindOf binds (fun y => l.lookup y) = fun y => (bindLs kindOf binds l).lookup y
  | [], l => rfl
  | (n, v) :: r, l => by
    show bindL kindOf r (if kindOf n = some .local then fun y => if y = n then some v else l.lookup y else fun y => l.lookup y) = _
    show _ = fun y => (bindLs kindOf r (if kindOf n = some .local then (n, v) :: l else l)).lookup y
    by_cases h : kindOf n = some .local
    · rw [if_pos h, if_pos h, lookup_push]; exact bindLs_is kindOf r _
    · rw [if_neg h, if_neg h]; exact bindLs_is kindOf r _
theorem bindL_is {kindOf : Str → Option NameKind} {binds fl : List (Str × Value)} (h : bindLs kindOf binds [] = fl) : bindL kindOf binds (fun _ => none) = fun y => fl.lookup y := by
  rw [← h]; exact bindLs_is kindOf binds []
end
local macro_rules | `(tactic| walk_at "enterV") => `(tactic| ((case ho => k_is); (case hcd => k_is); (case hkind => intro D; rfl); (case hnd => decide); (case hcl => intro L; rfl); (case hfl => exact fun L D => bindL_is rfl); (case c1 => rfl); (case c2 => rfl); (case c3 => rfl)))
section
open PySem PySem.W PyProof.Rows PySem.Calls Builtin
set_option Elab.async false
set_option maxRecDepth 100000
set_option pp.deepTerms false
set_option pp.maxSteps 1500
set_option linter.unusedVariables false
section
variable {prog : Program} {w : World} {κ : Type} [DecidableEq κ] {ek : EK prog w κ} {th : SetTh ek}
  {A : Around} {E : Value → Shared → Prop} {s s' s₁ : Shared} {R : Result → Shared → Prop} {x : Addr} {ks kb kl km : List κ} {k : κ} {v v2 : Value} {w0 : List Addr} {name : Str} {id T : String}
  {G : Array GenState} {O : OsState} {g base : Heap} {outer : List Env} {L a r l : Addr} {fl : List (Str × Value)} {news old upd rest foot : List (Addr × Obj)} {ob ob' : Obj} {f : Obj → List (Addr × Obj)} {o o' : Tob} {xs : Array Value} {m : Nat}
theorem lk_skip {a b : Str} {v : Value} {fl : List (Str × Value)} (h : (b == a) = false) : ((a, v) :: fl).lookup b = fl.lookup b := by rw [List.lookup_cons, h]
theorem iter_tup {D : Addr} {vs : List Value} {Q : Value → Shared → Prop} (ht : s.heap.get? D = some (tupO vs))
    (h : ∀ s' I, Fx s s' [] → s.heap.get? I = none → s'.heap.IsTupleIter I D 0 → Q (.ref I) s') : wpAny (model prog w) A (pyIter (.ref D)) Q E s :=
  wpAny_pyIter_tuple ⟨_, ht, rfl, _, rfl⟩ (h _ _ (Fx.pushed s _) (Heap.get?_none_of_le (Nat.le_refl _)) ⟨_, Heap.get?_push_size _ rfl, rfl, rfl⟩)
def Ops (th : SetTh ek) (h : Heap) (foot : List Addr) (vs : List Value) (kls : List (List κ)) : Prop :=
  All2 (fun v kl => ∃ as, OpK th h v kl as ∧ ∀ a ∈ as, a ∉ foot) vs kls
def addMany (ks : List κ) (kls : List (List κ)) : List κ := kls.foldl (fun ks kl => kl.foldl addK ks) ks
theorem c_update {vs : List Value} {kls : List (List κ)} (Gd : Gnd (KK w.params) base) (C : Site 63 A base outer s.heap) (OW : Own base outer s (o.ents x)) (hO : OS th s.heap o ks) (hops : Ops th s.heap ((o.ents x).map (·.1)) vs kls) (hvs : (∃ v, vs = [v]) ∨ ∃ v v2, vs = [v, v2])
    (h : ∀ s' o', Chg s s' ((o.ents x).map (·.1)) (o'.ents x) → OS th s'.heap o' (addMany ks kls) → R (.ok (.ret .none)) s') :
    codeAny (model prog w) A (.call (.ref 128) ⟨.ref x :: vs, []⟩) R s := by
  have XK : (Mine.hd.heap_39 w.params).In base ∧ PySem.Challenge.rw_eu0034_01 = PySem.Challenge.rw_eu0034_01 := ⟨Gd.inK, rfl⟩
  revert XK
  k_fill
  intro _
  refine' enterVX (K := Mine.hd.heap_39 w.params) (d := 62) (vs := vs) (binds := fun D => [("self", .ref x), ("iterables", .ref D)]) (fl := fun D => [("iterables", .ref D), ("self", .ref x)]) (cl := fun _ => []) Gd C (o.ents x) OW ?ho ?hcd ?hbind ?hkind ?hnd ?hcl ?hfl ?h ?c1 ?c2 ?c3
  walk_at "enterV"
  case hbind =>
    rcases hvs with ⟨v, rfl⟩ | ⟨v, v2, rfl⟩
    · exact BindsV.of_eq (k := fun t => pure [("self", .ref x), ("iterables", t)]) (by simp) rfl fun D => rfl
    · exact BindsV.of_eq (k := fun t => pure [("self", .ref x), ("iterables", t)]) (by simp) rfl fun D => rfl
  intro g L s₁ cells D hD Rm W I Y
  cases Y
  have X := I.kin Gd
  have A3 := Rm.ok3 (by decide)
  have Og := hO.mono (I.tupgO OW)
  have hg : All2 (fun v kl => ∃ as, OpK th g v kl as) vs kls := All2.imp (fun v kl z => by
    obtain ⟨as, z1, z2⟩ := z
    exact ⟨as, z1.move (fun a ha ob e => I.hid _ _ e (z2 a ha)) (I.tupgO OW)⟩) hops
  refine wpAny_execs_cons (wpAny_For (nameX_L W.fr rfl ?_))
  refine iter_tup (vs := vs) (W.get (a := D) (.head _)) fun s₂ I0 F₂ hI0 hit => ?_
  have hfr := W.fresh hI0
  have W2 := W.fx0 F₂
  have hlen : vs.toArray.size = kls.length := by rw [List.size_toArray]; exact All2.length hg
  have hDI : D ≠ I0 := hfr.2.2 _ (.head _)
  have lx : x ≠ L := (W.nw (x, o.obj) (.tail _ (.head _))).2.1
  have ll : o.l ≠ L := (W.nw (o.l, lstO o.xs o.m) (.tail _ (.tail _ (.head _)))).2.1
  have lD : D ≠ L := (W.nw (D, tupO vs) (.head _)).2.1
  have hnd := W.nd
  have xD : D ≠ x := fun q => by
    have := (List.nodup_cons.mp hnd).1
    exact this (by rw [q]; exact .head _)
  have lDl : D ≠ o.l := fun q => by
    have := (List.nodup_cons.mp hnd).1
    exact this (by rw [q]; exact .tail _ (.head _))
  refine for_walk (as := [L, x, o.l]) (Walks.tuple Rm.hand I0 D hDI vs.toArray) (fun i s' => ∃ fl o', Wd s.gens s.os g L s' fl ((D, tupO vs) :: o'.ents x) ∧ o'.l = o.l ∧ o'.dx = o.dx ∧ fl.lookup ("self" : Str) = some (.ref x) ∧ OS th s'.heap o' (addMany ks (kls.take i))) ?_ ?_ ?_ ?_ ⟨hit, _, W2.get (.head _), rfl, _, rfl⟩ ⟨_, o, W2, rfl, rfl, rfl, Og.mono W2.tg⟩
  · intro a ha hm
    rcases List.mem_cons.mp hm with rfl | hm
    · rcases List.mem_cons.mp ha with q | ha
      · exact hfr.2.1 q
      · rcases List.mem_cons.mp ha with q | ha
        · exact hfr.2.2 (x, o.obj) (.tail _ (.head _)) q.symm
        · exact hfr.2.2 (o.l, lstO o.xs o.m) (.tail _ (.tail _ (.head _))) (List.mem_singleton.mp ha).symm
    · rw [List.mem_singleton.mp hm] at ha
      rcases List.mem_cons.mp ha with q | ha
      · exact lD q
      · rcases List.mem_cons.mp ha with q | ha
        · exact xD q
        · exact lDl (List.mem_singleton.mp ha)
  · rintro i s' s'' ⟨fl, o', W', e1, e2, e3, O'⟩ st F'
    have W'' := W'.fxw F' (fun b hb => by
      rw [List.mem_singleton.mp hb]
      refine ⟨hfr.1, hfr.2.1, fun p hp => ?_⟩
      rcases List.mem_cons.mp hp with rfl | hp
      · exact hDI
      · rcases List.mem_cons.mp hp with rfl | hp
        · exact hfr.2.2 (x, o.obj) (.tail _ (.head _))
        · rcases List.mem_cons.mp hp with rfl | hp
          · show o'.l ≠ I0
            rw [e1]; exact hfr.2.2 (o.l, lstO o.xs o.m) (.tail _ (.tail _ (.head _)))
          · rw [List.mem_singleton.mp hp]
            show o'.dx ≠ I0
            rw [e2]; exact hfr.2.2 (o.dx, dictO0) (.tail _ (.tail _ (.tail _ (.head _)))))
    have T' : TupKept s'.heap s''.heap := F'.tup fun b hb => by
      rw [List.mem_singleton.mp hb]
      obtain ⟨oi, ei, ci, _⟩ := st.1
      exact ⟨oi, ei, by rw [ci]; decide⟩
    exact ⟨fl, o', W'', e1, e2, e3, O'.mono T'⟩
  · rintro i v s' hlt hv ⟨fl, o', W', e1, e2, e3, O'⟩
    obtain ⟨kl, hkl, as, hop⟩ := All2.get hg (show vs[i]? = some v by simpa using hv)
    refine store_W W' fun s₃ W3 F3 => ?_
    refine wpAny_execs_cons (wpAny_For (nameX_L W3.fr rfl ?_))
    obtain ⟨bs, hbs, hit⟩ := OpK.iterF Gd (site_W I.below W3 Rm rfl rfl (by decide)) (hop.now W3)
    refine hit.run _ _ _ (Fx.refl _ _) fun s₄ I1 fp wr P St F4 Fd hw hf => ?_
    have W4 := W3.fx0 F4
    have off : ∀ a, g.get? a = none → (∃ o, s₃.heap.get? a = some o) → a ∉ fp := fun a h1 h2 hm => by
      obtain ⟨o2, h2⟩ := h2
      rcases hf a hm with z | z
      · obtain ⟨o', e⟩ := hop.live a (hbs a z); rw [h1] at e; cases e
      · rw [h2] at z; cases z
    have hxn := W3.nw (x, o'.obj) (.tail _ (.head _))
    have hln := W3.nw (o'.l, lstO o'.xs o'.m) (.tail _ (.tail _ (.head _)))
    have offs : ∀ a ∈ [L, x, o.l], a ∉ fp := fun a ha => by
      rcases List.mem_cons.mp ha with rfl | ha
      · refine off _ ?_ ?_
        · cases q : g.get? a with
          | none => rfl
          | some ob => exact absurd (Nat.lt_of_lt_of_le (Heap.lt_size q) W3.fr.above) (Nat.lt_irrefl _)
        · obtain ⟨oL, _, _, hL, _⟩ := W3.fr.ns; exact ⟨oL, hL⟩
      · rcases List.mem_cons.mp ha with rfl | ha
        · exact off _ hxn.2.2 ⟨_, hxn.1⟩
        · rw [List.mem_singleton.mp ha, ← e1]; exact off _ hln.2.2 ⟨_, hln.1⟩
    have FO : Fx s' s₄ [L, x, o.l] := (F3.mono fun b hb => by rw [List.mem_singleton.mp hb]; exact .head _).trans (F4.mono fun b hb => by cases hb)
    have hwr : ∀ b ∈ wr, s₃.heap.get? b = none := fun b hb => (hw b hb).elim (fun q => by cases q) id
    refine for_feed (as := [L, x, o.l]) Fd Rm.hand (fun d s5 => TupKept s₄.heap s5.heap ∧ Fx s' s5 [L, x, o.l] ∧ ∃ fl' o2, Wd s.gens s.os g L s5 fl' ((D, tupO vs) :: o2.ents x) ∧ o2.l = o.l ∧ o2.dx = o.dx ∧ fl'.lookup ("self" : Str) = some (.ref x) ∧ OS th s5.heap o2 (d.foldl addK (addMany ks (kls.take i)))) offs
      (fun d s5 z => z.1) ?_ ?_ ?_ ⟨TupKept.refl _, FO, _, o', W4, e1, e2, (lk_skip (by decide)).trans e3, O'.mono ((W'.fxL F3).trans (nil_tup F4))⟩
    · rintro d s5 s6 ⟨t5, f5, fl', o2, W5, a1, a2, a3, O5⟩ F6 T6
      refine ⟨t5.trans T6, ⟨fun b ob e nb => F6.keep _ _ (f5.keep _ _ e nb) fun m => ?_, F6.gens.trans f5.gens, F6.os.trans f5.os⟩, fl', o2, W5.fxw F6 (fun b hb => ?_), a1, a2, a3, O5.mono T6⟩
      · have hb3 := hwr b m
        by_cases q : b = L
        · exact nb (by rw [q]; exact .head _)
        · rw [F3.keep _ _ e (by simpa using q)] at hb3; cases hb3
      · have z := W3.fresh (hwr b hb)
        refine ⟨z.1, z.2.1, fun p hp => ?_⟩
        rcases List.mem_cons.mp hp with rfl | hp
        · exact z.2.2 (D, tupO vs) (.head _)
        · rcases List.mem_cons.mp hp with rfl | hp
          · exact z.2.2 (x, o'.obj) (.tail _ (.head _))
          · rcases List.mem_cons.mp hp with rfl | hp
            · show o2.l ≠ b
              rw [a1, ← e1]; exact z.2.2 (o'.l, lstO o'.xs o'.m) (.tail _ (.tail _ (.head _)))
            · rw [List.mem_singleton.mp hp]
              show o2.dx ≠ b
              rw [a2, ← e2]; exact z.2.2 (o'.dx, dictO0) (.tail _ (.tail _ (.tail _ (.head _))))
    · rintro d k r v' s5 hsplit hk ⟨t5, f5, fl', o2, W5, a1, a2, a3, O5⟩
      refine store_W W5 fun s6 W6 F6 => ?_
      have T6 := W5.fxL F6
      have O6 := O5.mono T6
      have hk6 := ek.mono T6 hk
      have hself : (fun y => List.lookup y ((("element" : Str), v') :: fl')) "self" = some (.ref x) := (lk_skip (by decide)).trans a3
      have G6 : Fx s5 s6 [L, x, o.l] := F6.mono fun b hb => by rw [List.mem_singleton.mp hb]; exact .head _
      refine wpAny_execs_cons (wpAny_If (wpAny_isTrue_Compare1 (nameX_L W6.fr rfl (nameX_L W6.fr hself ?_))))
      refine notInOp_SO (th := th) A3 (W6.kin X) (O6.so (W6.get (a := x) (.tail _ (.head _)))) hk6 fun s7 K7 => wpAny_truthy_bool ?_
      have F7 : Fx s6 s7 [] := Fx.of_keeps K7 []
      have T7 := kp_tup K7
      have W7 := W6.fx0 F7
      have O7 := O6.mono T7
      have hk7 := ek.mono T7 hk6
      have G7 : Fx s5 s7 [L, x, o.l] := G6.trans (F7.mono fun b hb => by cases hb)
      by_cases hm : k ∈ d.foldl addK (addMany ks (kls.take i))
      · rw [if_neg (by simpa using hm)]
        refine wpAny_execs_nil (wpAny_execs_nil ⟨⟨t5.trans (T6.trans T7), f5.trans G7, _, o2, W7, a1, a2, hself, ?_⟩, G7⟩)
        rw [List.foldl_append, show List.foldl addK (d.foldl addK (addMany ks (kls.take i))) [k] = d.foldl addK (addMany ks (kls.take i)) from if_pos hm]
        exact O7
      · rw [if_pos (by simpa using hm)]
        refine wpAny_execs_cons (wpAny_Expr_any (methodCall_KW (selfList (o := o2) (x := x) W7 X (W7.there fun p hp => .tail _ hp) hself ?_)))
        refine listMethod (s := { s7 with toks := s7.toks + 1 }) (W7.get (a := o2.l) (.tail _ (.tail _ (.head _)))) PySem.F.slot_list_append PySem.F.type_list_append ?_
        refine callWith_method1 (args_cons (nameX_L W7.toks.fr rfl (args_nil ?_)))
        refine append_fx (s := { s7 with toks := s7.toks + 1 }) (xs := o2.xs) (m := o2.m) (W7.get (a := o2.l) (.tail _ (.tail _ (.head _)))) O7.lt fun s8 F8 e8 => ?_
        have W8 := W7.toks.fx1 (a := o2.l) (.tail (.tail .head)) F8 e8
        have T8 := F8.tup1 (W7.get (a := o2.l) (.tail _ (.tail _ (.head _)))) (nt_list _ _)
        have O8 := O7.mono T8
        have hk8 := ek.mono T8 hk7
        refine wpAny_execs_cons (wpAny_Expr_any (methodCall_KW (setName Gd W8 I.below.stays ?_)))
        refine @set_method _ _ _ _ _ _ "set.add" _ _ _ _ _ _ _ _ W8 X (f_set_add _) hi_add ?_
        refine callWith_method1 (args_cons (nameX_L W8.toks.fr hself (args_cons (nameX_L W8.toks.fr rfl (args_nil ?_)))))
        refine call_add (th := th) A3 (W8.toks.kin X) (o := o2.obj) (es := o2.es) (n := o2.n) (t := o2.t) (O8.so (W8.toks.get (a := x) (.tail _ (.head _)))) hk8 fun s9 es' n' t' F9 S9 => ?_
        have W9 := W8.toks.fx1 (a := x) (ob := o2.obj) (.tail .head) F9 S9.at_
        have T9 := F9.tup1 (W8.get (a := x) (.tail _ (.head _))) (nt_oset _ _ _ _ _)
        have G9 : Fx s5 s9 [L, x, o.l] := G7.trans (((show Fx s7 s8 [o2.l] from ⟨F8.keep, F8.gens, F8.os⟩).mono fun b hb => by rw [List.mem_singleton.mp hb, a1]; exact .tail _ (.tail _ (.head _))).trans ((show Fx s8 s9 [x] from ⟨F9.keep, F9.gens, F9.os⟩).mono fun b hb => by rw [List.mem_singleton.mp hb]; exact .tail _ (.head _)))
        refine wpAny_execs_nil (wpAny_execs_nil ⟨⟨t5.trans (T6.trans (T7.trans (T8.trans T9))), f5.trans G9, _, ⟨o2.dx, o2.l, es', n', t', o2.xs.push v', o2.m + 1⟩, W9, a1, a2, hself, ?_, ?_⟩, G9⟩)
        · rw [List.foldl_append]; exact S9.is
        · rw [List.foldl_append, show List.foldl addK (d.foldl addK (addMany ks (kls.take i))) [k] = d.foldl addK (addMany ks (kls.take i)) ++ [k] from if_neg hm]
          show ek.All s9.heap (o2.xs.push v').toList _
          rw [Array.toList_push]
          exact All2.app (O8.mono T9).row (.cons (ek.mono T9 hk8) .nil)
    · rintro s5 ⟨t5, f5, fl', o2, W5, a1, a2, a3, O5⟩
      refine wpAny_execs_nil ⟨⟨fl', o2, W5, a1, a2, a3, ?_⟩, f5⟩
      have : kls.take (i + 1) = kls.take i ++ [kl] := by rw [List.take_add_one, hkl]; rfl
      rw [this]
      unfold addMany
      rw [List.foldl_append]
      exact O5
  · rintro s' ⟨fl, o', W', e1, e2, e3, O'⟩
    refine wpAny_execs_nil (h s' o' (Chg.of_wd W' I.hid (.cons (.tail .head) (.cons (.tail .head) (.cons (.tail .head) .nil)))) ?_)
    rw [hlen, List.take_length] at O'
    exact O'
end
end
section
open PySem PySem.W PyProof.Rows PySem.Calls Builtin
set_option Elab.async false
set_option maxRecDepth 100000
set_option pp.deepTerms false
set_option pp.maxSteps 1500
set_option linter.unusedVariables false
section
variable {prog : Program} {w : World} {κ : Type} [DecidableEq κ] {ek : EK prog w κ} {th : SetTh ek}
  {A : Around} {E : Value → Shared → Prop} {s s' s₁ : Shared} {R : Result → Shared → Prop} {x : Addr} {ks kb kl km : List κ} {k : κ} {v v2 : Value} {w0 : List Addr} {name : Str} {id T : String}
  {G : Array GenState} {O : OsState} {g base : Heap} {outer : List Env} {L a r l : Addr} {fl : List (Str × Value)} {news old upd rest foot : List (Addr × Obj)} {ob ob' : Obj} {f : Obj → List (Addr × Obj)} {o o' : Tob} {xs : Array Value} {m : Nat}
theorem Wd.own {A : Around} {env : Env} {u : List (Addr × Obj)} (W : Wd G O g L s fl news) (B : Below A base outer g) (hf : env.frame = some L) (hu : ∀ p ∈ u, p ∈ news) (nd : (u.map (·.1)).Nodup) : Own base (env :: outer) s u := by
  refine ⟨fun p hp => W.get (hu p hp), nd, fun a ha => ?_⟩
  obtain ⟨p, hp, rfl⟩ := List.mem_map.mp ha
  have hn := W.nw p (hu p hp)
  refine ⟨?_, fun e he => ?_⟩
  · cases q : base.get? p.1 with
    | none => rfl
    | some ob => have := B.stays _ _ q; rw [hn.2.2] at this; cases this
  · rcases List.mem_cons.mp he with rfl | he
    · rw [hf]; intro q; exact hn.2.1 (Option.some.inj q).symm
    · intro q
      obtain ⟨_, ob, hob, _⟩ := B.frames.mem (List.mem_filterMap.mpr ⟨e, he, q⟩)
      rw [hn.2.2] at hob; cases hob
theorem Wd.ndO {rest : List (Addr × Obj)} (W : Wd G O g L s fl (o.ents x ++ rest)) : ((o.ents x).map (·.1)).Nodup := by
  have := W.nd
  rw [List.map_append] at this
  exact (List.nodup_append.mp this).1
theorem Ops.now {h : Heap} {foot foot' : List Addr} {vs : List Value} {kls : List (List κ)} (H : Ops th g foot vs kls) (W : Wd G O g L s fl news) (hf : ∀ a ∈ foot', g.get? a = none) : Ops th s.heap foot' vs kls :=
  All2.imp (fun v kl z => by
    obtain ⟨as, z1, _⟩ := z
    refine ⟨as, z1.now W, fun a ha m => ?_⟩
    obtain ⟨ob, e⟩ := z1.live a ha
    rw [hf a m] at e; cases e) H
theorem Ops.up0 {foot : List Addr} {vs : List Value} {kls : List (List κ)} {h h' : Heap} (H : Ops th h foot vs kls) (k : ∀ b o, h.get? b = some o → h'.get? b = some o) : Ops th h' foot vs kls :=
  All2.imp (fun v kl z => let ⟨as, z1, z2⟩ := z; ⟨as, z1.up k, z2⟩) H
section
variable (P : Params)
theorem k_update : findIn (KK P) (.ref 225) "update" = some (some (.ref 128)) := by kernel_rfl
theorem t_update : typeIn (KK P) (.ref 128) = some (.type "function") := by kernel_rfl
theorem keep128 : keepIn (KK P) (.ref 128) = true := by kernel_rfl
theorem k_union : findIn (KK P) (.ref 225) "union" = some (some (.ref 142)) := by kernel_rfl
theorem t_union : typeIn (KK P) (.ref 142) = some (.type "function") := by kernel_rfl
theorem keep142 : keepIn (KK P) (.ref 142) = true := by kernel_rfl
end
theorem c_ior (Gd : Gnd (KK w.params) base) (C : Site 64 A base outer s.heap) (OW : Own base outer s (o.ents x)) (hO : OS th s.heap o ks) (hops : Ops th s.heap ((o.ents x).map (·.1)) [v] [kl])
    (h : ∀ s' o', Chg s s' ((o.ents x).map (·.1)) (o'.ents x) → OS th s'.heap o' (kl.foldl addK ks) → R (.ok (.ret (.ref x))) s') :
    codeAny (model prog w) A (.call (.ref 135) ⟨[.ref x, v], []⟩) R s := by
  have XK : (Mine.hd.heap_39 w.params).In base ∧ PySem.Challenge.rw_eu0034_01 = PySem.Challenge.rw_eu0034_01 := ⟨Gd.inK, rfl⟩
  revert XK
  k_fill
  intro _
  refine' enter (K := Mine.hd.heap_39 w.params) (d := 63) (binds := [("self", .ref x), ("iterable", v)]) Gd C (o.ents x) OW ?ho ?hcd ?hbind ?hloc ?h ?hcell ?c1 ?c2 ?c3
  walk_at "enter"
  intro g L s₁ Rm W I
  have X := I.kin Gd
  have A3 := Rm.ok3 (by decide)
  have Og := hO.mono (I.tupgO OW)
  have og : Ops th g ((o.ents x).map (·.1)) [v] [kl] := All2.imp (fun v kl z => by
    obtain ⟨as, z1, z2⟩ := z
    exact ⟨as, z1.move (fun a ha ob e => I.hid _ _ e (z2 a ha)) (I.tupgO OW), z2⟩) hops
  refine wpAny_execs_cons (wpAny_Expr_any (methodCall_KW (nameX_L W.fr rfl ?_)))
  refine method_S (W.kin X) (W.there fun p hp => hp).inst (k_update _) (t_update _) ?_
  refine callWith_K X (keep128 _) (args_cons (nameX_L W.fr rfl (args_nil ⟨W.kin X, wpAny_call ?_⟩)))
  refine c_update (th := th) (vs := [v]) (kls := [kl]) Gd (site_W I.below W Rm rfl rfl (by decide)) (W.own I.below rfl (fun p hp => hp) W.nd) (Og.mono W.tg) (og.now (h := g) W fun a ha => ?_) (.inl ⟨v, rfl⟩) fun s₂ o₂ c O₂ => ?_
  · obtain ⟨p, hp, rfl⟩ := List.mem_map.mp ha
    exact (W.nw p hp).2.2
  have W2 := W.chg (old := o.ents x) Ext.self c
  refine wpAny_execs_cons (wpAny_Return_some (nameX_L W2.fr rfl ?_))
  exact h s₂ o₂ (Chg.of_wd W2 I.hid (.cons .head (.cons .head (.cons .head .nil)))) O₂
section
variable (P : Params)
theorem fo_update : findObj (KK P) 225 (some dictO0) "update" = some (.bind (.builtin "function.__get__") (.ref 128)) := by kernel_rfl
theorem fn_update : fnIn (KK P) 128 = true := by kernel_rfl
theorem ty_update : typeIn (KK P) (.ref 128) = some (.type "function") := by kernel_rfl
end
theorem get_methodS {Q : Value → Shared → Prop} {f : Addr} {expr : Bool} (X : (KK w.params).In s.heap) (I : InstAt s.heap x o.obj 225 (some dictO0)) (hf : findObj (KK w.params) 225 (some dictO0) name = some (.bind (.builtin "function.__get__") (.ref f))) (ht : typeIn (KK w.params) (.ref f) = some (.type "function"))
    (h : ∀ s' q, Fx s s' [] → s.heap.get? q = none → s'.heap.get? q = some (methodObj (.ref f) (.ref x)) → Q (.ref q) s') : wpAny (model prog w) A (getAttr (.ref x) name expr) Q E s :=
  get_bindS X I hf fun E' => wpAny_call (fn_get (s := { s with toks := s.toks + 1 }) X ht (handed_on rfl (h _ _ ⟨fun b o e _ => Heap.get?_push_of_some _ e, rfl, rfl⟩ (Heap.get?_none_of_le (Nat.le_refl _)) (Heap.get?_push_size _ rfl))))
theorem methodCall_star {env : Env} {oe e : Expr} {apos pos p : Pos} {Q : Value → Shared → Prop}
    (h : wpAny (model prog w) A (eval oe env) (fun ov s₁ => wpAny (model prog w) A (getAttr ov name true) (fun f s₂ => wpAny (model prog w) A (callWith pos f [] (backTo pos (starEach [.Starred e p] env)) []) Q E s₂) E s₁) E s)
    (he : eval (.Call (.Attribute oe name apos) [.Starred e p] [] pos) env = (do
      let ov ← eval oe env
      standAt apos.atName
      let fx ← holding [ov] (getAttr ov name true >>= fun f => pure (f, ([] : List Value)))
      let cp ← (pure pos : Sem Pos)
      callWith cp fx.1 fx.2 (backTo pos (starEach [.Starred e p] env)) []) := by with_unfolding_all rfl) :
    wpAny (model prog w) A (eval (.Call (.Attribute oe name apos) [.Starred e p] [] pos) env) Q E s := by
  rw [he]
  refine wpAny_bind (wpAny_mono h (fun ov s₁ h₁ => wpAny_bind (wpAny_standAt (wpAny_bind (wpAny_holding (wpAny_bind (wpAny_mono h₁ (fun f s₂ h₂ => wpAny_pure ?_) fun _ _ x => x)))))) fun _ _ x => x)
  exact wpAny_bind (wpAny_pure h₂)
theorem callWith_MS {env : Env} {pos p : Pos} {q f : Addr} {self : Value} {first : List Value} {e : Expr} {Q : Value → Shared → Prop} {K : Frag} (hf : fnIn K f = true)
    (h : wpAny (model prog w) A (eval e env) (fun v s₁ => StarOf (model prog w) A E v (fun vs s₂ => MethP K q f self s₂.heap ∧ wpAny (model prog w) A (call (.ref q) (first ++ vs)) Q E s₂) s₁) E s)
    (he : starEach [.Starred e p] env = [(true, eval e env)] := by rfl) :
    wpAny (model prog w) A (callWith pos (.ref q) first (backTo pos (starEach [.Starred e p] env)) []) Q E s := by
  rw [he]
  exact ks_call rfl (keeps_M hf) (ks_lone h)
theorem star_tup {D : Addr} {vs : List Value} {Q : List Value → Shared → Prop} (W : Wd G O g L s fl news) (hm : (D, tupO vs) ∈ news) (hz : vs.length ≤ 1000)
    (h : ∀ s', Wd G O g L s' fl news → (∀ b o, s.heap.get? b = some o → s'.heap.get? b = some o) → Q vs s') : StarOf (model prog w) A E (.ref D) Q s := by
  have D0 := W.get hm
  have hT : s.TypeIs (.ref D) "tuple" := ⟨_, D0, rfl⟩
  unfold StarOf notIterableAtAll
  refine wpAny_bind (wpAny_specialOf hT PySem.F.slot_tuple_iter.lookup (wpAny_pure ⟨rfl, ?_⟩))
  have z := wpAny_collect_seq (prog := prog) (w := w) (A := A) (E := E) (s := s) (Q := Q) D (.inr rfl) D0 rfl rfl (fun h' hk => h { s with heap := h' } (W.grow hk rfl rfl) hk) (by rw [sizeLine_eq]; simp; omega)
  exact z
theorem c_union {vs : List Value} {kls : List (List κ)} (Gd : Gnd (KK w.params) base) (C : Site 65 A base outer s.heap) (H : There s.heap x o) (hO : OS th s.heap o ks) (hops : Ops th s.heap [] vs kls) (hvs : (∃ v, vs = [v]) ∨ ∃ v v2, vs = [v, v2])
    (h : ∀ s' x' o', Chg s s' [] (o'.ents x') → OS th s'.heap o' (addMany ks kls) → R (.ok (.ret (.ref x'))) s') :
    codeAny (model prog w) A (.call (.ref 142) ⟨.ref x :: vs, []⟩) R s := by
  have XK : (Mine.hd.heap_39 w.params).In base ∧ PySem.Challenge.rw_eu0034_01 = PySem.Challenge.rw_eu0034_01 := ⟨Gd.inK, rfl⟩
  revert XK
  k_fill
  intro _
  refine' enterVX (K := Mine.hd.heap_39 w.params) (d := 64) (vs := vs) (binds := fun D => [("self", .ref x), ("other", .ref D)]) (fl := fun D => [("other", .ref D), ("self", .ref x)]) (cl := fun _ => []) Gd C [] Own.nil ?ho ?hcd ?hbind ?hkind ?hnd ?hcl ?hfl ?h ?c1 ?c2 ?c3
  walk_at "enterV"
  case hbind =>
    rcases hvs with ⟨v, rfl⟩ | ⟨v, v2, rfl⟩
    · exact BindsV.of_eq (k := fun t => pure [("self", .ref x), ("other", t)]) (by simp) rfl fun D => rfl
    · exact BindsV.of_eq (k := fun t => pure [("self", .ref x), ("other", t)]) (by simp) rfl fun D => rfl
  intro g L s₁ cells D hD Rm W I Y
  cases Y
  have X := I.kin Gd
  have A3 := Rm.ok3 (by decide)
  have up : ∀ b o, s.heap.get? b = some o → g.get? b = some o := fun b o e => I.hid b o e (by simp)
  have Hg : There g x o := H.up up
  have Og := hO.mono (TupKept.of up)
  have og := hops.up0 up
  refine wpAny_execs_cons (wpAny_Assign_Name (methodCall_KW (nameX_L W.fr rfl ?_)))
  refine method_S (W.kin X) (Hg.now W).inst (k_from_list _) (t_from_list _) ?_
  refine callWith_K X (keep51 _) (args_cons ?_)
  refine Call_ (bName (v := .type "list") Gd W I.below.stays (g_list _) (by kernel_rfl) ?_)
  refine callWith_type1 (args_cons (selfList W X (Hg.now W) rfl (args_nil ?_)))
  refine list_copy (s := { s₁ with toks := s₁.toks + 1 }) (Hg.now W).lst Og.lt fun s₂ r m' F₂ hn e₂ => args_nil ?_
  have W2 := W.toks.fxNew F₂ hn e₂
  refine ⟨W2.kin X, wpAny_call ?_⟩
  refine c_from_list (th := th) (xs := o.xs) (m := m') (kl := ks) Gd (site_W I.below W2 Rm rfl rfl (by decide)) e₂ (Og.mono W2.tg).row hO.set.nodup fun s₃ x' dx es n t c i => ?_
  have W3 := W2.chg (old := []) .nil c
  refine store_W W3 fun s₄ W4 F4 => ?_
  have T4 := W3.fxL F4
  have O4 : OS th s₄.heap ⟨dx, r, es, n, t, o.xs, m'⟩ ks := ⟨i.mono T4, (Og.mono W4.tg).row⟩
  have hu : ∀ p ∈ Tob.ents ⟨dx, r, es, n, t, o.xs, m'⟩ x', p ∈ [(x', osetO dx es n t r), (dx, dictO0)] ++ (r, lstO o.xs m') :: ([] ++ [(D, tupO vs)]) := fun p hp => by
    rcases List.mem_cons.mp hp with rfl | hp
    · exact .head _
    · rcases List.mem_cons.mp hp with rfl | hp
      · exact .tail _ (.tail _ (.head _))
      · rw [List.mem_singleton.mp hp]; exact .tail _ (.head _)
  refine wpAny_execs_cons (wpAny_Expr_any (methodCall_star (nameX_L W4.fr rfl ?_)))
  refine get_methodS (o := ⟨dx, r, es, n, t, o.xs, m'⟩) (W4.kin X) (W4.there (o := ⟨dx, r, es, n, t, o.xs, m'⟩) (x := x') hu).inst (fo_update _) (ty_update _) fun s₅ q F5 hq eq => ?_
  have W5 := W4.fxNew F5 hq eq
  refine callWith_MS (K := KK w.params) (f := 128) (self := .ref x') (first := []) (fn_update _) (nameX_L W5.fr rfl ?_)
  refine star_tup W5 (.tail _ (.tail _ (.tail _ (.tail _ (.head _))))) (by rcases hvs with ⟨v, rfl⟩ | ⟨v, v2, rfl⟩ <;> simp) fun s₆ W6 k6 => ⟨⟨W6.get (.head _), W6.kin X⟩, ?_⟩
  refine wpAny_call (method_call (W6.get (.head _)) ?_)
  have O6 : OS th s₆.heap ⟨dx, r, es, n, t, o.xs, m'⟩ ks := ⟨O4.set.mono ((nil_tup F5).trans (TupKept.of k6)), (Og.mono W6.tg).row⟩
  have hu6 : ∀ p ∈ Tob.ents ⟨dx, r, es, n, t, o.xs, m'⟩ x', p ∈ (q, methodObj (.ref 128) (.ref x')) :: ([(x', osetO dx es n t r), (dx, dictO0)] ++ (r, lstO o.xs m') :: ([] ++ [(D, tupO vs)])) := fun p hp => .tail _ (hu p hp)
  have nd6 : ((Tob.ents ⟨dx, r, es, n, t, o.xs, m'⟩ x').map (·.1)).Nodup := by
    have z := (List.nodup_cons.mp W6.nd).2
    simp only [List.map_cons, List.map_nil, List.cons_append, List.nil_append, List.map_append, List.nodup_cons, List.mem_cons, List.not_mem_nil, or_false, not_or] at z ⊢
    exact ⟨⟨z.1.2.1, z.1.1⟩, fun q => z.2.1.1 q.symm, by simp, List.nodup_nil⟩
  refine c_update (th := th) (vs := vs) (kls := kls) Gd (site_W I.below W6 Rm rfl rfl (by decide)) (W6.own I.below rfl hu6 nd6) O6 (og.now (h := g) W6 fun a ha => ?_) hvs fun s₇ o₇ c₇ O₇ => ?_
  · obtain ⟨p, hp, rfl⟩ := List.mem_map.mp ha
    exact (W6.nw p (hu6 p hp)).2.2
  have W7 := W6.chg (old := Tob.ents ⟨dx, r, es, n, t, o.xs, m'⟩ x') (.cons (.tail .head) (.cons (.tail (.tail .head)) (.cons (.tail .head) .nil))) c₇
  refine wpAny_execs_cons (wpAny_Return_some (nameX_L W7.fr rfl ?_))
  exact h s₇ x' o₇ (Chg.of_wd W7 I.hid (.cons .head (.cons .head (.cons .head .nil)))) O₇
end
end
section
open PySem PySem.W PyProof.Rows PySem.Calls Builtin
set_option Elab.async false
set_option maxRecDepth 100000
set_option pp.deepTerms false
set_option pp.maxSteps 1500
set_option linter.unusedVariables false
section
variable {prog : Program} {w : World} {κ : Type} [DecidableEq κ] {ek : EK prog w κ} {th : SetTh ek}
  {A : Around} {E : Value → Shared → Prop} {s s' s₁ : Shared} {R : Result → Shared → Prop} {x : Addr} {ks kb kl km : List κ} {k : κ} {v v2 : Value} {w0 : List Addr} {name : Str} {id T : String}
  {G : Array GenState} {O : OsState} {g base : Heap} {outer : List Env} {L a r l : Addr} {fl : List (Str × Value)} {news old upd rest foot : List (Addr × Obj)} {ob ob' : Obj} {f : Obj → List (Addr × Obj)} {o o' : Tob} {xs : Array Value} {m : Nat}
theorem c_or (Gd : Gnd (KK w.params) base) (C : Site 67 A base outer s.heap) (H : There s.heap x o) (hO : OS th s.heap o ks) (hops : Ops th s.heap [] [v] [kl])
    (h : ∀ s' x' o', Chg s s' [] (o'.ents x') → OS th s'.heap o' (kl.foldl addK ks) → R (.ok (.ret (.ref x'))) s') :
    codeAny (model prog w) A (.call (.ref 149) ⟨[.ref x, v], []⟩) R s := by
  have XK : (Mine.hd.heap_39 w.params).In base ∧ PySem.Challenge.rw_eu0034_01 = PySem.Challenge.rw_eu0034_01 := ⟨Gd.inK, rfl⟩
  revert XK
  k_fill
  intro _
  refine' enter (K := Mine.hd.heap_39 w.params) (d := 66) (binds := [("self", .ref x), ("other", v)]) Gd C [] Own.nil ?ho ?hcd ?hbind ?hloc ?h ?hcell ?c1 ?c2 ?c3
  walk_at "enter"
  intro g L s₁ Rm W I
  have X := I.kin Gd
  have A3 := Rm.ok3 (by decide)
  have up : ∀ b o, s.heap.get? b = some o → g.get? b = some o := fun b o e => I.hid b o e (by simp)
  have Hg : There g x o := H.up up
  have Og := hO.mono (TupKept.of up)
  have og := hops.up0 up
  refine wpAny_execs_cons (wpAny_Return_some (methodCall_KW (nameX_L W.fr rfl ?_)))
  refine method_S (W.kin X) (Hg.now W).inst (k_union _) (t_union _) ?_
  refine callWith_K X (keep142 _) (args_cons (nameX_L W.fr rfl (args_nil ⟨W.kin X, wpAny_call ?_⟩)))
  refine c_union (th := th) (vs := [v]) (kls := [kl]) Gd (site_W I.below W Rm rfl rfl (by decide)) (Hg.now W) (Og.mono W.tg) (og.up0 W.keeps) (.inl ⟨v, rfl⟩) fun s₂ x' o' c O' => ?_
  have W2 := W.chg (old := []) .nil c
  exact h s₂ x' o' (Chg.of_wd W2 I.hid (.cons .head (.cons .head (.cons .head .nil)))) O'
theorem c_plus (Gd : Gnd (KK w.params) base) (C : Site 67 A base outer s.heap) (H : There s.heap x o) (hO : OS th s.heap o ks) (hops : Ops th s.heap [] [v] [kl])
    (h : ∀ s' x' o', Chg s s' [] (o'.ents x') → OS th s'.heap o' (kl.foldl addK ks) → R (.ok (.ret (.ref x'))) s') :
    codeAny (model prog w) A (.call (.ref 114) ⟨[.ref x, v], []⟩) R s := by
  have XK : (Mine.hd.heap_39 w.params).In base ∧ PySem.Challenge.rw_eu0034_01 = PySem.Challenge.rw_eu0034_01 := ⟨Gd.inK, rfl⟩
  revert XK
  k_fill
  intro _
  refine' enter (K := Mine.hd.heap_39 w.params) (d := 66) (binds := [("self", .ref x), ("other", v)]) Gd C [] Own.nil ?ho ?hcd ?hbind ?hloc ?h ?hcell ?c1 ?c2 ?c3
  walk_at "enter"
  intro g L s₁ Rm W I
  have X := I.kin Gd
  have A3 := Rm.ok3 (by decide)
  have up : ∀ b o, s.heap.get? b = some o → g.get? b = some o := fun b o e => I.hid b o e (by simp)
  have Hg : There g x o := H.up up
  have Og := hO.mono (TupKept.of up)
  have og := hops.up0 up
  refine wpAny_execs_cons (wpAny_Return_some (methodCall_KW (nameX_L W.fr rfl ?_)))
  refine method_S (W.kin X) (Hg.now W).inst (k_union _) (t_union _) ?_
  refine callWith_K X (keep142 _) (args_cons (nameX_L W.fr rfl (args_nil ⟨W.kin X, wpAny_call ?_⟩)))
  refine c_union (th := th) (vs := [v]) (kls := [kl]) Gd (site_W I.below W Rm rfl rfl (by decide)) (Hg.now W) (Og.mono W.tg) (og.up0 W.keeps) (.inl ⟨v, rfl⟩) fun s₂ x' o' c O' => ?_
  have W2 := W.chg (old := []) .nil c
  exact h s₂ x' o' (Chg.of_wd W2 I.hid (.cons .head (.cons .head (.cons .head .nil)))) O'
theorem cells_one {cm : Str → Option Value} {n : Str} {c : Addr} {cells : List (Addr × Obj)} (Y : CellsAre cm [(n, c)] cells) : ∃ ob, cells = [(c, ob)] ∧ ob.data = .cell (cm n) := by
  cases Y with
  | cons h r => cases r; exact ⟨_, rfl, h⟩
theorem set_attr {Q : Value → Shared → Prop} (X : (KK w.params).In s.heap) (e : findCls (KK w.params) (.type "set") (.type "type") name = some (.val (.builtin id))) (hh : handedIn (.builtin id) = true)
    (h : Q (.builtin id) { s with toks := s.toks + 1 }) : wpAny (model prog w) A (getAttr (.type "set") name true) Q E s := by
  have hstub : opaqueClassAbove (.type "set") = pure none := by unfold opaqueClassAbove; dsimp only; rw [stub_set]; rfl
  have L0 : Looks (model prog w) s.heap (typeOf (.type "set")) (.type "type") := Looks.of_pure meta_set
  have hg : findIn (KK w.params) (.type "type") "__getattribute__" = some (some (.builtin "type.__getattribute__")) := by kernel_rfl
  have LO : Looks (model prog w) s.heap (opaqueClassAbove (.type "set")) none := Looks.of_pure hstub
  exact cls_open X LO L0 hg (looks_hook X (r := none) (by rfl)) (by show subIn _ _ _ = _; rfl) e
    (wpAny_pure (by show wpAny _ _ (handedOut _) _ _ _; rw [handedOut_of hh]; exact wpAny_pure h))
theorem Fx.tupC {c : Addr} {co : Obj} {v₀ : Option Value} (F : Fx s s' [c]) (e : s.heap.get? c = some co) (hd : co.data = .cell v₀) : TupKept s.heap s'.heap := fun b ob eb _ n => by
  by_cases q : b = c
  · rw [q, e] at eb; cases eb
    obtain ⟨ys, j, z⟩ := n
    rw [hd] at z; cases z
  · exact F.keep _ _ eb (by simpa using q)
theorem store_C {Q : Unit → Shared → Prop} {qual y : Str} {sc : Scope} {fa c : Addr} {cdv : Value} {cl : List (Str × Addr)} {co : Obj} {v₀ : Option Value} (W : Wd G O g L s fl news) (P : Rep c co news f) (hc : cl.lookup y = some c) (hd : co.data = .cell v₀)
    (h : ∀ s' co', Wd G O g L s' fl (f co') → Fx s s' [c] → co'.data = .cell (some v) → Q () s')
    (hk : sc.kind = .function := by rfl) (hx : (envX qual sc L fa cdv cl).kindOf y = some .cell := by rfl) : wpAny (model prog w) A (storeName (envX qual sc L fa cdv cl) y v) Q E s := by
  have ho := W.get P.mem
  refine wpAny_storeName_cell hk hx hc ⟨co, ho, hd⟩ fun h' hv hs => ?_
  obtain ⟨co', ho', hd'⟩ := hv
  have F : Fx s { s with heap := h' } [c] := ⟨fun b ob e nb => (hs.2 b (by simpa using nb)).trans e, rfl, rfl⟩
  exact h _ co' (W.fx1 P F ho') F hd'
theorem flt2 (a b ks : List κ) : (ks.filter fun k => decide (k ∈ a)).filter (fun k => decide (k ∈ b)) = ks.filter fun k => decide (∀ kl ∈ [a, b], k ∈ kl) := by
  rw [List.filter_filter]
  refine List.filter_congr fun k _ => ?_
  by_cases h1 : k ∈ a <;> by_cases h2 : k ∈ b <;> simp [h1, h2]
theorem flt2n (a b ks : List κ) : (ks.filter fun k => decide (k ∉ a)).filter (fun k => decide (k ∉ b)) = ks.filter fun k => decide (∀ kl ∈ [a, b], k ∉ kl) := by
  rw [List.filter_filter]
  refine List.filter_congr fun k _ => ?_
  by_cases h1 : k ∈ a <;> by_cases h2 : k ∈ b <;> simp [h1, h2]
theorem inter_any {vs : List Value} {kls : List (List κ)} {Q : Value → Shared → Prop} {ob : Obj} {es : Array (Int × Value)} {n : Nat} {t : SetTable} (hA : AOk3 A) (X : (KK w.params).In s.heap) (S : SO th s.heap x ob es n t ks) (hops : Ops th s.heap [] vs kls) (hvs : (∃ v, vs = [v]) ∨ ∃ v v2, vs = [v, v2])
    (h : ∀ s' r er nr tr, Fx s s' [] → s.heap.get? r = none → SO th s'.heap r (setO er nr tr) er nr tr (ks.filter fun k => decide (∀ kl ∈ kls, k ∈ kl)) → Q (.ref r) s') :
    wpAny (model prog w) A (call (.builtin "set.intersection") (.ref x :: vs)) Q E s := by
  rcases hvs with ⟨v, rfl⟩ | ⟨v, v2, rfl⟩
  · cases hops with
    | cons a b =>
      cases b
      obtain ⟨as, op, _⟩ := a
      refine ret_inter1 (th := th) hA X S (op.opd _) fun s' r er nr tr F tk hr S' => h s' r er nr tr F hr ?_
      simpa using S'
  · cases hops with
    | cons a b =>
      cases b with
      | cons b c =>
        cases c
        obtain ⟨as, op, _⟩ := a
        obtain ⟨bs, op2, _⟩ := b
        refine ret_inter2 (th := th) hA X S (op.opd _) (fun s' F => (op2.up fun b ob e => F.keep _ _ e (by simp)).opd _) fun s' r er nr tr F hr S' => h s' r er nr tr F hr ?_
        rwa [flt2] at S'
theorem diff_any {vs : List Value} {kls : List (List κ)} {Q : Value → Shared → Prop} {ob : Obj} {es : Array (Int × Value)} {n : Nat} {t : SetTable} (hA : AOk3 A) (X : (KK w.params).In s.heap) (S : SO th s.heap x ob es n t ks) (hops : Ops th s.heap [] vs kls) (hvs : (∃ v, vs = [v]) ∨ ∃ v v2, vs = [v, v2])
    (h : ∀ s' r er nr tr, Fx s s' [] → s.heap.get? r = none → SO th s'.heap r (setO er nr tr) er nr tr (ks.filter fun k => decide (∀ kl ∈ kls, k ∉ kl)) → Q (.ref r) s') :
    wpAny (model prog w) A (call (.builtin "set.difference") (.ref x :: vs)) Q E s := by
  rcases hvs with ⟨v, rfl⟩ | ⟨v, v2, rfl⟩
  · cases hops with
    | cons a b =>
      cases b
      obtain ⟨as, op, _⟩ := a
      refine ret_diff1 (th := th) hA X S (op.opd _) fun s' r er nr tr F tk hr S' => h s' r er nr tr F hr ?_
      simpa using S'
  · cases hops with
    | cons a b =>
      cases b with
      | cons b c =>
        cases c
        obtain ⟨as, op, _⟩ := a
        obtain ⟨bs, op2, _⟩ := b
        refine ret_diff2 (th := th) hA X S (op.opd _) (fun s' F => (op2.up fun b ob e => F.keep _ _ e (by simp)).opd _) fun s' r er nr tr F hr S' => h s' r er nr tr F hr ?_
        rwa [flt2n] at S'
theorem methodCall_star2 {env : Env} {oe e0 e : Expr} {apos pos p : Pos} {Q : Value → Shared → Prop}
    (h : wpAny (model prog w) A (eval oe env) (fun ov s₁ => wpAny (model prog w) A (getAttr ov name true) (fun f s₂ => wpAny (model prog w) A (callWith pos f [] (backTo pos (starEach [e0, .Starred e p] env)) []) Q E s₂) E s₁) E s)
    (he : eval (.Call (.Attribute oe name apos) [e0, .Starred e p] [] pos) env = (do
      let ov ← eval oe env
      standAt apos.atName
      let fx ← holding [ov] (getAttr ov name true >>= fun f => pure (f, ([] : List Value)))
      let cp ← (pure pos : Sem Pos)
      callWith cp fx.1 fx.2 (backTo pos (starEach [e0, .Starred e p] env)) []) := by with_unfolding_all rfl) :
    wpAny (model prog w) A (eval (.Call (.Attribute oe name apos) [e0, .Starred e p] [] pos) env) Q E s := by
  rw [he]
  refine wpAny_bind (wpAny_mono h (fun ov s₁ h₁ => wpAny_bind (wpAny_standAt (wpAny_bind (wpAny_holding (wpAny_bind (wpAny_mono h₁ (fun f s₂ h₂ => wpAny_pure ?_) fun _ _ x => x)))))) fun _ _ x => x)
  exact wpAny_bind (wpAny_pure h₂)
theorem callWith_BS2 {env : Env} {pos p : Pos} {e0 e : Expr} {Q : Value → Shared → Prop}
    (h : wpAny (model prog w) A (spliced (backTo pos (starEach [e0, .Starred e p] env))) (fun vs s₁ => wpAny (model prog w) A (call (.builtin id) vs) Q E s₁) E s)
    (he : starEach [e0, .Starred e p] env = (false, eval e0 env) :: starEach [.Starred e p] env := by rfl) (hst : (backTo pos (starEach [.Starred e p] env)).any (·.1) = true := by rfl) :
    wpAny (model prog w) A (callWith pos (.builtin id) [] (backTo pos (starEach [e0, .Starred e p] env)) []) Q E s := by
  rw [he] at h ⊢
  exact ks_call (P := fun _ => True) (by show (false || (backTo pos (starEach [.Starred e p] env)).any (·.1)) = true; rw [hst]; rfl) (fun h _ => ⟨.machine, .inr (.inl rfl), Looks.of_pure rfl⟩) (evalArgs_plain (wpAny_mono h (fun vs s₁ z => ⟨trivial, z⟩) fun _ _ z => z))
theorem c_inter {vs : List Value} {kls : List (List κ)} (Gd : Gnd (KK w.params) base) (C : Site 65 A base outer s.heap) (H : There s.heap x o) (hO : OS th s.heap o ks) (hops : Ops th s.heap [] vs kls) (hvs : (∃ v, vs = [v]) ∨ ∃ v v2, vs = [v, v2])
    (h : ∀ s' x' o', Chg s s' [] (o'.ents x') → OS th s'.heap o' (ks.filter fun k => decide (∀ kl ∈ kls, k ∈ kl)) → R (.ok (.ret (.ref x'))) s') :
    codeAny (model prog w) A (.call (.ref 154) ⟨.ref x :: vs, []⟩) R s := by
  have XK : (Mine.hd.heap_39 w.params).In base ∧ PySem.Challenge.rw_eu0034_01 = PySem.Challenge.rw_eu0034_01 := ⟨Gd.inK, rfl⟩
  revert XK
  k_fill
  intro _
  refine' enterVX (K := Mine.hd.heap_39 w.params) (d := 64) (vs := vs) (binds := fun D => [("self", .ref x), ("other", .ref D)]) (fl := fun D => [("other", .ref D), ("self", .ref x)]) (cl := fun L => [("other_set", L + 1)]) Gd C [] Own.nil ?ho ?hcd ?hbind ?hkind ?hnd ?hcl ?hfl ?h ?c1 ?c2 ?c3
  walk_at "enterV"
  case hbind =>
    rcases hvs with ⟨v, rfl⟩ | ⟨v, v2, rfl⟩
    · exact BindsV.of_eq (k := fun t => pure [("self", .ref x), ("other", t)]) (by simp) rfl fun D => rfl
    · exact BindsV.of_eq (k := fun t => pure [("self", .ref x), ("other", t)]) (by simp) rfl fun D => rfl
  intro g L s₁ cells D hD Rm W I Y
  obtain ⟨co, rfl, hco⟩ := cells_one Y
  have X := I.kin Gd
  have A3 := Rm.ok3 (by decide)
  have up : ∀ b o, s.heap.get? b = some o → g.get? b = some o := fun b o e => I.hid b o e (by simp)
  have Hg : There g x o := H.up up
  have Og := hO.mono (TupKept.of up)
  have og := hops.up0 up
  refine wpAny_execs_cons (wpAny_Assign_Name (methodCall_star2 (setName Gd W I.below.stays ?_)))
  refine set_attr (id := "set.intersection") (W.kin X) (f_set_inter _) hi_inter ?_
  have W1 := W.toks (t := s₁.toks + 1)
  refine callWith_BS2 (args_cons (nameX_L W1.fr rfl (items_star (nameX_L W1.fr rfl ?_))))
  refine star_tup W1 (.tail _ (.head _)) (by rcases hvs with ⟨v, rfl⟩ | ⟨v, v2, rfl⟩ <;> simp) fun s₂ W2 k2 => args_nil ?_
  rw [List.append_nil]
  refine inter_any (th := th) A3 (W2.kin X) ((Og.mono W2.tg).sot (Hg.now W2)) (og.up0 W2.keeps) hvs fun s₃ r er nr tr F3 hr S3 => ?_
  have W3 := W2.fxNew F3 hr S3.at_
  refine store_C W3 (.tail .head) rfl hco fun s₄ co' W4 F4 hco' => ?_
  have S4 : SO th s₄.heap r (setO er nr tr) er nr tr (ks.filter fun k => decide (∀ kl ∈ kls, k ∈ kl)) := S3.kept (W4.get (.head _)) (F4.tupC (W3.get (.tail _ (.head _))) hco)
  refine wpAny_execs_cons (wpAny_Return_some (methodCall_KW (nameX_L W4.fr rfl ?_)))
  refine method_S (W4.kin X) (Hg.now W4).inst (k_from_list _) (t_from_list _) ?_
  refine callWith_K X (keep51 _) (args_cons ?_)
  refine comp_filter (ek := ek) (kl := ks) (cl := [("other_set", L + 1)]) (fun k => decide (k ∈ ks.filter fun k => decide (∀ kl ∈ kls, k ∈ kl))) rfl (by decide) rfl (by decide) rfl (by decide) (selfList W4 X (Hg.now W4) rfl ?_) Rm.hand
  have O4 := Og.mono W4.tg
  refine (iterF_list (ek := ek) (s := { s₄ with toks := s₄.toks + 1 }) (Hg.now W4).lst O4.row).run _ _ _ (Fx.refl _ _) fun s₅ I0 fp wr P St F5 Fd hw hf => ⟨I0, fp, wr, P, St, rfl, Fd, by have := hO.small; omega, fun b hb => (Fd.noSet b hb).elim fun ob z => Heap.lt_size z.1, ?_, ?_⟩
  · intro C s₆ m₆ v k E' hns hm hkp hisk
    have kp : ∀ b ob, s₄.heap.get? b = some ob → s₆.heap.get? b = some ob := fun b ob e => hkp b ob (fun m => (hw b m).elim (fun q => by cases q) fun q => by rw [show s₄.heap.get? b = none from q] at e; cases e) (F5.keep _ _ e (by simp))
    refine wpAny_isTrue_Compare1 (wpAny_Name (wpAny_loadName_local rfl rfl hns hm ?_) rfl)
    refine wpAny_Name (wpAny_loadName_cell rfl rfl rfl ⟨co', kp _ _ (W4.get (.tail _ (.head _))), hco'⟩ ?_) rfl
    refine inOp_SO (th := th) A3 ((W4.kin X).keeps kp) (S4.kept (kp _ _ S4.at_) (TupKept.of kp)) hisk fun s₇ K7 => wpAny_truthy_bool ⟨rfl, K7⟩
  · intro s₆ D' xs' m' F6 hD' e6 a6
    have FA : Fx s₄ s₆ [] := ⟨fun b ob e _ => F6.keep _ _ (F5.keep _ _ e (by simp)) (fun m => (hw b m).elim (fun q => by cases q) (fun q => by rw [show s₄.heap.get? b = none from q] at e; cases e)), F6.gens.trans F5.gens, F6.os.trans F5.os⟩
    have hDn : s₄.heap.get? D' = none := by
      cases q : s₄.heap.get? D' with
      | none => rfl
      | some ob => rw [F5.keep _ _ q (by simp)] at hD'; cases hD'
    have W6 := W4.fxNew FA hDn e6
    refine args_nil ⟨W6.kin X, wpAny_call ?_⟩
    refine c_from_list (th := th) Gd (site_W I.below W6 Rm rfl rfl (by decide)) e6 a6 (hO.set.nodup.filter _) fun s₇ x' dx es n t c i => ?_
    have W7 := W6.chg (old := []) .nil c
    refine h s₇ x' ⟨dx, D', es, n, t, xs', m'⟩ (Chg.of_wd W7 I.hid (.cons .head (.cons (.tail .head) (.cons .head .nil)))) ?_
    have e : (ks.filter fun k => decide (k ∈ ks.filter fun k => decide (∀ kl ∈ kls, k ∈ kl))) = ks.filter fun k => decide (∀ kl ∈ kls, k ∈ kl) := List.filter_congr fun k hk => by simp [hk]
    rw [← e]
    exact ⟨i, a6.mono (nil_tup c.fx)⟩
theorem c_diff {vs : List Value} {kls : List (List κ)} (Gd : Gnd (KK w.params) base) (C : Site 65 A base outer s.heap) (H : There s.heap x o) (hO : OS th s.heap o ks) (hops : Ops th s.heap [] vs kls) (hvs : (∃ v, vs = [v]) ∨ ∃ v v2, vs = [v, v2])
    (h : ∀ s' x' o', Chg s s' [] (o'.ents x') → OS th s'.heap o' (ks.filter fun k => decide (∀ kl ∈ kls, k ∉ kl)) → R (.ok (.ret (.ref x'))) s') :
    codeAny (model prog w) A (.call (.ref 178) ⟨.ref x :: vs, []⟩) R s := by
  have XK : (Mine.hd.heap_39 w.params).In base ∧ PySem.Challenge.rw_eu0034_01 = PySem.Challenge.rw_eu0034_01 := ⟨Gd.inK, rfl⟩
  revert XK
  k_fill
  intro _
  refine' enterVX (K := Mine.hd.heap_39 w.params) (d := 64) (vs := vs) (binds := fun D => [("self", .ref x), ("other", .ref D)]) (fl := fun D => [("other", .ref D), ("self", .ref x)]) (cl := fun L => [("other_set", L + 1)]) Gd C [] Own.nil ?ho ?hcd ?hbind ?hkind ?hnd ?hcl ?hfl ?h ?c1 ?c2 ?c3
  walk_at "enterV"
  case hbind =>
    rcases hvs with ⟨v, rfl⟩ | ⟨v, v2, rfl⟩
    · exact BindsV.of_eq (k := fun t => pure [("self", .ref x), ("other", t)]) (by simp) rfl fun D => rfl
    · exact BindsV.of_eq (k := fun t => pure [("self", .ref x), ("other", t)]) (by simp) rfl fun D => rfl
  intro g L s₁ cells D hD Rm W I Y
  obtain ⟨co, rfl, hco⟩ := cells_one Y
  have X := I.kin Gd
  have A3 := Rm.ok3 (by decide)
  have up : ∀ b o, s.heap.get? b = some o → g.get? b = some o := fun b o e => I.hid b o e (by simp)
  have Hg : There g x o := H.up up
  have Og := hO.mono (TupKept.of up)
  have og := hops.up0 up
  refine wpAny_execs_cons (wpAny_Assign_Name (methodCall_star2 (setName Gd W I.below.stays ?_)))
  refine set_attr (id := "set.difference") (W.kin X) (f_set_diff _) hi_diff ?_
  have W1 := W.toks (t := s₁.toks + 1)
  refine callWith_BS2 (args_cons (nameX_L W1.fr rfl (items_star (nameX_L W1.fr rfl ?_))))
  refine star_tup W1 (.tail _ (.head _)) (by rcases hvs with ⟨v, rfl⟩ | ⟨v, v2, rfl⟩ <;> simp) fun s₂ W2 k2 => args_nil ?_
  rw [List.append_nil]
  refine diff_any (th := th) A3 (W2.kin X) ((Og.mono W2.tg).sot (Hg.now W2)) (og.up0 W2.keeps) hvs fun s₃ r er nr tr F3 hr S3 => ?_
  have W3 := W2.fxNew F3 hr S3.at_
  refine store_C W3 (.tail .head) rfl hco fun s₄ co' W4 F4 hco' => ?_
  have S4 : SO th s₄.heap r (setO er nr tr) er nr tr (ks.filter fun k => decide (∀ kl ∈ kls, k ∉ kl)) := S3.kept (W4.get (.head _)) (F4.tupC (W3.get (.tail _ (.head _))) hco)
  refine wpAny_execs_cons (wpAny_Return_some (methodCall_KW (nameX_L W4.fr rfl ?_)))
  refine method_S (W4.kin X) (Hg.now W4).inst (k_from_list _) (t_from_list _) ?_
  refine callWith_K X (keep51 _) (args_cons ?_)
  refine comp_filter (ek := ek) (kl := ks) (cl := [("other_set", L + 1)]) (fun k => decide (k ∈ ks.filter fun k => decide (∀ kl ∈ kls, k ∉ kl))) rfl (by decide) rfl (by decide) rfl (by decide) (selfList W4 X (Hg.now W4) rfl ?_) Rm.hand
  have O4 := Og.mono W4.tg
  refine (iterF_list (ek := ek) (s := { s₄ with toks := s₄.toks + 1 }) (Hg.now W4).lst O4.row).run _ _ _ (Fx.refl _ _) fun s₅ I0 fp wr P St F5 Fd hw hf => ⟨I0, fp, wr, P, St, rfl, Fd, by have := hO.small; omega, fun b hb => (Fd.noSet b hb).elim fun ob z => Heap.lt_size z.1, ?_, ?_⟩
  · intro C s₆ m₆ v k E' hns hm hkp hisk
    have kp : ∀ b ob, s₄.heap.get? b = some ob → s₆.heap.get? b = some ob := fun b ob e => hkp b ob (fun m => (hw b m).elim (fun q => by cases q) fun q => by rw [show s₄.heap.get? b = none from q] at e; cases e) (F5.keep _ _ e (by simp))
    refine wpAny_isTrue_Compare1 (wpAny_Name (wpAny_loadName_local rfl rfl hns hm ?_) rfl)
    refine wpAny_Name (wpAny_loadName_cell rfl rfl rfl ⟨co', kp _ _ (W4.get (.tail _ (.head _))), hco'⟩ ?_) rfl
    refine inOp_SO (th := th) A3 ((W4.kin X).keeps kp) (S4.kept (kp _ _ S4.at_) (TupKept.of kp)) hisk fun s₇ K7 => wpAny_truthy_bool ⟨rfl, K7⟩
  · intro s₆ D' xs' m' F6 hD' e6 a6
    have FA : Fx s₄ s₆ [] := ⟨fun b ob e _ => F6.keep _ _ (F5.keep _ _ e (by simp)) (fun m => (hw b m).elim (fun q => by cases q) (fun q => by rw [show s₄.heap.get? b = none from q] at e; cases e)), F6.gens.trans F5.gens, F6.os.trans F5.os⟩
    have hDn : s₄.heap.get? D' = none := by
      cases q : s₄.heap.get? D' with
      | none => rfl
      | some ob => rw [F5.keep _ _ q (by simp)] at hD'; cases hD'
    have W6 := W4.fxNew FA hDn e6
    refine args_nil ⟨W6.kin X, wpAny_call ?_⟩
    refine c_from_list (th := th) Gd (site_W I.below W6 Rm rfl rfl (by decide)) e6 a6 (hO.set.nodup.filter _) fun s₇ x' dx es n t c i => ?_
    have W7 := W6.chg (old := []) .nil c
    refine h s₇ x' ⟨dx, D', es, n, t, xs', m'⟩ (Chg.of_wd W7 I.hid (.cons .head (.cons (.tail .head) (.cons .head .nil)))) ?_
    have e : (ks.filter fun k => decide (k ∈ ks.filter fun k => decide (∀ kl ∈ kls, k ∉ kl))) = ks.filter fun k => decide (∀ kl ∈ kls, k ∉ kl) := List.filter_congr fun k hk => by simp [hk]
    rw [← e]
    exact ⟨i, a6.mono (nil_tup c.fx)⟩
section
variable (P : Params)
theorem k_inter : findIn (KK P) (.ref 225) "intersection" = some (some (.ref 154)) := by kernel_rfl
theorem t_inter : typeIn (KK P) (.ref 154) = some (.type "function") := by kernel_rfl
theorem keep154 : keepIn (KK P) (.ref 154) = true := by kernel_rfl
theorem k_diff : findIn (KK P) (.ref 225) "difference" = some (some (.ref 178)) := by kernel_rfl
theorem t_diff : typeIn (KK P) (.ref 178) = some (.type "function") := by kernel_rfl
theorem keep178 : keepIn (KK P) (.ref 178) = true := by kernel_rfl
end
theorem c_and (Gd : Gnd (KK w.params) base) (C : Site 67 A base outer s.heap) (H : There s.heap x o) (hO : OS th s.heap o ks) (hops : Ops th s.heap [] [v] [kl])
    (h : ∀ s' x' o', Chg s s' [] (o'.ents x') → OS th s'.heap o' (ks.filter fun k => decide (∀ l ∈ [kl], k ∈ l)) → R (.ok (.ret (.ref x'))) s') :
    codeAny (model prog w) A (.call (.ref 161) ⟨[.ref x, v], []⟩) R s := by
  have XK : (Mine.hd.heap_39 w.params).In base ∧ PySem.Challenge.rw_eu0034_01 = PySem.Challenge.rw_eu0034_01 := ⟨Gd.inK, rfl⟩
  revert XK
  k_fill
  intro _
  refine' enter (K := Mine.hd.heap_39 w.params) (d := 66) (binds := [("self", .ref x), ("other", v)]) Gd C [] Own.nil ?ho ?hcd ?hbind ?hloc ?h ?hcell ?c1 ?c2 ?c3
  walk_at "enter"
  intro g L s₁ Rm W I
  have X := I.kin Gd
  have A3 := Rm.ok3 (by decide)
  have up : ∀ b o, s.heap.get? b = some o → g.get? b = some o := fun b o e => I.hid b o e (by simp)
  have Hg : There g x o := H.up up
  have Og := hO.mono (TupKept.of up)
  have og := hops.up0 up
  refine wpAny_execs_cons (wpAny_Return_some (methodCall_KW (nameX_L W.fr rfl ?_)))
  refine method_S (W.kin X) (Hg.now W).inst (k_inter _) (t_inter _) ?_
  refine callWith_K X (keep154 _) (args_cons (nameX_L W.fr rfl (args_nil ⟨W.kin X, wpAny_call ?_⟩)))
  refine c_inter (th := th) (vs := [v]) (kls := [kl]) Gd (site_W I.below W Rm rfl rfl (by decide)) (Hg.now W) (Og.mono W.tg) (og.up0 W.keeps) (.inl ⟨v, rfl⟩) fun s₂ x' o' c O' => ?_
  have W2 := W.chg (old := []) .nil c
  exact h s₂ x' o' (Chg.of_wd W2 I.hid (.cons .head (.cons .head (.cons .head .nil)))) O'
theorem c_sub (Gd : Gnd (KK w.params) base) (C : Site 67 A base outer s.heap) (H : There s.heap x o) (hO : OS th s.heap o ks) (hops : Ops th s.heap [] [v] [kl])
    (h : ∀ s' x' o', Chg s s' [] (o'.ents x') → OS th s'.heap o' (ks.filter fun k => decide (∀ l ∈ [kl], k ∉ l)) → R (.ok (.ret (.ref x'))) s') :
    codeAny (model prog w) A (.call (.ref 185) ⟨[.ref x, v], []⟩) R s := by
  have XK : (Mine.hd.heap_39 w.params).In base ∧ PySem.Challenge.rw_eu0034_01 = PySem.Challenge.rw_eu0034_01 := ⟨Gd.inK, rfl⟩
  revert XK
  k_fill
  intro _
  refine' enter (K := Mine.hd.heap_39 w.params) (d := 66) (binds := [("self", .ref x), ("other", v)]) Gd C [] Own.nil ?ho ?hcd ?hbind ?hloc ?h ?hcell ?c1 ?c2 ?c3
  walk_at "enter"
  intro g L s₁ Rm W I
  have X := I.kin Gd
  have A3 := Rm.ok3 (by decide)
  have up : ∀ b o, s.heap.get? b = some o → g.get? b = some o := fun b o e => I.hid b o e (by simp)
  have Hg : There g x o := H.up up
  have Og := hO.mono (TupKept.of up)
  have og := hops.up0 up
  refine wpAny_execs_cons (wpAny_Return_some (methodCall_KW (nameX_L W.fr rfl ?_)))
  refine method_S (W.kin X) (Hg.now W).inst (k_diff _) (t_diff _) ?_
  refine callWith_K X (keep178 _) (args_cons (nameX_L W.fr rfl (args_nil ⟨W.kin X, wpAny_call ?_⟩)))
  refine c_diff (th := th) (vs := [v]) (kls := [kl]) Gd (site_W I.below W Rm rfl rfl (by decide)) (Hg.now W) (Og.mono W.tg) (og.up0 W.keeps) (.inl ⟨v, rfl⟩) fun s₂ x' o' c O' => ?_
  have W2 := W.chg (old := []) .nil c
  exact h s₂ x' o' (Chg.of_wd W2 I.hid (.cons .head (.cons .head (.cons .head .nil)))) O'
end
end
section
open PySem PySem.W PyProof.Rows PySem.Calls Builtin Builtin.ObjectAttr
set_option Elab.async false
set_option maxRecDepth 100000
set_option linter.unusedVariables false
def noHeap : Heap := { (default : Heap) with objs := #[] }
theorem noHeap_get (b : Addr) : noHeap.get? b = none := Heap.get?_none_of_le (by show (#[] : Array Obj).size ≤ b; simp)
def allOf (h : Heap) (L : Addr) : List (Addr × Obj) := ((List.range h.objs.size).filter fun b => decide (b ≠ L) && (h.get? b).isSome).map fun b => (b, (h.get? b).getD default)
theorem mem_allOf {h : Heap} {L b : Addr} {o : Obj} : (b, o) ∈ allOf h L ↔ b ≠ L ∧ h.get? b = some o := by
  unfold allOf
  rw [List.mem_map]
  constructor
  · rintro ⟨c, hc, e⟩
    obtain ⟨hc1, hc2⟩ := List.mem_filter.mp hc
    obtain ⟨h1, h2⟩ := Bool.and_eq_true_iff.mp hc2
    obtain ⟨o', ho⟩ := Option.isSome_iff_exists.mp h2
    rw [ho] at e
    cases e
    exact ⟨of_decide_eq_true h1, ho⟩
  · rintro ⟨hne, e⟩
    exact ⟨b, List.mem_filter.mpr ⟨List.mem_range.mpr (Heap.lt_size e), by simp [hne, e]⟩, by rw [e]; rfl⟩
theorem nd_allOf (h : Heap) (L : Addr) : ((allOf h L).map (·.1)).Nodup := by
  unfold allOf
  rw [List.map_map]
  have : ((fun x : Addr × Obj => x.1) ∘ fun b => (b, (h.get? b).getD default)) = _root_.id := rfl
  rw [this, List.map_id]
  exact List.nodup_range.filter _
section
variable {prog : Program} {w : World} {A : Around} {E : Value → Shared → Prop} {s : Shared} {K : Frag} {x : Addr} {ox ox' : Obj} {od : Option Obj} {name : Str} {expr : Bool}
  {G : Array GenState} {O : OsState} {g : Heap} {L a : Addr} {fl : List (Str × Value)} {news : List (Addr × Obj)} {f : Obj → List (Addr × Obj)}
theorem set_slotF {v : Value} {Q : Unit → Shared → Prop} (X : (KK w.params).In g) (H : Wd G O g L s fl news) (I : InstAt s.heap x ox 225 od) (R : Rep x ox news f)
    (e : { ox with slots := (ox.slots ++ Array.replicate (0 + 1 - ox.slots.size) none).setIfInBounds 0 (some v) } = ox') (hf : ox'.isFreed = false)
    (h : ∀ s', Wd G O g L s' fl (f ox') → (∀ b o, s.heap.get? b = some o → b ≠ x → b ≠ L → s'.heap.get? b = some o) → Q () s') : wpAny (model prog w) A (setAttr (.ref x) "_list" v) Q E s := by
  have X' := X.keeps H.keeps
  have hx := H.nw (x, ox) R.mem
  have FE : Fr noHeap L s.heap (fun y => fl.lookup y) := ⟨H.fr.ns, (fun b o e => by rw [noHeap_get] at e; cases e), by show (#[] : Array Obj).size ≤ L; simp⟩
  obtain ⟨pre, post, hpp⟩ := List.append_of_mem (mem_allOf.mpr ⟨hx.2.1, hx.1⟩ : (x, ox) ∈ allOf s.heap L)
  have NE : News noHeap L s.heap (pre ++ (x, ox) :: post) := fun p hp => by
    rw [← hpp] at hp
    have z := mem_allOf.mp (show (p.1, p.2) ∈ allOf s.heap L from hp)
    exact ⟨z.2, z.1, noHeap_get _⟩
  have ndE := nd_allOf s.heap L
  rw [hpp, List.map_append, List.map_cons] at ndE
  have nd2 := List.nodup_append.mp ndE
  have h1 : ∀ p ∈ pre, p.1 ≠ x := fun p hp e => nd2.2.2 _ (List.mem_map_of_mem hp) _ (List.mem_cons_self) e
  have h2 : ∀ p ∈ post, p.1 ≠ x := fun p hp e => (List.nodup_cons.mp nd2.2.1).1 (List.mem_map.mpr ⟨p, hp, e⟩)
  have fin : ∀ (h' : Heap) (t : Nat), Fr noHeap L h' (fun y => fl.lookup y) → News noHeap L h' (pre ++ (x, ox') :: post) → Q () { s with heap := h', toks := t } := fun h' t F' N' => by
    have kp : ∀ b o, s.heap.get? b = some o → b ≠ x → b ≠ L → h'.get? b = some o := fun b o e hb hL => by
      have hm : (b, o) ∈ allOf s.heap L := mem_allOf.mpr ⟨hL, e⟩
      rw [hpp] at hm
      rcases List.mem_append.mp hm with hm | hm
      · exact (N' (b, o) (List.mem_append_left _ hm)).1
      · rcases List.mem_cons.mp hm with q | hm
        · exact absurd (congrArg Prod.fst q) hb
        · exact (N' (b, o) (List.mem_append_right _ (.tail _ hm))).1
    have hx' : h'.get? x = some ox' := (N' (x, ox') (List.mem_append_right _ (.head _))).1
    refine h _ ?_ kp
    obtain ⟨pr, po, rfl, hh⟩ := R.split
    rw [hh]
    have nd := H.nd
    rw [List.map_append, List.map_cons] at nd
    have n2 := List.nodup_append.mp nd
    refine ⟨⟨F'.ns, fun b o e => kp b o (H.fr.keep b o e) (fun q => by rw [q, hx.2.2] at e; cases e) (fun q => by rw [q] at e; exact absurd (Nat.lt_of_lt_of_le (Heap.lt_size e) H.fr.above) (Nat.lt_irrefl _)), H.fr.above⟩, fun p hp => ?_, by rw [List.map_append, List.map_cons]; exact nd, H.gens, H.os⟩
    rcases List.mem_append.mp hp with hp | hp
    · have z := H.nw p (List.mem_append_left _ hp)
      exact ⟨kp _ _ z.1 (fun q => n2.2.2 _ (List.mem_map_of_mem hp) _ (List.mem_cons_self) q) z.2.1, z.2⟩
    · rcases List.mem_cons.mp hp with rfl | hp
      · exact ⟨hx', hx.2⟩
      · have z := H.nw p (List.mem_append_right _ (.tail _ hp))
        exact ⟨kp _ _ z.1 (fun q => (List.nodup_cons.mp n2.2.1).1 (List.mem_map.mpr ⟨p, hp, q⟩)) z.2.1, z.2⟩
  obtain ⟨cd, hc, hm⟩ := Option.map_eq_some_iff.mp (k_mro w.params)
  refine set_plain X' I (k_setattr _) ?_
  have SF := PySem.F.store_object
  have I' : InstAt ({ s with toks := s.toks + 1 } : Shared).heap x ox 225 od := I
  have sub : Looks (model prog w) s.heap (isInstance (.ref x) (.type "object")) true := I.type.andThen (looks_mroIn X' (k_mro_obj _))
  refine codeAny_call_builtin SF.slot.plain SF.entry (@check_slot (model prog w) _ _ { s with toks := s.toks + 1 } "object.__setattr__" "object" "__setattr__" (.ref x) [.str "_list" s.toks, v] [] _ SF.kind SF.split sub (SF.args (.ref x) (.str "_list" s.toks) v) ?_)
  have hmL : Looks (model prog w) s.heap (mroOf (.ref 225)) cd.mro := (looks_clsIn X' hc).andThen .now
  have L3 : Looks (model prog w) s.heap (storeTaker? (some (.ref 226))) (some (.ref 226)) := (looks_takesIn X' (k_list_takes _)).andThen .now
  rw [osa_eq, refuse_eq]
  refine wpAny_bind (wpAny_bind (I'.type.here (wpAny_bind (hmL _ _ _ _ (fun _ _ e => e) ?_))))
  rw [hm, refuseLoop_ref, refuse225]
  refine wpAny_pure (wpAny_bind (I'.type.here (wpAny_bind (looks_findIn X' (k_list _) _ _ _ _ (fun _ _ e => e) (wpAny_bind (L3 _ _ _ _ (fun _ _ e => e) ?_))))))
  dsimp only
  refine wpAny_bind (wpAny_rule (wpAny_bind (wpAny_holding (wpAny_bind (wpAny_bind (looks_typeIn X' (k_list_type _) _ _ _ _ (fun _ _ e => e) ((Looks.of_pure KF.slot_mset.lookup).here (wpAny_holding ?_))))))))
  rw [KF.slot_mset.bind]
  refine wpAny_bind (wpAny_pure (wpAny_bind (wpAny_call ?_)))
  refine slot_set (s := { s with toks := s.toks + 1 }) FE NE X' I (k_list_slot _) (by decide) h1 h2 e hf fun h' F' N' => ?_
  exact wpAny_pure (wpAny_pure (fin h' _ F' N'))
end
end
section
open PySem PySem.W PyProof.Rows PySem.Calls Builtin
set_option Elab.async false
set_option maxRecDepth 100000
set_option pp.deepTerms false
set_option pp.maxSteps 1500
set_option linter.unusedVariables false
section
variable {prog : Program} {w : World} {κ : Type} [DecidableEq κ] {ek : EK prog w κ} {th : SetTh ek}
  {A : Around} {E : Value → Shared → Prop} {s s' s₁ : Shared} {R : Result → Shared → Prop} {x : Addr} {ks kb kl km : List κ} {k : κ} {v v2 : Value} {w0 : List Addr} {name : Str} {id T : String}
  {G : Array GenState} {O : OsState} {g base : Heap} {outer : List Env} {L a r l : Addr} {fl : List (Str × Value)} {news old upd rest foot : List (Addr × Obj)} {ob ob' : Obj} {f : Obj → List (Addr × Obj)} {o o' : Tob} {xs : Array Value} {m : Nat}
theorem Wd.tupXL {ob : Obj} (W : Wd G O g L s fl news) (e : s.heap.get? x = some ob) (hn : ob.cls ≠ .type "tuple") (k : ∀ b o, s.heap.get? b = some o → b ≠ x → b ≠ L → s'.heap.get? b = some o) : TupKept s.heap s'.heap := fun b o eb c n => by
  by_cases q : b = x
  · rw [q, e] at eb; cases eb; exact absurd c hn
  · by_cases q2 : b = L
    · obtain ⟨oL, es, ep, hL, hc, hd⟩ := W.fr.ns
      rw [q2, hL] at eb; cases eb
      obtain ⟨ys, j, z⟩ := n
      rw [hc] at z; cases z
    · exact k _ _ eb q q2
theorem selfListC {Q : Value → Shared → Prop} {qual : Str} {sc : Scope} {fa c : Addr} {cdv : Value} {cl : List (Str × Addr)} {co : Obj} {np ap : Pos} (W : Wd G O g L s fl news) (X : (KK w.params).In g) (H : There s.heap x o)
    (hc : cl.lookup ("self" : Str) = some c) (hm : (c, co) ∈ news) (hd : co.data = .cell (some (.ref x))) (h : Q (.ref o.l) { s with toks := s.toks + 1 })
    (hk : sc.kind = .function := by rfl) (hx' : (envX qual sc L fa cdv cl).kindOf "self" = some .cell := by rfl) :
    wpAny (model prog w) A (eval (.Attribute (.Name "self" np) "_list" ap) (envX qual sc L fa cdv cl)) Q E s :=
  Attribute_Name_ (nameX_C W.nw hc hm hd (get_slotS (W.kin X) H.inst rfl rfl h) hk hx' rfl)
theorem c_iu {vs : List Value} {q : κ → Bool} (Gd : Gnd (KK w.params) base) (C : Site 65 A base outer s.heap) (OW : Own base outer s (o.ents x)) (hO : OS th s.heap o ks) (hvs : (∃ v, vs = [v]) ∨ ∃ v v2, vs = [v, v2])
    (hcall : ∀ (A' : Around) (s' : Shared) (E : Value → Shared → Prop) (Q : Value → Shared → Prop), AOk3 A' → (KK w.params).In s'.heap → (∀ b ob, s.heap.get? b = some ob → s'.heap.get? b = some ob) →
      (∀ s'' es n t, Fx s' s'' [x] → SO th s''.heap x (osetO o.dx es n t o.l) es n t (ks.filter q) → Q .none s'') → wpAny (model prog w) A' (call (.builtin "set.intersection_update") (.ref x :: vs)) Q E s')
    (h : ∀ s' o', Chg s s' ((o.ents x).map (·.1)) (o'.ents x) → OS th s'.heap o' (ks.filter q) → R (.ok (.ret .none)) s') :
    codeAny (model prog w) A (.call (.ref 190) ⟨.ref x :: vs, []⟩) R s := by
  have XK : (Mine.hd.heap_39 w.params).In base ∧ PySem.Challenge.rw_eu0034_01 = PySem.Challenge.rw_eu0034_01 := ⟨Gd.inK, rfl⟩
  revert XK
  k_fill
  intro _
  refine' enterVX (K := Mine.hd.heap_39 w.params) (d := 64) (vs := vs) (binds := fun D => [("self", .ref x), ("other", .ref D)]) (fl := fun D => [("other", .ref D)]) (cl := fun L => [("self", L + 1)]) Gd C (o.ents x) OW ?ho ?hcd ?hbind ?hkind ?hnd ?hcl ?hfl ?h ?c1 ?c2 ?c3
  walk_at "enterV"
  case hbind =>
    rcases hvs with ⟨v, rfl⟩ | ⟨v, v2, rfl⟩
    · exact BindsV.of_eq (k := fun t => pure [("self", .ref x), ("other", t)]) (by simp) rfl fun D => rfl
    · exact BindsV.of_eq (k := fun t => pure [("self", .ref x), ("other", t)]) (by simp) rfl fun D => rfl
  intro g L s₁ cells D hD Rm W I Y
  obtain ⟨co, rfl, hco⟩ := cells_one Y
  have hco : co.data = .cell (some (.ref x)) := hco
  have X := I.kin Gd
  have A3 := Rm.ok3 (by decide)
  have Og := hO.mono (I.tupgO OW)
  refine wpAny_execs_cons (wpAny_Expr_any (methodCall_star2 (setName Gd W I.below.stays ?_)))
  refine set_attr (id := "set.intersection_update") (W.kin X) (f_set_iu _) hi_iu ?_
  have W1 := W.toks (t := s₁.toks + 1)
  refine callWith_BS2 (args_cons (nameX_C W1.nw rfl (.head _) hco (items_star (nameX_L W1.fr rfl ?_))))
  refine star_tup W1 (.tail _ (.head _)) (by rcases hvs with ⟨v, rfl⟩ | ⟨v, v2, rfl⟩ <;> simp) fun s₂ W2 k2 => args_nil ?_
  rw [List.append_nil]
  refine hcall _ s₂ _ _ A3 (W2.kin X) (fun b ob e => k2 b ob (I.keep b ob e)) fun s₃ es n t F3 S3 => ?_
  have W3 := W2.fx1 (a := x) (ob := o.obj) (.tail (.tail .head)) F3 S3.at_
  have H3 : There s₃.heap x ⟨o.dx, o.l, es, n, t, o.xs, o.m⟩ := W3.there fun p hp => .tail _ (.tail _ hp)
  have O3r := (Og.mono W3.tg).row
  refine wpAny_execs_cons (plainObj_wpAny_Assign_Attribute ?_)
  refine comp_filter (ek := ek) (kl := ks) (cl := [("self", L + 1)]) (fun k => decide (k ∈ ks.filter q)) rfl (by decide) rfl (by decide) rfl (by decide) (selfListC (o := ⟨o.dx, o.l, es, n, t, o.xs, o.m⟩) W3 X H3 rfl (.head _) hco ?_) Rm.hand
  refine (iterF_list (ek := ek) (s := { s₃ with toks := s₃.toks + 1 }) H3.lst O3r).run _ _ _ (Fx.refl _ _) fun s₅ I0 fp wr P St F5 Fd hw hf => ⟨I0, fp, wr, P, St, rfl, Fd, by have := hO.small; omega, fun b hb => (Fd.noSet b hb).elim fun ob z => Heap.lt_size z.1, ?_, ?_⟩
  · intro C s₆ m₆ v k E' hns hm hkp hisk
    have kp : ∀ b ob, s₃.heap.get? b = some ob → s₆.heap.get? b = some ob := fun b ob e => hkp b ob (fun m => (hw b m).elim (fun q => by cases q) fun q => by rw [show s₃.heap.get? b = none from q] at e; cases e) (F5.keep _ _ e (by simp))
    refine wpAny_isTrue_Compare1 (wpAny_Name (wpAny_loadName_local rfl rfl hns hm ?_) rfl)
    refine wpAny_Name (wpAny_loadName_cell rfl rfl rfl ⟨co, kp _ _ (W3.get (.head _)), hco⟩ ?_) rfl
    refine inOp_SO (th := th) A3 ((W3.kin X).keeps kp) (S3.kept (kp _ _ S3.at_) (TupKept.of kp)) hisk fun s₇ K7 => wpAny_truthy_bool ⟨rfl, K7⟩
  · intro s₆ D' xs' m' F6 hD' e6 a6
    have FA : Fx s₃ s₆ [] := ⟨fun b ob e _ => F6.keep _ _ (F5.keep _ _ e (by simp)) (fun m => (hw b m).elim (fun q => by cases q) (fun q => by rw [show s₃.heap.get? b = none from q] at e; cases e)), F6.gens.trans F5.gens, F6.os.trans F5.os⟩
    have hDn : s₃.heap.get? D' = none := by
      cases q : s₃.heap.get? D' with
      | none => rfl
      | some ob => rw [F5.keep _ _ q (by simp)] at hD'; cases hD'
    have W6 := W3.fxNew FA hDn e6
    refine nameX_C W6.nw rfl (.tail _ (.head _)) hco ?_
    refine set_slotF (ox' := osetO o.dx es n t D') (od := some dictO0) X W6 (W6.there (o := ⟨o.dx, o.l, es, n, t, o.xs, o.m⟩) (x := x) fun p hp => .tail _ (.tail _ (.tail _ hp))).inst (.tail (.tail (.tail .head))) rfl rfl fun s₇ W7 K7 => ?_
    have T7 : TupKept s₆.heap s₇.heap := W6.tupXL (W6.get (.tail _ (.tail _ (.tail _ (.head _))))) (nt_oset _ _ _ _ _) K7
    refine wpAny_execs_nil (h s₇ ⟨o.dx, D', es, n, t, xs', m'⟩ (Chg.of_wd W7 I.hid (.cons (.tail (.tail (.tail .head))) (.cons .head (.cons (.tail (.tail (.tail .head))) .nil)))) ⟨S3.is.mono ((nil_tup FA).trans T7), ?_⟩)
    have e : (ks.filter fun k => decide (k ∈ ks.filter q)) = ks.filter q := List.filter_congr fun k hk => by simp [hk]
    rw [← e]
    exact a6.mono T7
theorem c_du {vs : List Value} {q : κ → Bool} (Gd : Gnd (KK w.params) base) (C : Site 65 A base outer s.heap) (OW : Own base outer s (o.ents x)) (hO : OS th s.heap o ks) (hvs : (∃ v, vs = [v]) ∨ ∃ v v2, vs = [v, v2])
    (hcall : ∀ (A' : Around) (s' : Shared) (E : Value → Shared → Prop) (Q : Value → Shared → Prop), AOk3 A' → (KK w.params).In s'.heap → (∀ b ob, s.heap.get? b = some ob → s'.heap.get? b = some ob) →
      (∀ s'' es n t, Fx s' s'' [x] → SO th s''.heap x (osetO o.dx es n t o.l) es n t (ks.filter q) → Q .none s'') → wpAny (model prog w) A' (call (.builtin "set.difference_update") (.ref x :: vs)) Q E s')
    (h : ∀ s' o', Chg s s' ((o.ents x).map (·.1)) (o'.ents x) → OS th s'.heap o' (ks.filter q) → R (.ok (.ret .none)) s') :
    codeAny (model prog w) A (.call (.ref 214) ⟨.ref x :: vs, []⟩) R s := by
  have XK : (Mine.hd.heap_39 w.params).In base ∧ PySem.Challenge.rw_eu0034_01 = PySem.Challenge.rw_eu0034_01 := ⟨Gd.inK, rfl⟩
  revert XK
  k_fill
  intro _
  refine' enterVX (K := Mine.hd.heap_39 w.params) (d := 64) (vs := vs) (binds := fun D => [("self", .ref x), ("other", .ref D)]) (fl := fun D => [("other", .ref D)]) (cl := fun L => [("self", L + 1)]) Gd C (o.ents x) OW ?ho ?hcd ?hbind ?hkind ?hnd ?hcl ?hfl ?h ?c1 ?c2 ?c3
  walk_at "enterV"
  case hbind =>
    rcases hvs with ⟨v, rfl⟩ | ⟨v, v2, rfl⟩
    · exact BindsV.of_eq (k := fun t => pure [("self", .ref x), ("other", t)]) (by simp) rfl fun D => rfl
    · exact BindsV.of_eq (k := fun t => pure [("self", .ref x), ("other", t)]) (by simp) rfl fun D => rfl
  intro g L s₁ cells D hD Rm W I Y
  obtain ⟨co, rfl, hco⟩ := cells_one Y
  have hco : co.data = .cell (some (.ref x)) := hco
  have X := I.kin Gd
  have A3 := Rm.ok3 (by decide)
  have Og := hO.mono (I.tupgO OW)
  refine wpAny_execs_cons (wpAny_Expr_any (methodCall_star2 (setName Gd W I.below.stays ?_)))
  refine set_attr (id := "set.difference_update") (W.kin X) (f_set_du _) hi_du ?_
  have W1 := W.toks (t := s₁.toks + 1)
  refine callWith_BS2 (args_cons (nameX_C W1.nw rfl (.head _) hco (items_star (nameX_L W1.fr rfl ?_))))
  refine star_tup W1 (.tail _ (.head _)) (by rcases hvs with ⟨v, rfl⟩ | ⟨v, v2, rfl⟩ <;> simp) fun s₂ W2 k2 => args_nil ?_
  rw [List.append_nil]
  refine hcall _ s₂ _ _ A3 (W2.kin X) (fun b ob e => k2 b ob (I.keep b ob e)) fun s₃ es n t F3 S3 => ?_
  have W3 := W2.fx1 (a := x) (ob := o.obj) (.tail (.tail .head)) F3 S3.at_
  have H3 : There s₃.heap x ⟨o.dx, o.l, es, n, t, o.xs, o.m⟩ := W3.there fun p hp => .tail _ (.tail _ hp)
  have O3r := (Og.mono W3.tg).row
  refine wpAny_execs_cons (plainObj_wpAny_Assign_Attribute ?_)
  refine comp_filter (ek := ek) (kl := ks) (cl := [("self", L + 1)]) (fun k => decide (k ∈ ks.filter q)) rfl (by decide) rfl (by decide) rfl (by decide) (selfListC (o := ⟨o.dx, o.l, es, n, t, o.xs, o.m⟩) W3 X H3 rfl (.head _) hco ?_) Rm.hand
  refine (iterF_list (ek := ek) (s := { s₃ with toks := s₃.toks + 1 }) H3.lst O3r).run _ _ _ (Fx.refl _ _) fun s₅ I0 fp wr P St F5 Fd hw hf => ⟨I0, fp, wr, P, St, rfl, Fd, by have := hO.small; omega, fun b hb => (Fd.noSet b hb).elim fun ob z => Heap.lt_size z.1, ?_, ?_⟩
  · intro C s₆ m₆ v k E' hns hm hkp hisk
    have kp : ∀ b ob, s₃.heap.get? b = some ob → s₆.heap.get? b = some ob := fun b ob e => hkp b ob (fun m => (hw b m).elim (fun q => by cases q) fun q => by rw [show s₃.heap.get? b = none from q] at e; cases e) (F5.keep _ _ e (by simp))
    refine wpAny_isTrue_Compare1 (wpAny_Name (wpAny_loadName_local rfl rfl hns hm ?_) rfl)
    refine wpAny_Name (wpAny_loadName_cell rfl rfl rfl ⟨co, kp _ _ (W3.get (.head _)), hco⟩ ?_) rfl
    refine inOp_SO (th := th) A3 ((W3.kin X).keeps kp) (S3.kept (kp _ _ S3.at_) (TupKept.of kp)) hisk fun s₇ K7 => wpAny_truthy_bool ⟨rfl, K7⟩
  · intro s₆ D' xs' m' F6 hD' e6 a6
    have FA : Fx s₃ s₆ [] := ⟨fun b ob e _ => F6.keep _ _ (F5.keep _ _ e (by simp)) (fun m => (hw b m).elim (fun q => by cases q) (fun q => by rw [show s₃.heap.get? b = none from q] at e; cases e)), F6.gens.trans F5.gens, F6.os.trans F5.os⟩
    have hDn : s₃.heap.get? D' = none := by
      cases q : s₃.heap.get? D' with
      | none => rfl
      | some ob => rw [F5.keep _ _ q (by simp)] at hD'; cases hD'
    have W6 := W3.fxNew FA hDn e6
    refine nameX_C W6.nw rfl (.tail _ (.head _)) hco ?_
    refine set_slotF (ox' := osetO o.dx es n t D') (od := some dictO0) X W6 (W6.there (o := ⟨o.dx, o.l, es, n, t, o.xs, o.m⟩) (x := x) fun p hp => .tail _ (.tail _ (.tail _ hp))).inst (.tail (.tail (.tail .head))) rfl rfl fun s₇ W7 K7 => ?_
    have T7 : TupKept s₆.heap s₇.heap := W6.tupXL (W6.get (.tail _ (.tail _ (.tail _ (.head _))))) (nt_oset _ _ _ _ _) K7
    refine wpAny_execs_nil (h s₇ ⟨o.dx, D', es, n, t, xs', m'⟩ (Chg.of_wd W7 I.hid (.cons (.tail (.tail (.tail .head))) (.cons .head (.cons (.tail (.tail (.tail .head))) .nil)))) ⟨S3.is.mono ((nil_tup FA).trans T7), ?_⟩)
    have e : (ks.filter fun k => decide (k ∈ ks.filter q)) = ks.filter q := List.filter_congr fun k hk => by simp [hk]
    rw [← e]
    exact a6.mono T7
end
end
section
open PySem PySem.W PyProof.Rows PySem.Calls Builtin
set_option Elab.async false
set_option maxRecDepth 100000
set_option pp.deepTerms false
set_option pp.maxSteps 1500
set_option linter.unusedVariables false
section
variable {prog : Program} {w : World} {κ : Type} [DecidableEq κ] {ek : EK prog w κ} {th : SetTh ek}
  {A : Around} {E : Value → Shared → Prop} {s s' s₁ : Shared} {R : Result → Shared → Prop} {x : Addr} {ks kb kl km : List κ} {k : κ} {v v2 : Value} {w0 : List Addr} {name : Str} {id T : String}
  {G : Array GenState} {O : OsState} {g base : Heap} {outer : List Env} {L a r l : Addr} {fl : List (Str × Value)} {news old upd rest foot : List (Addr × Obj)} {ob ob' : Obj} {f : Obj → List (Addr × Obj)} {o o' : Tob} {xs : Array Value} {m : Nat}
section
variable (P : Params)
theorem k_iu : findIn (KK P) (.ref 225) "intersection_update" = some (some (.ref 190)) := by kernel_rfl
theorem t_iu : typeIn (KK P) (.ref 190) = some (.type "function") := by kernel_rfl
theorem keep190 : keepIn (KK P) (.ref 190) = true := by kernel_rfl
theorem k_du : findIn (KK P) (.ref 225) "difference_update" = some (some (.ref 214)) := by kernel_rfl
theorem t_du : typeIn (KK P) (.ref 214) = some (.type "function") := by kernel_rfl
theorem keep214 : keepIn (KK P) (.ref 214) = true := by kernel_rfl
end
theorem c_iand {q : κ → Bool} (Gd : Gnd (KK w.params) base) (C : Site 67 A base outer s.heap) (OW : Own base outer s (o.ents x)) (hO : OS th s.heap o ks)
    (hcall : ∀ (A' : Around) (s' : Shared) (E : Value → Shared → Prop) (Q : Value → Shared → Prop), AOk3 A' → (KK w.params).In s'.heap → (∀ b ob, s.heap.get? b = some ob → s'.heap.get? b = some ob) →
      (∀ s'' es n t, Fx s' s'' [x] → SO th s''.heap x (osetO o.dx es n t o.l) es n t (ks.filter q) → Q .none s'') → wpAny (model prog w) A' (call (.builtin "set.intersection_update") [.ref x, v]) Q E s')
    (h : ∀ s' o', Chg s s' ((o.ents x).map (·.1)) (o'.ents x) → OS th s'.heap o' (ks.filter q) → R (.ok (.ret (.ref x))) s') :
    codeAny (model prog w) A (.call (.ref 197) ⟨[.ref x, v], []⟩) R s := by
  have XK : (Mine.hd.heap_39 w.params).In base ∧ PySem.Challenge.rw_eu0034_01 = PySem.Challenge.rw_eu0034_01 := ⟨Gd.inK, rfl⟩
  revert XK
  k_fill
  intro _
  refine' enter (K := Mine.hd.heap_39 w.params) (d := 66) (binds := [("self", .ref x), ("other", v)]) Gd C (o.ents x) OW ?ho ?hcd ?hbind ?hloc ?h ?hcell ?c1 ?c2 ?c3
  walk_at "enter"
  intro g L s₁ Rm W I
  have X := I.kin Gd
  have A3 := Rm.ok3 (by decide)
  have Og := hO.mono (I.tupgO OW)
  refine wpAny_execs_cons (wpAny_Expr_any (methodCall_KW (nameX_L W.fr rfl ?_)))
  refine method_S (W.kin X) (W.there fun p hp => hp).inst (k_iu _) (t_iu _) ?_
  refine callWith_K X (keep190 _) (args_cons (nameX_L W.fr rfl (args_nil ⟨W.kin X, wpAny_call ?_⟩)))
  refine c_iu (th := th) (vs := [v]) (q := q) Gd (site_W I.below W Rm rfl rfl (by decide)) (W.own I.below rfl (fun p hp => hp) W.nd) (Og.mono W.tg) (.inl ⟨v, rfl⟩)
    (fun A' s'' E Q a b kp z => hcall A' s'' E Q a b (fun b ob e => kp b ob (I.keep b ob e)) z) fun s₂ o₂ c O₂ => ?_
  have W2 := W.chg (old := o.ents x) Ext.self c
  refine wpAny_execs_cons (wpAny_Return_some (nameX_L W2.fr rfl ?_))
  exact h s₂ o₂ (Chg.of_wd W2 I.hid (.cons .head (.cons .head (.cons .head .nil)))) O₂
theorem c_isub {q : κ → Bool} (Gd : Gnd (KK w.params) base) (C : Site 67 A base outer s.heap) (OW : Own base outer s (o.ents x)) (hO : OS th s.heap o ks)
    (hcall : ∀ (A' : Around) (s' : Shared) (E : Value → Shared → Prop) (Q : Value → Shared → Prop), AOk3 A' → (KK w.params).In s'.heap → (∀ b ob, s.heap.get? b = some ob → s'.heap.get? b = some ob) →
      (∀ s'' es n t, Fx s' s'' [x] → SO th s''.heap x (osetO o.dx es n t o.l) es n t (ks.filter q) → Q .none s'') → wpAny (model prog w) A' (call (.builtin "set.difference_update") [.ref x, v]) Q E s')
    (h : ∀ s' o', Chg s s' ((o.ents x).map (·.1)) (o'.ents x) → OS th s'.heap o' (ks.filter q) → R (.ok (.ret (.ref x))) s') :
    codeAny (model prog w) A (.call (.ref 221) ⟨[.ref x, v], []⟩) R s := by
  have XK : (Mine.hd.heap_39 w.params).In base ∧ PySem.Challenge.rw_eu0034_01 = PySem.Challenge.rw_eu0034_01 := ⟨Gd.inK, rfl⟩
  revert XK
  k_fill
  intro _
  refine' enter (K := Mine.hd.heap_39 w.params) (d := 66) (binds := [("self", .ref x), ("other", v)]) Gd C (o.ents x) OW ?ho ?hcd ?hbind ?hloc ?h ?hcell ?c1 ?c2 ?c3
  walk_at "enter"
  intro g L s₁ Rm W I
  have X := I.kin Gd
  have A3 := Rm.ok3 (by decide)
  have Og := hO.mono (I.tupgO OW)
  refine wpAny_execs_cons (wpAny_Expr_any (methodCall_KW (nameX_L W.fr rfl ?_)))
  refine method_S (W.kin X) (W.there fun p hp => hp).inst (k_du _) (t_du _) ?_
  refine callWith_K X (keep214 _) (args_cons (nameX_L W.fr rfl (args_nil ⟨W.kin X, wpAny_call ?_⟩)))
  refine c_du (th := th) (vs := [v]) (q := q) Gd (site_W I.below W Rm rfl rfl (by decide)) (W.own I.below rfl (fun p hp => hp) W.nd) (Og.mono W.tg) (.inl ⟨v, rfl⟩)
    (fun A' s'' E Q a b kp z => hcall A' s'' E Q a b (fun b ob e => kp b ob (I.keep b ob e)) z) fun s₂ o₂ c O₂ => ?_
  have W2 := W.chg (old := o.ents x) Ext.self c
  refine wpAny_execs_cons (wpAny_Return_some (nameX_L W2.fr rfl ?_))
  exact h s₂ o₂ (Chg.of_wd W2 I.hid (.cons .head (.cons .head (.cons .head .nil)))) O₂
end
end
section
open PySem PySem.W PyProof.Rows PySem.Calls Builtin
set_option Elab.async false
set_option maxRecDepth 100000
set_option linter.unusedVariables false
section
variable {prog : Program} {w : World} {κ : Type} [DecidableEq κ] {ek : EK prog w κ} {th : SetTh ek}
  {A : Around} {E : Value → Shared → Prop} {s s' s₁ : Shared} {R : Result → Shared → Prop} {x l d : Addr} {ks kl : List κ} {v : Value} {o : Tob} {ob : Obj}
theorem isty_set : isType (.type "set") = pure true := by first | rfl | kernel_rfl | (unfold isType; rw [isSubtype_type]; kernel_rfl)
theorem isi_oset {Q : Value → Shared → Prop} (X : (KK w.params).In s.heap) (e : s.heap.get? x = some ob) (hc : ob.cls = .ref 225) (h : Q (.bool true) s) : wpAny (model prog w) A (call (.builtin "isinstance") [.ref x, .type "set"]) Q E s := by
  have ty : ∀ M : Model, Looks M s.heap (typeOf (.ref x)) (.ref 225) := fun M => by rw [← hc]; exact (Looks.ld e).andThen .now
  have ins : ∀ M : Model, Looks M s.heap (isInstance (.ref x) (.type "set")) true := fun M => (ty M).andThen (looks_mroIn X (k_mro_set _))
  refine call_isinstance (S := fun _ R s => ((∀ M : Model, Looks M s.heap (typeOf (.ref x)) (.ref 225)) ∧ ∀ M : Model, Looks M s.heap (isInstance (.ref x) (.type "set")) true) ∧ R (.ok (.ret (.bool true))) s) (fun prog' w' A' R' s' hs => isinstance_outer ?_ (by intro q; cases q)) ⟨⟨ty, ins⟩, h⟩
  obtain ⟨⟨t1, t2⟩, hR⟩ := hs
  unfold Builtin.«isinstance.nested»
  refine wpAny_bind ((t1 _).here ?_)
  rw [if_neg (by decide)]
  refine wpAny_bind (wpAny_of_eq meta_set ?_)
  rw [if_pos (by decide)]
  refine wpAny_bind (wpAny_bind (wpAny_of_eq isty_set ?_))
  refine KFB.if_not rfl ?_
  refine wpAny_bind ((t2 _).here ?_)
  exact wpAny_pure (wpAny_pure hR)
theorem isi_not {T : String} {Q : Value → Shared → Prop} (e : s.heap.get? x = some ob) (hc : ob.cls = .type T) (hT : T = "list" ∨ T = "tuple" ∨ T = "dict") (h : Q (.bool false) { s with toks := s.toks + 1 }) : wpAny (model prog w) A (call (.builtin "isinstance") [.ref x, .type "set"]) Q E s := by
  rcases hT with rfl | rfl | rfl
  · exact call_isinstance (isinstance_false_list (by decide +kernel) meta_set nosub_list) ⟨⟨ob, e, hc⟩, h⟩
  · exact call_isinstance (isinstance_false_tuple (by decide +kernel) meta_set nosub_tuple) ⟨⟨ob, e, hc⟩, h⟩
  · exact call_isinstance (isinstance_false_dict (by decide +kernel) meta_set sub_dict_set') ⟨⟨ob, e, hc⟩, h⟩
theorem meta_dict' : typeOf (.type "dict") = pure (.type "type") := meta_dict
theorem list_no_dict : isSubtype (.type "list") (.type "dict") = pure false := by rw [isSubtype_type]; kernel_rfl
theorem tuple_no_dict : isSubtype (.type "tuple") (.type "dict") = pure false := by rw [isSubtype_type]; kernel_rfl
theorem dict_is_dict : isSubtype (.type "dict") (.type "dict") = pure true := by rw [isSubtype_type]; kernel_rfl
theorem isi_notdict {T : String} {Q : Value → Shared → Prop} (e : s.heap.get? x = some ob) (hc : ob.cls = .type T) (hT : T = "list" ∨ T = "tuple") (h : Q (.bool false) { s with toks := s.toks + 1 }) : wpAny (model prog w) A (call (.builtin "isinstance") [.ref x, .type "dict"]) Q E s := by
  rcases hT with rfl | rfl
  · exact call_isinstance (isinstance_false_list (by decide +kernel) meta_dict list_no_dict) ⟨⟨ob, e, hc⟩, h⟩
  · exact call_isinstance (isinstance_false_tuple (by decide +kernel) meta_dict tuple_no_dict) ⟨⟨ob, e, hc⟩, h⟩
theorem isi_isdict {Q : Value → Shared → Prop} (e : s.heap.get? x = some ob) (hc : ob.cls = .type "dict") (h : Q (.bool true) s) : wpAny (model prog w) A (call (.builtin "isinstance") [.ref x, .type "dict"]) Q E s :=
  call_isinstance (isinstance_true (Tx := "dict") meta_dict dict_is_dict) ⟨⟨ob, e, hc⟩, h⟩
end
end
section
open PySem PySem.W PyProof.Rows PySem.Calls Builtin
set_option Elab.async false
set_option maxRecDepth 100000
set_option pp.deepTerms false
set_option pp.maxSteps 1500
set_option linter.unusedVariables false
section
variable {prog : Program} {w : World} {κ : Type} [DecidableEq κ] {ek : EK prog w κ} {th : SetTh ek}
  {A : Around} {E : Value → Shared → Prop} {s s' s₁ : Shared} {R : Result → Shared → Prop} {x : Addr} {ks kb kl km : List κ} {k : κ} {v v2 : Value} {w0 : List Addr} {name : Str} {id T : String}
  {G : Array GenState} {O : OsState} {g base : Heap} {outer : List Env} {L a r l : Addr} {fl : List (Str × Value)} {news old upd rest foot : List (Addr × Obj)} {ob ob' : Obj} {f : Obj → List (Addr × Obj)} {o o' : Tob} {xs : Array Value} {m : Nat}
theorem callWith_fk {env : Env} {pos : Pos} {u : Addr} {e : Expr} {rest : List Expr} {Q : Value → Shared → Prop}
    (h : wpAny (model prog w) A (spliced (backTo pos (starEach (e :: rest) env))) (fun vs s₁ => s₁.heap.get? u = some fkO ∧ wpAny (model prog w) A (call (.ref u) vs) Q E s₁) E s)
    (he : starEach (e :: rest) env = (false, eval e env) :: starEach rest env := by rfl) (hplain : (backTo pos (starEach rest env)).any (·.1) = false := by rfl) :
    wpAny (model prog w) A (callWith pos (.ref u) [] (backTo pos (starEach (e :: rest) env)) []) Q E s := by
  rw [he] at h ⊢
  refine callWith_of (P := fun h => h.get? u = some fkO) (by show ((false || (backTo pos (starEach rest env)).any (·.1)) || false) = false; rw [hplain]; rfl) (fun h hu => ⟨.machine, .inr (.inl rfl), ?_⟩) (evalArgs_plain h)
  exact (Looks.ld (part := none) hu).andThen .now
theorem addAll_len : ∀ (kl ks : List κ), (kl.foldl addK ks).length ≤ ks.length + kl.length
  | [], ks => by simp
  | k :: kl, ks => by
    rw [List.foldl_cons]
    have := addAll_len kl (addK ks k)
    have h2 : (addK ks k).length ≤ ks.length + 1 := by unfold addK; split <;> simp
    simp only [List.length_cons]
    omega
theorem hint_dict {d : Addr} {od : Obj} {ed : Array DictEntry} {ep : Nat} (D : DI ek s.heap d od ed ep kl) : HintF prog w A s (.ref d) := fun s' E Q F h =>
  kdl_hint_dict ⟨_, F.keep _ _ D.at_ (by simp), D.cls⟩ (h false s' (Fx.refl _ _))
theorem c_unique (Gd : Gnd (KK w.params) base) (C : Site 60 A base outer s.heap) (hl : s.heap.get? l = some (lstO xs m)) (hr : ek.All s.heap xs.toList kl) (hz : kl.length ≤ 10000)
    (h : ∀ s' r xs m, Chg s s' [] [(r, lstO xs m)] → ek.All s'.heap xs.toList (kl.foldl addK []) → R (.ok (.ret (.ref r))) s') :
    codeAny (model prog w) A (.call (.ref 21) ⟨[.ref l], []⟩) R s := by
  have XK : (Mine.hd.heap_39 w.params).In base ∧ PySem.Challenge.rw_eu0034_01 = PySem.Challenge.rw_eu0034_01 := ⟨Gd.inK, rfl⟩
  revert XK
  k_fill
  intro _
  refine' enter (K := Mine.hd.heap_39 w.params) (d := 59) (binds := [("seq", .ref l)]) Gd C [] Own.nil ?ho ?hcd ?hbind ?hloc ?h ?hcell ?c1 ?c2 ?c3
  walk_at "enter"
  intro g L s₁ Rm W I
  have X := I.kin Gd
  have A3 := Rm.ok3 (by decide)
  have hlg := I.hid _ _ hl (by simp)
  have hrg := hr.mono I.tupg0
  refine wpAny_execs_cons (wpAny_Return_some (Call_ (bName (v := .type "list") Gd W I.below.stays (g_list _) (by kernel_rfl) ?_)))
  refine callWith_type1 (args_cons (methodCall_KW (bName (v := .type "dict") Gd W I.below.stays (g_dict _) (by kernel_rfl) ?_)))
  refine getm_fk (W.kin X) ?_
  have W1 := W.push fkO rfl (t := s₁.toks + 1)
  refine callWith_fk (args_cons (nameX_L W1.fr rfl (args_nil ⟨W1.get (.head _), ?_⟩)))
  have hsys : sysModules < (s₁.heap.push fkO).objs.size := by
    obtain ⟨p, lo, mg, mb, T⟩ := Gd.top
    have z := modules_low (T.keeps I.below.stays).nolimit
    have z2 := W1.fr.above
    obtain ⟨oL, _, _, hL, _⟩ := W1.fr.ns
    exact Nat.lt_trans (Nat.lt_of_lt_of_le z z2) (Heap.lt_size hL)
  refine fk_call (ek := ek) (kl := kl) (Tv := .type "list") A3 (W1.get (.head _)) ((Looks.ld (W1.base hlg)).andThen .now) (by decide) (by decide) (by decide) hsys (iterF_list (W1.base hlg) (hrg.mono W1.tg)) fun s₂ d od ed ep F₂ hn D₂ => args_nil ?_
  have W2 := W1.fxNew F₂ hn D₂.at_
  refine list_iter (ek := ek) (kl := kl.foldl addK []) (T := .type "dict") A3 D₂.typeOf (by decide) (by decide) (iterF_dict D₂) (hint_dict D₂) (by have := addAll_len kl ([] : List κ); simp at this; omega) (fun s₃ r xs' m' F₃ hn3 e₃ a₃ => ?_) (fun q => by cases q; exact absurd (Heap.lt_size D₂.at_) (Nat.lt_irrefl _))
  have W3 := W2.fxNew F₃ hn3 e₃
  exact h s₃ r xs' m' (Chg.of_wd W3 I.hid (.cons .head .nil)) a₃
end
end
section
open PySem PySem.W PyProof.Rows PySem.Calls Builtin
set_option Elab.async false
set_option maxRecDepth 100000
set_option pp.deepTerms false
set_option pp.maxSteps 1500
set_option linter.unusedVariables false
section
variable {prog : Program} {w : World} {κ : Type} [DecidableEq κ] {ek : EK prog w κ} {th : SetTh ek}
  {A : Around} {E : Value → Shared → Prop} {s s' s₁ : Shared} {R : Result → Shared → Prop} {x : Addr} {ks kb kl km : List κ} {k : κ} {v v2 : Value} {w0 : List Addr} {name : Str} {id T : String}
  {G : Array GenState} {O : OsState} {g base : Heap} {outer : List Env} {L a r l : Addr} {fl : List (Str × Value)} {news old upd rest foot : List (Addr × Obj)} {ob ob' : Obj} {f : Obj → List (Addr × Obj)} {o o' : Tob} {xs : Array Value} {m : Nat}
theorem isTrue_call (f : Expr) (a : List Expr) (k : List Keyword) (p : Pos) (env : Env) (whole : Sem Value) : isTrue (.Call f a k p) env whole = (do let v ← whole; standAt (Expr.Call f a k p).pos; holding [v] (truthy v)) := rfl
section
variable (P : Params)
theorem g_isinstance : nsIn (KK P) mainGlobals "isinstance" = some none := by kernel_rfl
theorem g_unique : nsIn (KK P) mainGlobals "unique_list" = some (some (.ref 21)) := by kernel_rfl
theorem keep21 : keepIn (KK P) (.ref 21) = true := by kernel_rfl
end
set_option maxHeartbeats 4000000 in
theorem c_init_list {dx : Addr} {t : SetTable} (Gd : Gnd (KK w.params) base) (C : Site 62 A base outer s.heap) (OW : Own base outer s [(x, osetO0 dx #[] 0 t), (dx, dictO0)]) (hS : ∀ h, SetIs ek th.TT h #[] t []) (hfill : t.fill = 0)
    (hl : s.heap.get? l = some (lstO xs m)) (hr : ek.All s.heap xs.toList kl) (hz : kl.length ≤ 10000) (hlx : l ≠ x ∧ l ≠ dx)
    (h : ∀ s' o', Chg s s' [x, dx] (o'.ents x) → OS th s'.heap o' (kl.foldl addK []) → R (.ok (.ret .none)) s') :
    codeAny (model prog w) A (.call (.ref 37) ⟨[.ref x, .ref l], []⟩) R s := by
  have XS : (Mine.hd.heap_39 w.params).In s.heap := Gd.inK.keeps C.below.stays
  have XK : (Mine.hd.heap_39 w.params).In base ∧ PySem.Challenge.rw_eu0034_01 = PySem.Challenge.rw_eu0034_01 := ⟨Gd.inK, rfl⟩
  revert XK
  k_fill
  intro _
  refine' enter (K := Mine.hd.heap_39 w.params) (d := 61) (binds := [("self", .ref x), ("d", .ref l)]) Gd C [(x, osetO0 dx #[] 0 t), (dx, dictO0)] OW ?ho ?hcd ?hbind ?hloc ?h ?hcell ?c1 ?c2 ?c3
  case ho => k_is
  case hcd => k_is
  case hbind => exact binds_K XS rfl (by k_is) rfl rfl rfl
  case hloc => exact locs rfl
  case hcell => decide
  case c1 => rfl
  case c2 => rfl
  case c3 => rfl
  intro g L s₁ Rm W I
  have X := I.kin Gd
  have A3 := Rm.ok3 (by decide)
  have hlg : g.get? l = some (lstO xs m) := I.hid _ _ hl (by simp [hlx.1, hlx.2])
  have hrg : ek.All g xs.toList kl := hr.mono (I.tupg fun p hp => ⟨OW.at_ p hp, by
    rcases List.mem_cons.mp hp with rfl | hp
    · show Value.ref 225 ≠ _; decide
    · rw [List.mem_singleton.mp hp]; show Value.type "dict" ≠ _; decide⟩)
  refine wpAny_execs_cons (wpAny_If (wpAny_isTrue_Compare1 (nameX_L W.fr rfl (wpAny_Constant_none ?_))))
  refine PySem.isNot_none (wpAny_truthy_bool ?_)
  rw [if_pos (by rfl)]
  have hlk := W.base hlg
  refine wpAny_execs_cons (wpAny_If (wpAny_isTrue_BoolOp (wpAny_allTrue_Or_cons (wpAny_isTrue_value ?_ (isTrue_call _ _ _ _ _ _)))))
  refine Call_ (bName (v := .builtin "isinstance") Gd W I.below.stays (g_isinstance _) (by kernel_rfl) ?_)
  refine PyProof.Rows.callWith_builtin1 ?_
  refine args_cons (nameX_L W.fr rfl ?_)
  refine args_cons ?_
  refine setName Gd W I.below.stays ?_
  refine args_nil ?_
  refine isi_not (T := "list") (ob := lstO xs m) hlk rfl (.inl rfl) (wpAny_truthy_bool ?_)
  rw [if_neg (by decide)]
  have W1 := W.toks (t := s₁.toks + 1)
  refine wpAny_allTrue_Or_cons (wpAny_isTrue_value ?_ (isTrue_call _ _ _ _ _ _))
  refine Call_ (bName (v := .builtin "isinstance") Gd W1 I.below.stays (g_isinstance _) (by kernel_rfl) ?_)
  refine PyProof.Rows.callWith_builtin1 ?_
  refine args_cons (nameX_L W1.fr rfl ?_)
  refine args_cons ?_
  refine bName (v := .type "dict") Gd W1 I.below.stays (g_dict _) (by kernel_rfl) ?_
  refine args_nil ?_
  refine isi_notdict (T := "list") (ob := lstO xs m) (s := { s₁ with toks := s₁.toks + 1 }) hlk rfl (.inl rfl) (wpAny_truthy_bool ?_)
  rw [if_neg (by decide)]
  refine wpAny_allTrue_Or_nil ?_
  rw [if_neg (by decide)]
  have W2 := W.toks (t := s₁.toks + 1 + 1)
  refine wpAny_execs_cons (plainObj_wpAny_Assign_Attribute ?_)
  refine Call_ (kName Gd W2 I.below.stays (g_unique _) ?_)
  refine callWith_K X (keep21 _) (args_cons (nameX_L W2.fr rfl (args_nil ⟨W2.kin X, wpAny_call ?_⟩)))
  refine c_unique (ek := ek) (kl := kl) Gd (site_W I.below W2 Rm rfl rfl (by decide)) hlk (hrg.mono W2.tg) hz fun s₃ r ys m3 c a3 => ?_
  have W3 := W2.chg (old := []) .nil c
  refine nameX_L W3.fr rfl ?_
  refine set_slotF (ox' := osetO dx #[] 0 t r) (od := some dictO0) X W3 ⟨W3.get (.tail _ (.head _)), rfl, rfl, W3.get (.tail _ (.tail _ (.head _)))⟩ (.tail .head) rfl rfl fun s₄ W4 K4 => ?_
  have T4 := W3.tupXL (W3.get (.tail _ (.head _))) (by show Value.ref 225 ≠ _; decide) K4
  have a4 := EK.All.mono T4 a3
  have nd4 : (kl.foldl addK ([] : List κ)).Nodup := nodup_addAll List.nodup_nil
  have H4 : There s₄.heap x ⟨dx, r, #[], 0, t, ys, m3⟩ := W4.there fun p hp => by
    rcases List.mem_cons.mp hp with rfl | hp
    · exact .tail _ (.head _)
    · rcases List.mem_cons.mp hp with rfl | hp
      · exact .head _
      · rw [List.mem_singleton.mp hp]; exact .tail _ (.tail _ (.head _))
  refine wpAny_execs_nil ?_
  refine wpAny_execs_cons (wpAny_Expr_any (methodCall_KW (setName Gd W4 I.below.stays ?_)))
  refine @set_method _ _ _ _ _ _ "set.__init__" _ _ _ _ _ _ _ _ W4 X (f_set_init _) hi_init ?_
  have W5 := W4.toks (t := s₄.toks + 1)
  refine callWith_method1 (args_cons (nameX_L W5.fr rfl (args_cons (selfList (o := ⟨dx, r, #[], 0, t, ys, m3⟩) W5 X H4 rfl (args_nil ?_)))))
  refine wpAny_call (call_init1 (th := th) (kl := kl.foldl addK []) (w0 := []) (s := { s₄ with toks := s₄.toks + 1 + 1 }) A3 (W4.kin X) (o := osetO dx #[] 0 t r) (es := #[]) (n := 0) (t := t) ⟨H4.obj, .inl rfl, rfl, hS _⟩ ⟨_, H4.inst⟩ hfill (noSet_list H4.lst) (iter_list H4.lst a4) fun s₆ es' n' t' F₆ T₆ S₆ => ?_)
  have W6 := (W4.toks (t := s₄.toks + 1 + 1)).fx1 (a := x) (.tail .head) F₆ S₆.at_
  refine wpAny_execs_nil (wpAny_execs_nil (h s₆ ⟨dx, r, es', n', t', ys, m3⟩ (Chg.of_wd W6 I.hid (.cons (.tail .head) (.cons .head (.cons .head .nil)))) ⟨?_, EK.All.mono T₆ a4⟩))
  have := S₆.is
  rwa [addAll_nodup nd4] at this
end
end
section
open PySem PySem.W PyProof.Rows PySem.Calls Builtin Builtin.ObjectAttr
set_option Elab.async false
set_option maxRecDepth 100000
set_option pp.deepTerms false
set_option pp.maxSteps 1500
set_option linter.unusedVariables false
theorem kind_hasattr : builtinKind "hasattr" = none := by decide +kernel
theorem plain_hasattr : plainId "hasattr" = true := by decide +kernel
theorem entry_hasattr : entryFor table "hasattr" = some Builtin.«hasattr» := entryFor_of_tree (by kernel_rfl)
theorem args_hasattr (a b : Value) : argsOk "hasattr" ⟨[a, b], []⟩ := by unfold argsOk; kernel_rfl
theorem wd_get : typeOf (.builtin "list.__len__") = pure (.type "wrapper_descriptor") := by show builtinType _ = _; rw [builtinType_eq_fast]; kernel_rfl
theorem slot_wget : Slot "wrapper_descriptor" "__get__" "wrapper_descriptor.__get__" :=
  .of (owner := "wrapper_descriptor") (n := "__get__") (by rw [typeLookup_type, builtinLookup_eq_fast]; kernel_rfl) (by decide +kernel) (by decide +kernel) (by decide +kernel)
    (by first | exact .inl (by decide +kernel) | exact .inr (by decide +kernel)) (by rw [isSubtype_type]; kernel_rfl)
theorem args_wget (a b c : Value) : argsOk "wrapper_descriptor.__get__" ⟨[a, b, c], []⟩ := by unfold argsOk; kernel_rfl
theorem entry_wget : entryFor table "wrapper_descriptor.__get__" = some Builtin.«wrapper_descriptor.__get__» := entryFor_of_tree (by kernel_rfl)
theorem wd_get_list : typeOf (.builtin "list.__len__") = pure (.type "wrapper_descriptor") := by show builtinType _ = _; rw [builtinType_eq_fast]; kernel_rfl
theorem nac_list : (kfb_private% "nameAndClass") (Value.builtin "list.__len__") = pure (("__len__" : Str), Value.type "list") := by kernel_rfl
theorem tl_list : typeLookup (.type "list") "__len__" = pure (some (.builtin "list.__len__")) := by rw [typeLookup_type, builtinLookup_eq_fast]; kernel_rfl
theorem tg_list : getOf (some (.builtin "list.__len__")) = pure (some (.builtin "wrapper_descriptor.__get__")) := by
  show specialOf _ _ = _
  unfold specialOf
  rw [wd_get_list]
  exact slot_wget.lookup
theorem ts_list : takesStores (.builtin "list.__len__") = pure false := by kernel_rfl
theorem mod_list : isSubtype (.type "list") (.type "module") = pure false := by rw [isSubtype_type]; kernel_rfl
theorem wd_get_tuple : typeOf (.builtin "tuple.__len__") = pure (.type "wrapper_descriptor") := by show builtinType _ = _; rw [builtinType_eq_fast]; kernel_rfl
theorem nac_tuple : (kfb_private% "nameAndClass") (Value.builtin "tuple.__len__") = pure (("__len__" : Str), Value.type "tuple") := by kernel_rfl
theorem tl_tuple : typeLookup (.type "tuple") "__len__" = pure (some (.builtin "tuple.__len__")) := by rw [typeLookup_type, builtinLookup_eq_fast]; kernel_rfl
theorem tg_tuple : getOf (some (.builtin "tuple.__len__")) = pure (some (.builtin "wrapper_descriptor.__get__")) := by
  show specialOf _ _ = _
  unfold specialOf
  rw [wd_get_tuple]
  exact slot_wget.lookup
theorem ts_tuple : takesStores (.builtin "tuple.__len__") = pure false := by kernel_rfl
theorem mod_tuple : isSubtype (.type "tuple") (.type "module") = pure false := by rw [isSubtype_type]; kernel_rfl
theorem wd_get_dict : typeOf (.builtin "dict.__len__") = pure (.type "wrapper_descriptor") := by show builtinType _ = _; rw [builtinType_eq_fast]; kernel_rfl
theorem nac_dict : (kfb_private% "nameAndClass") (Value.builtin "dict.__len__") = pure (("__len__" : Str), Value.type "dict") := by kernel_rfl
theorem tl_dict : typeLookup (.type "dict") "__len__" = pure (some (.builtin "dict.__len__")) := by rw [typeLookup_type, builtinLookup_eq_fast]; kernel_rfl
theorem tg_dict : getOf (some (.builtin "dict.__len__")) = pure (some (.builtin "wrapper_descriptor.__get__")) := by
  show specialOf _ _ = _
  unfold specialOf
  rw [wd_get_dict]
  exact slot_wget.lookup
theorem ts_dict : takesStores (.builtin "dict.__len__") = pure false := by kernel_rfl
theorem mod_dict : isSubtype (.type "dict") (.type "module") = pure false := by rw [isSubtype_type]; kernel_rfl
theorem self_list : isSubtype (.type "list") (.type "list") = pure true := by rw [isSubtype_type]; kernel_rfl
theorem self_tuple : isSubtype (.type "tuple") (.type "tuple") = pure true := by rw [isSubtype_type]; kernel_rfl
theorem self_dict : isSubtype (.type "dict") (.type "dict") = pure true := by rw [isSubtype_type]; kernel_rfl
theorem am_slot_args_list (a b : Value) : argsOk "list.__getattribute__" ⟨[a, b], []⟩ := PySem.F.args_list_getattribute_2 a b
theorem am_slot_args_tuple (a b : Value) : argsOk "tuple.__getattribute__" ⟨[a, b], []⟩ := PySem.F.args_tuple_getattribute_2 a b
theorem am_slot_args_dict (a b : Value) : argsOk "dict.__getattribute__" ⟨[a, b], []⟩ := PySem.F.args_dict_getattribute_2 a b
section
variable {prog : Program} {w : World} {A : Around} {E : Value → Shared → Prop} {s : Shared} {x : Addr} {ob : Obj} {tk : Tok} {T : String}
theorem run_wget_list {P : PySem.Fin → Shared → Prop} (hi : Looks (model prog w) s.heap (isInstance (.ref x) (.type "list")) true)
    (h : ∀ o, P (.done (.ret (.ref s.heap.objs.size))) { s with heap := s.heap.push o }) :
    wpAny (model prog w) A (Builtin.«wrapper_descriptor.__get__» ⟨[.builtin "list.__len__", .ref x, .type "list"], []⟩) P E s := by
  unfold Builtin.«wrapper_descriptor.__get__»
  refine wpAny_bind (wpAny_of_eq (a := (.builtin "list.__len__", some (.ref x), some (.type "list"))) (by first | rfl | kernel_rfl) ?_)
  dsimp only
  with_unfolding_all refine wpAny_bind (m := (kfb_private% "checkInstance") (Value.builtin "list.__len__") (Value.ref x)) ?_
  with_unfolding_all refine wpAny_bind (m := (kfb_private% "nameAndClass") (Value.builtin "list.__len__")) (wpAny_of_eq nac_list ?_)
  dsimp only
  refine wpAny_bind (hi.here ?_)
  rw [if_neg (by decide)]
  refine wpAny_pure ?_
  exact wpAny_bind (wpAny_newObj_type (wpAny_pure (h _)))
theorem hasattr_list {Q : Value → Shared → Prop} (e : s.heap.get? x = some ob) (hc : ob.cls = .type "list") (hd : ob.dict = none) (hne : ∀ c, ob.data ≠ .cls c) (h : ∀ s', Keeps s s' → Q (.bool true) s') :
    wpAny (model prog w) A (call (.builtin "hasattr") [.ref x, .str "__len__" tk]) Q E s := by
  have hT : Looks (model prog w) s.heap (typeOf (.ref x)) (.type "list") := by rw [← hc]; exact (Looks.ld e).andThen .now
  refine Calls.call_function_entry kind_hasattr plain_hasattr entry_hasattr (args_hasattr _ _) ?_
  unfold Builtin.«hasattr»
  refine wpAny_bind (wpAny_of_eq (a := [.ref x, .str "__len__" tk]) (by first | rfl | kernel_rfl) ?_)
  dsimp only
  refine wpAny_bind (wpAny_of_eq (a := ()) (by first | rfl | kernel_rfl) ?_)
  rw [show (Value.ref x == Value.builtin "__main__.__loader__#opaque") = false from rfl, if_neg (by decide)]
  refine wpAny_bind (hT.here ?_)
  dsimp only
  refine wpAny_bind (wpAny_of_eq (a := some (PySem.Str.ofString "__len__")) rfl ?_)
  dsimp only
  refine wpAny_bind (wpAny_of_eq tl_list ?_)
  dsimp only
  refine wpAny_bind (wpAny_of_eq PySem.F.slot_list_getattribute.lookup ?_)
  rw [show (withoutEnding? "list.__len__" "#data").isSome = false by decide +kernel, Bool.false_and, if_neg (by decide)]
  refine wpAny_bind ?_
  have mod : Looks (model prog w) s.heap (isInstance (.ref x) (.type "module")) false := hT.andThen (Looks.of_pure mod_list)
  with_unfolding_all refine wpAny_bind (m := isInstance (.ref x) (.type "module")) (mod.here ?_)
  rw [if_pos (by decide)]
  refine wpAny_pure ?_
  rw [if_neg (by decide)]
  refine wpAny_bind ?_
  unfold getAttrBy?
  refine wpAny_bind (wpAny_attempt ?_)
  unfold getAttrBy
  refine wpAny_holding (wpAny_bind (hT.here ?_))
  refine wpAny_bind (wpAny_of_eq PySem.F.slot_list_getattribute.lookup ?_)
  show wpAny _ _ (getAttrByItsOwn _ _ _ _ _ _) _ _ _
  unfold getAttrByItsOwn hookBefore
  refine wpAny_bind (wpAny_pure (wpAny_bind (wpAny_attempt (wpAny_holding ?_))))
  show wpAny _ _ (boundAndCalled _ _ _) _ _ _
  unfold boundAndCalled
  rw [PySem.F.slot_list_getattribute.bind]
  refine wpAny_bind (wpAny_pure ?_)
  refine wpAny_call_entry PySem.F.slot_list_getattribute ⟨_, e, hc⟩ am_entry_list_getattribute ?_ (PySem.F.args_list_getattribute_2 _ _)
  unfold Builtin.«object.__getattribute__»
  refine wpAny_bind (wpAny_pure (wpAny_bind (wpAny_pure (wpAny_bind (hT.here (wpAny_bind ?_))))))
  unfold ObjectAttr.find
  refine wpAny_bind (wpAny_of_eq tl_list (wpAny_bind (wpAny_of_eq tg_list ?_)))
  refine wpAny_bind ?_
  unfold dataDescriptor?
  dsimp only
  refine wpAny_bind (wpAny_of_eq ts_list ?_)
  rw [if_neg (by decide)]
  refine wpAny_pure ?_
  dsimp only
  unfold ObjectAttr.ownThenClass ObjectAttr.inOwnDict ObjectAttr.ownDict
  dsimp only
  refine wpAny_bind (wpAny_bind (wpAny_bind (wpAny_loadPart e ?_)))
  have inst : ∀ E', wpAny (model prog w) A.in1.in1 (instanceDict x false) (fun r s' => r = none ∧ s' = s) E' s := by
    intro E'
    unfold instanceDict
    refine wpAny_bind (wpAny_loadPart e ?_)
    rw [hc]
    dsimp only
    rw [hd]
    exact wpAny_pure ⟨rfl, rfl⟩
  split
  · rename_i q; exact absurd q (hne _)
  refine wpAny_mono (inst _) (fun r s' z => ?_) fun _ _ z => z
  obtain ⟨rfl, rfl⟩ := z
  refine wpAny_pure ?_
  dsimp only
  refine wpAny_bind (m := copiedAttributeGuard _ _) (wpAny_of_eq (a := ()) (by rfl) ?_)
  unfold byTheClass
  refine wpAny_bind (wpAny_rule (wpAny_pure ?_))
  dsimp only
  show wpAny _ _ ((holding [Value.builtin "list.__len__"] (call (.builtin "wrapper_descriptor.__get__") [.builtin "list.__len__", .ref x, .type "list"])) >>= ret) _ _ _
  refine wpAny_bind (wpAny_holding (wpAny_call_entry slot_wget wd_get_list entry_wget ?_ (args_wget _ _ _)))
  refine run_wget_list (hT.andThen (Looks.of_pure self_list)) fun ob' => ⟨_, rfl, wpAny_pure ⟨_, rfl, ?_⟩⟩
  refine wpAny_pure (wpAny_pure ?_)
  rw [if_neg (by simp)]
  exact wpAny_pure ⟨_, rfl, h _ ⟨_, _, rfl, fun b o e => Heap.get?_push_of_some _ e⟩⟩
theorem run_wget_tuple {P : PySem.Fin → Shared → Prop} (hi : Looks (model prog w) s.heap (isInstance (.ref x) (.type "tuple")) true)
    (h : ∀ o, P (.done (.ret (.ref s.heap.objs.size))) { s with heap := s.heap.push o }) :
    wpAny (model prog w) A (Builtin.«wrapper_descriptor.__get__» ⟨[.builtin "tuple.__len__", .ref x, .type "tuple"], []⟩) P E s := by
  unfold Builtin.«wrapper_descriptor.__get__»
  refine wpAny_bind (wpAny_of_eq (a := (.builtin "tuple.__len__", some (.ref x), some (.type "tuple"))) (by first | rfl | kernel_rfl) ?_)
  dsimp only
  with_unfolding_all refine wpAny_bind (m := (kfb_private% "checkInstance") (Value.builtin "tuple.__len__") (Value.ref x)) ?_
  with_unfolding_all refine wpAny_bind (m := (kfb_private% "nameAndClass") (Value.builtin "tuple.__len__")) (wpAny_of_eq nac_tuple ?_)
  dsimp only
  refine wpAny_bind (hi.here ?_)
  rw [if_neg (by decide)]
  refine wpAny_pure ?_
  exact wpAny_bind (wpAny_newObj_type (wpAny_pure (h _)))
theorem hasattr_tuple {Q : Value → Shared → Prop} (e : s.heap.get? x = some ob) (hc : ob.cls = .type "tuple") (hd : ob.dict = none) (hne : ∀ c, ob.data ≠ .cls c) (h : ∀ s', Keeps s s' → Q (.bool true) s') :
    wpAny (model prog w) A (call (.builtin "hasattr") [.ref x, .str "__len__" tk]) Q E s := by
  have hT : Looks (model prog w) s.heap (typeOf (.ref x)) (.type "tuple") := by rw [← hc]; exact (Looks.ld e).andThen .now
  refine Calls.call_function_entry kind_hasattr plain_hasattr entry_hasattr (args_hasattr _ _) ?_
  unfold Builtin.«hasattr»
  refine wpAny_bind (wpAny_of_eq (a := [.ref x, .str "__len__" tk]) (by first | rfl | kernel_rfl) ?_)
  dsimp only
  refine wpAny_bind (wpAny_of_eq (a := ()) (by first | rfl | kernel_rfl) ?_)
  rw [show (Value.ref x == Value.builtin "__main__.__loader__#opaque") = false from rfl, if_neg (by decide)]
  refine wpAny_bind (hT.here ?_)
  dsimp only
  refine wpAny_bind (wpAny_of_eq (a := some (PySem.Str.ofString "__len__")) rfl ?_)
  dsimp only
  refine wpAny_bind (wpAny_of_eq tl_tuple ?_)
  dsimp only
  refine wpAny_bind (wpAny_of_eq PySem.F.slot_tuple_getattribute.lookup ?_)
  rw [show (withoutEnding? "tuple.__len__" "#data").isSome = false by decide +kernel, Bool.false_and, if_neg (by decide)]
  refine wpAny_bind ?_
  have mod : Looks (model prog w) s.heap (isInstance (.ref x) (.type "module")) false := hT.andThen (Looks.of_pure mod_tuple)
  with_unfolding_all refine wpAny_bind (m := isInstance (.ref x) (.type "module")) (mod.here ?_)
  rw [if_pos (by decide)]
  refine wpAny_pure ?_
  rw [if_neg (by decide)]
  refine wpAny_bind ?_
  unfold getAttrBy?
  refine wpAny_bind (wpAny_attempt ?_)
  unfold getAttrBy
  refine wpAny_holding (wpAny_bind (hT.here ?_))
  refine wpAny_bind (wpAny_of_eq PySem.F.slot_tuple_getattribute.lookup ?_)
  show wpAny _ _ (getAttrByItsOwn _ _ _ _ _ _) _ _ _
  unfold getAttrByItsOwn hookBefore
  refine wpAny_bind (wpAny_pure (wpAny_bind (wpAny_attempt (wpAny_holding ?_))))
  show wpAny _ _ (boundAndCalled _ _ _) _ _ _
  unfold boundAndCalled
  rw [PySem.F.slot_tuple_getattribute.bind]
  refine wpAny_bind (wpAny_pure ?_)
  refine wpAny_call_entry PySem.F.slot_tuple_getattribute ⟨_, e, hc⟩ am_entry_tuple_getattribute ?_ (PySem.F.args_tuple_getattribute_2 _ _)
  unfold Builtin.«object.__getattribute__»
  refine wpAny_bind (wpAny_pure (wpAny_bind (wpAny_pure (wpAny_bind (hT.here (wpAny_bind ?_))))))
  unfold ObjectAttr.find
  refine wpAny_bind (wpAny_of_eq tl_tuple (wpAny_bind (wpAny_of_eq tg_tuple ?_)))
  refine wpAny_bind ?_
  unfold dataDescriptor?
  dsimp only
  refine wpAny_bind (wpAny_of_eq ts_tuple ?_)
  rw [if_neg (by decide)]
  refine wpAny_pure ?_
  dsimp only
  unfold ObjectAttr.ownThenClass ObjectAttr.inOwnDict ObjectAttr.ownDict
  dsimp only
  refine wpAny_bind (wpAny_bind (wpAny_bind (wpAny_loadPart e ?_)))
  have inst : ∀ E', wpAny (model prog w) A.in1.in1 (instanceDict x false) (fun r s' => r = none ∧ s' = s) E' s := by
    intro E'
    unfold instanceDict
    refine wpAny_bind (wpAny_loadPart e ?_)
    rw [hc]
    dsimp only
    rw [hd]
    exact wpAny_pure ⟨rfl, rfl⟩
  split
  · rename_i q; exact absurd q (hne _)
  refine wpAny_mono (inst _) (fun r s' z => ?_) fun _ _ z => z
  obtain ⟨rfl, rfl⟩ := z
  refine wpAny_pure ?_
  dsimp only
  refine wpAny_bind (m := copiedAttributeGuard _ _) (wpAny_of_eq (a := ()) (by rfl) ?_)
  unfold byTheClass
  refine wpAny_bind (wpAny_rule (wpAny_pure ?_))
  dsimp only
  show wpAny _ _ ((holding [Value.builtin "tuple.__len__"] (call (.builtin "wrapper_descriptor.__get__") [.builtin "tuple.__len__", .ref x, .type "tuple"])) >>= ret) _ _ _
  refine wpAny_bind (wpAny_holding (wpAny_call_entry slot_wget wd_get_tuple entry_wget ?_ (args_wget _ _ _)))
  refine run_wget_tuple (hT.andThen (Looks.of_pure self_tuple)) fun ob' => ⟨_, rfl, wpAny_pure ⟨_, rfl, ?_⟩⟩
  refine wpAny_pure (wpAny_pure ?_)
  rw [if_neg (by simp)]
  exact wpAny_pure ⟨_, rfl, h _ ⟨_, _, rfl, fun b o e => Heap.get?_push_of_some _ e⟩⟩
theorem run_wget_dict {P : PySem.Fin → Shared → Prop} (hi : Looks (model prog w) s.heap (isInstance (.ref x) (.type "dict")) true)
    (h : ∀ o, P (.done (.ret (.ref s.heap.objs.size))) { s with heap := s.heap.push o }) :
    wpAny (model prog w) A (Builtin.«wrapper_descriptor.__get__» ⟨[.builtin "dict.__len__", .ref x, .type "dict"], []⟩) P E s := by
  unfold Builtin.«wrapper_descriptor.__get__»
  refine wpAny_bind (wpAny_of_eq (a := (.builtin "dict.__len__", some (.ref x), some (.type "dict"))) (by first | rfl | kernel_rfl) ?_)
  dsimp only
  with_unfolding_all refine wpAny_bind (m := (kfb_private% "checkInstance") (Value.builtin "dict.__len__") (Value.ref x)) ?_
  with_unfolding_all refine wpAny_bind (m := (kfb_private% "nameAndClass") (Value.builtin "dict.__len__")) (wpAny_of_eq nac_dict ?_)
  dsimp only
  refine wpAny_bind (hi.here ?_)
  rw [if_neg (by decide)]
  refine wpAny_pure ?_
  exact wpAny_bind (wpAny_newObj_type (wpAny_pure (h _)))
theorem hasattr_dict {Q : Value → Shared → Prop} (e : s.heap.get? x = some ob) (hc : ob.cls = .type "dict") (hd : ob.dict = none) (hne : ∀ c, ob.data ≠ .cls c) (h : ∀ s', Keeps s s' → Q (.bool true) s') :
    wpAny (model prog w) A (call (.builtin "hasattr") [.ref x, .str "__len__" tk]) Q E s := by
  have hT : Looks (model prog w) s.heap (typeOf (.ref x)) (.type "dict") := by rw [← hc]; exact (Looks.ld e).andThen .now
  refine Calls.call_function_entry kind_hasattr plain_hasattr entry_hasattr (args_hasattr _ _) ?_
  unfold Builtin.«hasattr»
  refine wpAny_bind (wpAny_of_eq (a := [.ref x, .str "__len__" tk]) (by first | rfl | kernel_rfl) ?_)
  dsimp only
  refine wpAny_bind (wpAny_of_eq (a := ()) (by first | rfl | kernel_rfl) ?_)
  rw [show (Value.ref x == Value.builtin "__main__.__loader__#opaque") = false from rfl, if_neg (by decide)]
  refine wpAny_bind (hT.here ?_)
  dsimp only
  refine wpAny_bind (wpAny_of_eq (a := some (PySem.Str.ofString "__len__")) rfl ?_)
  dsimp only
  refine wpAny_bind (wpAny_of_eq tl_dict ?_)
  dsimp only
  refine wpAny_bind (wpAny_of_eq PySem.F.slot_dict_getattribute.lookup ?_)
  rw [show (withoutEnding? "dict.__len__" "#data").isSome = false by decide +kernel, Bool.false_and, if_neg (by decide)]
  refine wpAny_bind ?_
  have mod : Looks (model prog w) s.heap (isInstance (.ref x) (.type "module")) false := hT.andThen (Looks.of_pure mod_dict)
  with_unfolding_all refine wpAny_bind (m := isInstance (.ref x) (.type "module")) (mod.here ?_)
  rw [if_pos (by decide)]
  refine wpAny_pure ?_
  rw [if_neg (by decide)]
  refine wpAny_bind ?_
  unfold getAttrBy?
  refine wpAny_bind (wpAny_attempt ?_)
  unfold getAttrBy
  refine wpAny_holding (wpAny_bind (hT.here ?_))
  refine wpAny_bind (wpAny_of_eq PySem.F.slot_dict_getattribute.lookup ?_)
  show wpAny _ _ (getAttrByItsOwn _ _ _ _ _ _) _ _ _
  unfold getAttrByItsOwn hookBefore
  refine wpAny_bind (wpAny_pure (wpAny_bind (wpAny_attempt (wpAny_holding ?_))))
  show wpAny _ _ (boundAndCalled _ _ _) _ _ _
  unfold boundAndCalled
  rw [PySem.F.slot_dict_getattribute.bind]
  refine wpAny_bind (wpAny_pure ?_)
  refine wpAny_call_entry PySem.F.slot_dict_getattribute ⟨_, e, hc⟩ am_entry_dict_getattribute ?_ (PySem.F.args_dict_getattribute_2 _ _)
  unfold Builtin.«object.__getattribute__»
  refine wpAny_bind (wpAny_pure (wpAny_bind (wpAny_pure (wpAny_bind (hT.here (wpAny_bind ?_))))))
  unfold ObjectAttr.find
  refine wpAny_bind (wpAny_of_eq tl_dict (wpAny_bind (wpAny_of_eq tg_dict ?_)))
  refine wpAny_bind ?_
  unfold dataDescriptor?
  dsimp only
  refine wpAny_bind (wpAny_of_eq ts_dict ?_)
  rw [if_neg (by decide)]
  refine wpAny_pure ?_
  dsimp only
  unfold ObjectAttr.ownThenClass ObjectAttr.inOwnDict ObjectAttr.ownDict
  dsimp only
  refine wpAny_bind (wpAny_bind (wpAny_bind (wpAny_loadPart e ?_)))
  have inst : ∀ E', wpAny (model prog w) A.in1.in1 (instanceDict x false) (fun r s' => r = none ∧ s' = s) E' s := by
    intro E'
    unfold instanceDict
    refine wpAny_bind (wpAny_loadPart e ?_)
    rw [hc]
    dsimp only
    rw [hd]
    exact wpAny_pure ⟨rfl, rfl⟩
  split
  · rename_i q; exact absurd q (hne _)
  refine wpAny_mono (inst _) (fun r s' z => ?_) fun _ _ z => z
  obtain ⟨rfl, rfl⟩ := z
  refine wpAny_pure ?_
  dsimp only
  refine wpAny_bind (m := copiedAttributeGuard _ _) (wpAny_of_eq (a := ()) (by rfl) ?_)
  unfold byTheClass
  refine wpAny_bind (wpAny_rule (wpAny_pure ?_))
  dsimp only
  show wpAny _ _ ((holding [Value.builtin "dict.__len__"] (call (.builtin "wrapper_descriptor.__get__") [.builtin "dict.__len__", .ref x, .type "dict"])) >>= ret) _ _ _
  refine wpAny_bind (wpAny_holding (wpAny_call_entry slot_wget wd_get_dict entry_wget ?_ (args_wget _ _ _)))
  refine run_wget_dict (hT.andThen (Looks.of_pure self_dict)) fun ob' => ⟨_, rfl, wpAny_pure ⟨_, rfl, ?_⟩⟩
  refine wpAny_pure (wpAny_pure ?_)
  rw [if_neg (by simp)]
  exact wpAny_pure ⟨_, rfl, h _ ⟨_, _, rfl, fun b o e => Heap.get?_push_of_some _ e⟩⟩
section
variable (P : Params)
theorem k_mro_mod : mroIn (KK P) 225 (.type "module") = some false := by kernel_rfl
theorem fo_len : findObj (KK P) 225 (some dictO0) "__len__" = some (.bind (.builtin "wrapper_descriptor.__get__") (.builtin "set.__len__")) := by kernel_rfl
end
theorem nac_set : (kfb_private% "nameAndClass") (Value.builtin "set.__len__") = pure (("__len__" : Str), Value.type "set") := by kernel_rfl
theorem wd_get_set : typeOf (.builtin "set.__len__") = pure (.type "wrapper_descriptor") := by show builtinType _ = _; rw [builtinType_eq_fast]; kernel_rfl
theorem run_wget_set {C : Value} {P : PySem.Fin → Shared → Prop} (hC : (C == Value.none) = false) (hi : Looks (model prog w) s.heap (isInstance (.ref x) (.type "set")) true)
    (h : ∀ o, P (.done (.ret (.ref s.heap.objs.size))) { s with heap := s.heap.push o }) :
    wpAny (model prog w) A (Builtin.«wrapper_descriptor.__get__» ⟨[.builtin "set.__len__", .ref x, C], []⟩) P E s := by
  unfold Builtin.«wrapper_descriptor.__get__»
  refine wpAny_bind (wpAny_of_eq (a := (.builtin "set.__len__", some (.ref x), if (C == Value.none) = true then none else some C)) (by first | rfl | kernel_rfl) ?_)
  dsimp only
  with_unfolding_all refine wpAny_bind (m := (kfb_private% "checkInstance") (Value.builtin "set.__len__") (Value.ref x)) ?_
  with_unfolding_all refine wpAny_bind (m := (kfb_private% "nameAndClass") (Value.builtin "set.__len__")) (wpAny_of_eq nac_set ?_)
  dsimp only
  refine wpAny_bind (hi.here ?_)
  rw [if_neg (by decide)]
  refine wpAny_pure ?_
  exact wpAny_bind (wpAny_newObj_type (wpAny_pure (h _)))
theorem hasattr_oset {o : Tob} {Q : Value → Shared → Prop} (X : (KK w.params).In s.heap) (H : There s.heap x o) (h : ∀ s', Keeps s s' → Q (.bool true) s') :
    wpAny (model prog w) A (call (.builtin "hasattr") [.ref x, .str "__len__" tk]) Q E s := by
  have I := H.inst
  have hT : Looks (model prog w) s.heap (typeOf (.ref x)) (.ref 225) := I.type
  refine Calls.call_function_entry kind_hasattr plain_hasattr entry_hasattr (args_hasattr _ _) ?_
  unfold Builtin.«hasattr»
  refine wpAny_bind (wpAny_of_eq (a := [.ref x, .str "__len__" tk]) (by first | rfl | kernel_rfl) ?_)
  dsimp only
  refine wpAny_bind (wpAny_of_eq (a := ()) (by first | rfl | kernel_rfl) ?_)
  rw [show (Value.ref x == Value.builtin "__main__.__loader__#opaque") = false from rfl, if_neg (by decide)]
  refine wpAny_bind (hT.here ?_)
  dsimp only
  refine wpAny_bind ?_
  have mod : Looks (model prog w) s.heap (isInstance (.ref x) (.type "module")) false := hT.andThen (looks_mroIn X (k_mro_mod _))
  with_unfolding_all refine wpAny_bind (m := isInstance (.ref x) (.type "module")) (mod.here ?_)
  rw [if_pos (by decide)]
  refine wpAny_pure ?_
  rw [if_neg (by decide)]
  refine wpAny_bind ?_
  unfold getAttrBy?
  refine wpAny_bind (wpAny_attempt ?_)
  obtain ⟨hh, gg, d, t, os⟩ := s
  have L1 := looks_findIn (M := model prog w) X (k_ga _)
  have L2 := looks_findIn (M := model prog w) X (k_gattr _)
  have L3 := looks_find (M := model prog w) X I (fo_len _)
  unfold getAttrBy
  refine wpAny_holding (wpAny_bind (hT.at (wpAny_bind (L1.at ?_))))
  show wpAny _ _ (getAttrByItsOwn _ _ _ _ _ _) _ _ _
  unfold getAttrByItsOwn hookBefore
  refine wpAny_bind (L2.at (wpAny_bind (wpAny_attempt (wpAny_holding ?_))))
  unfold callGetattribute
  rw [show (false && onTheHeap (Value.builtin "set.__getattribute__")) = false from rfl]
  show wpAny _ _ (boundAndCalled _ _ _) _ _ _
  unfold boundAndCalled
  rw [slot_ga.bind]
  refine wpAny_bind (wpAny_pure ?_)
  refine bi_ga.call (s := ⟨hh, gg, d, t, os⟩) (inst_isSet X I) (args_ga _ _) ?_
  unfold Builtin.«object.__getattribute__»
  refine wpAny_bind (wpAny_pure (wpAny_bind (wpAny_pure (wpAny_bind (hT.at (wpAny_bind (L3.at ?_)))))))
  dsimp only
  show wpAny _ _ ((holding [Value.builtin "set.__len__"] (call (.builtin "wrapper_descriptor.__get__") [.builtin "set.__len__", .ref x, .ref 225])) >>= ret) _ _ _
  refine wpAny_bind (wpAny_holding (wpAny_call_entry slot_wget wd_get_set entry_wget ?_ (args_wget _ _ _)))
  refine run_wget_set (s := ⟨hh, gg, d, t, os⟩) rfl (inst_isSet X I) fun ob' => ⟨_, rfl, wpAny_pure ⟨_, rfl, ?_⟩⟩
  refine wpAny_pure (wpAny_pure ?_)
  rw [if_neg (by simp)]
  exact wpAny_pure ⟨_, rfl, h _ ⟨_, _, rfl, fun b o e => Heap.get?_push_of_some _ e⟩⟩
end
end
local macro_rules | `(tactic| walk_at "enterC") => `(tactic| ((case ho => k_is); (case hcd => k_is); (case hbind => exact BindsTo.of_eq rfl); (case hkind => rfl); (case hnd => decide); (case hcl => intro L; rfl); (case hfl => exact fun L => bindL_is rfl); (case c1 => rfl); (case c2 => rfl); (case c3 => rfl)))
section
open PySem PySem.W PyProof.Rows PySem.Calls Builtin
set_option Elab.async false
set_option maxRecDepth 100000
set_option pp.deepTerms false
set_option pp.maxSteps 1500
set_option linter.unusedVariables false
section
variable {prog : Program} {w : World} {κ : Type} [DecidableEq κ] {ek : EK prog w κ} {th : SetTh ek}
  {A : Around} {E : Value → Shared → Prop} {s s' s₁ : Shared} {R : Result → Shared → Prop} {x : Addr} {ks kb kl km : List κ} {k : κ} {v v2 : Value} {w0 : List Addr} {name : Str} {id T : String}
  {G : Array GenState} {O : OsState} {g base : Heap} {outer : List Env} {L a r l : Addr} {fl : List (Str × Value)} {news old upd rest foot : List (Addr × Obj)} {ob ob' : Obj} {f : Obj → List (Addr × Obj)} {o o' : Tob} {xs : Array Value} {m : Nat}
section
variable (P : Params)
theorem g_hasattr : nsIn (KK P) mainGlobals "hasattr" = some none := by kernel_rfl
end
theorem cells_two {cm : Str → Option Value} {n n2 : Str} {c c2 : Addr} {cells : List (Addr × Obj)} (Y : CellsAre cm [(n2, c2), (n, c)] cells) : ∃ ob ob2, cells = [(c2, ob2), (c, ob)] ∧ ob.data = .cell (cm n) ∧ ob2.data = .cell (cm n2) := by
  cases Y with
  | cons h r => cases r with | cons h2 r => cases r; exact ⟨_, _, rfl, h2, h⟩
theorem OpK.notSet {as : List Addr} {h : Heap} (x : OpK th h v kl as) (hn : ¬ ∃ b o, v = .ref b ∧ There h b o ∧ OS th h o kl ∧ as = [b, o.l, o.dx]) : ∃ T l ob, (T = "list" ∨ T = "tuple" ∨ T = "dict") ∧ v = .ref l ∧ as = [l] ∧ h.get? l = some ob ∧ ob.cls = .type T ∧ (∀ es n t, ob.data ≠ .set es n t) ∧ (ob.dict = none) ∧ (∀ c, ob.data ≠ .cls c) := by
  cases x with
  | list l xs m e hl hr => exact ⟨"list", l, _, .inl rfl, e, rfl, hl, rfl, by simp, rfl, by simp⟩
  | tuple l xs m e hl hr => exact ⟨"tuple", l, _, .inr (.inl rfl), e, rfl, hl, rfl, by simp, rfl, by simp⟩
  | dict d od ed ep e D => exact ⟨"dict", d, od, .inr (.inr rfl), e, rfl, D.at_, D.cls, D.notSet, D.noDict, fun c q => by rw [D.data] at q; cases q⟩
  | oset b o e H O => exact absurd ⟨b, o, e, H, O, rfl⟩ hn
theorem Room.ok33 {d : Nat} (x : Room d A) (h : 51 ≤ d) : AOk3 A.in1 := ⟨by have := x.units; show A.units + 1 + _ < _; omega, by have := x.room; show A.depth + 10 < _; omega, x.hand⟩
theorem hasattr_op {T : String} {tk : Tok} {ob : Obj} {Q : Value → Shared → Prop} (e : s.heap.get? x = some ob) (hc : ob.cls = .type T) (hT : T = "list" ∨ T = "tuple" ∨ T = "dict") (hd : ob.dict = none) (hne : ∀ c, ob.data ≠ .cls c) (h : ∀ s', Keeps s s' → Q (.bool true) s') :
    wpAny (model prog w) A (call (.builtin "hasattr") [.ref x, .str "__len__" tk]) Q E s := by
  rcases hT with rfl | rfl | rfl
  · exact hasattr_list e hc hd hne h
  · exact hasattr_tuple e hc hd hne h
  · exact hasattr_dict e hc hd hne h
set_option maxHeartbeats 4000000 in
theorem c_symdiff {as : List Addr} (Gd : Gnd (KK w.params) base) (C : Site 65 A base outer s.heap) (H : There s.heap x o) (hO : OS th s.heap o ks) (hop : OpK th s.heap v kl as) (hz : kl.length ≤ 10000)
    (h : ∀ s' x' o', Chg s s' [] (o'.ents x') → OS th s'.heap o' ((kl.filter fun k => decide (k ∉ ks)).foldl addK (ks.filter fun k => decide (k ∉ kl))) → R (.ok (.ret (.ref x'))) s') :
    codeAny (model prog w) A (.call (.ref 166) ⟨[.ref x, v], []⟩) R s := by
  have XK : (Mine.hd.heap_39 w.params).In base ∧ PySem.Challenge.rw_eu0034_01 = PySem.Challenge.rw_eu0034_01 := ⟨Gd.inK, rfl⟩
  revert XK
  k_fill
  intro _
  refine' enterCX (K := Mine.hd.heap_39 w.params) (d := 64) (binds := [("self", .ref x), ("other", v)]) (fl := [("other", v)]) (cl := fun L => [("other_set", L + 2), ("self", L + 1)]) Gd C [] Own.nil ?ho ?hcd ?hbind ?hkind ?hnd ?hcl ?hfl ?h ?c1 ?c2 ?c3
  walk_at "enterC"
  intro g L s₁ cells Rm W I Y
  obtain ⟨co, co2, rfl, hco, hco2⟩ := cells_two Y
  have hco : co.data = .cell (some (.ref x)) := hco
  have X := I.kin Gd
  have A3 := Rm.ok3 (by decide)
  have up : ∀ b o, s.heap.get? b = some o → g.get? b = some o := fun b o e => I.hid b o e (by simp)
  have Hg : There g x o := H.up up
  have Og := hO.mono (TupKept.of up)
  have og := hop.up up
  have hLas : L ∉ as := fun m => by
    obtain ⟨o2, e⟩ := og.live _ m
    exact absurd (Nat.lt_of_lt_of_le (Heap.lt_size e) W.fr.above) (Nat.lt_irrefl _)
  have hCas : L + 2 ∉ as := fun m => by
    obtain ⟨o2, e⟩ := og.live _ m
    have := (W.nw _ (.head _)).2.2
    rw [show g.get? (L + 2) = some o2 from e] at this; cases this
  refine wpAny_execs_cons (wpAny_mono (Q := fun f s' => f = .next ∧ ∃ fl co2 r obr er nr tr km, Wd s.gens s.os g L s' fl [(L + 2, co2), (L + 1, co)] ∧ co2.data = .cell (some (.ref r)) ∧ SO th s'.heap r obr er nr tr km ∧ (∀ k, k ∈ km ↔ k ∈ kl) ∧ fl.lookup ("collection" : Str) = some v) ?head (fun f s' z => ?tail) fun _ _ z => z)
  case head =>
    refine wpAny_If (wpAny_isTrue_value ?_ (isTrue_call _ _ _ _ _ _))
    refine Call_ (bName (v := .builtin "isinstance") Gd W I.below.stays (g_isinstance _) (by kernel_rfl) ?_)
    refine PyProof.Rows.callWith_builtin1 ?_
    refine args_cons (nameX_L W.fr rfl ?_)
    refine args_cons ?_
    refine setName Gd W I.below.stays ?_
    refine args_nil ?_
    by_cases hs : ∃ b ob, v = .ref b ∧ There g b ob ∧ OS th g ob kl ∧ as = [b, ob.l, ob.dx]
    · obtain ⟨b, ob, rfl, Hb, Ob, _⟩ := hs
      refine isi_oset (ob := ob.obj) (W.kin X) (Hb.now W).obj rfl ?_
      refine wpAny_truthy_bool ?_
      rw [if_pos rfl]
      refine wpAny_execs_cons (wpAny_Assign_Name (nameX_L W.fr rfl ?_))
      refine store_C W .head rfl hco2 fun s₂ co' W2 F2 hco' => ?_
      refine wpAny_execs_cons (wpAny_Assign_Name (nameX_C W2.nw rfl (.head _) hco' ?_))
      refine store_W W2 fun s₃ W3 F3 => ?_
      exact wpAny_execs_nil ⟨rfl, _, co', b, _, _, _, _, kl, W3, hco', (Ob.mono W3.tg).sot (Hb.now W3), fun k => Iff.rfl, rfl⟩
    · obtain ⟨T, l, ob, hT, rfl, rfl, hl, hcls, hns, hdn, hnc⟩ := og.notSet hs
      have hl1 := W.base hl
      refine isi_not (T := T) hl1 hcls hT ?_
      refine wpAny_truthy_bool ?_
      rw [if_neg (by decide)]
      have W1 := W.toks (t := s₁.toks + 1)
      refine wpAny_execs_cons (wpAny_If (wpAny_isTrue_value ?_ (isTrue_call _ _ _ _ _ _)))
      refine Call_ (bName (v := .builtin "hasattr") Gd W1 I.below.stays (g_hasattr _) (by kernel_rfl) ?_)
      refine PyProof.Rows.callWith_builtin1 ?_
      refine args_cons (nameX_L W1.fr rfl ?_)
      refine args_cons (wpAny_Constant_str ?_)
      refine args_nil ?_
      have W1 := W.toks (t := s₁.toks + 1 + 1)
      refine hasattr_op (s := { s₁ with toks := s₁.toks + 1 + 1 }) hl1 hcls hT hdn hnc fun s₂ K2 => wpAny_truthy_bool ?_
      rw [if_pos rfl]
      have W2 := W1.fx0 (Fx.of_keeps K2 [])
      refine wpAny_execs_cons (wpAny_Assign_Name (nameX_L W2.fr rfl ?_))
      refine store_W W2 fun s₃ W3 F3 => ?_
      refine wpAny_execs_cons (wpAny_Assign_Name (Call_ (setName Gd W3 I.below.stays ?_)))
      refine callWith_type1 (args_cons (nameX_L W3.fr rfl (args_nil ?_)))
      refine set_call (th := th) (kl := kl) (w0 := []) A3 ((og.now W3).opd _) (fun b o' q e' => ?_) fun s₄ r es n t F4 hr S4 => ?_
      · cases q; rw [W3.base hl] at e'; cases e'; exact hns
      have W4 := W3.fx0 F4
      refine store_C W4 .head rfl hco2 fun s₅ co' W5 F5 hco' => ?_
      refine wpAny_execs_nil (wpAny_execs_nil ⟨rfl, _, co', r, _, _, _, _, _, W5, hco', S4.fx F5 (F5.tupC (W4.get (.head _)) hco2) (fun q => (W3.fresh hr).2.2 _ (.head _) (List.mem_singleton.mp q).symm), fun k => by rw [mem_addAll]; simp, rfl⟩)
  obtain ⟨rfl, fl, co2', r, obr, er, nr, tr, km, W4, hco2', S4, hkm, hcl⟩ := z
  have og4 := og.now W4
  refine wpAny_execs_cons (wpAny_Assign_Name (methodCall_KW (nameX_C W4.nw rfl (.tail _ (.head _)) hco ?_)))
  refine method_S (W4.kin X) (Hg.now W4).inst (k_from_list _) (t_from_list _) ?_
  refine callWith_K X (keep51 _) (args_cons ?_)
  refine comp_filter (ek := ek) (kl := ks) (cl := [("other_set", L + 2)]) (fun k => !decide (k ∈ km)) rfl (by decide) rfl (by decide) rfl (by decide) (selfListC W4 X (Hg.now W4) rfl (.tail _ (.head _)) hco ?_) Rm.hand
  have O4 := Og.mono W4.tg
  refine (iterF_list (ek := ek) (s := { s' with toks := s'.toks + 1 }) (Hg.now W4).lst O4.row).run _ _ _ (Fx.refl _ _) fun s₅ I0 fp wr P St F5 Fd hw hf => ⟨I0, fp, wr, P, St, rfl, Fd, by have := hO.small; omega, fun b hb => (Fd.noSet b hb).elim fun ob z => Heap.lt_size z.1, ?_, ?_⟩
  · intro C s₆ m₆ v k E' hns hm hkp hisk
    have kp : ∀ b ob, s'.heap.get? b = some ob → s₆.heap.get? b = some ob := fun b ob e => hkp b ob (fun m => (hw b m).elim (fun q => by cases q) fun q => by rw [show s'.heap.get? b = none from q] at e; cases e) (F5.keep _ _ e (by simp))
    refine wpAny_isTrue_Compare1 (wpAny_Name (wpAny_loadName_local rfl rfl hns hm ?_) rfl)
    refine wpAny_Name (wpAny_loadName_cell rfl rfl rfl ⟨co2', kp _ _ (W4.get (.head _)), hco2'⟩ ?_) rfl
    refine notInOp_SO (th := th) A3 ((W4.kin X).keeps kp) (S4.kept (kp _ _ S4.at_) (TupKept.of kp)) hisk fun s₇ K7 => wpAny_truthy_bool ⟨rfl, K7⟩
  intro s₆ D' xs' m' F6 hD' e6 a6
  have FA : Fx s' s₆ [] := ⟨fun b ob e _ => F6.keep _ _ (F5.keep _ _ e (by simp)) (fun m => (hw b m).elim (fun q => by cases q) (fun q => by rw [show s'.heap.get? b = none from q] at e; cases e)), F6.gens.trans F5.gens, F6.os.trans F5.os⟩
  have hDn : s'.heap.get? D' = none := by
    cases q : s'.heap.get? D' with
    | none => rfl
    | some ob => rw [F5.keep _ _ q (by simp)] at hD'; cases hD'
  have W6 := W4.fxNew FA hDn e6
  refine args_nil ⟨W6.kin X, wpAny_call ?_⟩
  refine c_from_list (th := th) Gd (site_W I.below W6 Rm rfl rfl (by decide)) e6 a6 (hO.set.nodup.filter _) fun s₇ x' dx es n t c i => ?_
  have W7 := W6.chg (old := []) .nil c
  have e : (ks.filter fun k => !decide (k ∈ km)) = ks.filter fun k => decide (k ∉ kl) := List.filter_congr fun k hk => by simp [hkm]
  rw [e] at i a6
  refine store_W W7 fun s₈ W8 F8 => ?_
  have T8 := W7.fxL F8
  have O8 : OS th s₈.heap ⟨dx, D', es, n, t, xs', m'⟩ (ks.filter fun k => decide (k ∉ kl)) := ⟨i.mono T8, (a6.mono (nil_tup c.fx)).mono T8⟩
  have og8 := og.now W8
  have hu : ∀ p ∈ Tob.ents ⟨dx, D', es, n, t, xs', m'⟩ x', p ∈ [(x', osetO dx es n t D'), (dx, dictO0)] ++ (D', lstO xs' m') :: [(L + 2, co2'), (L + 1, co)] := fun p hp => by
    rcases List.mem_cons.mp hp with rfl | hp
    · exact .head _
    · rcases List.mem_cons.mp hp with rfl | hp
      · exact .tail _ (.tail _ (.head _))
      · rw [List.mem_singleton.mp hp]; exact .tail _ (.head _)
  refine wpAny_execs_cons (wpAny_Expr_any (methodCall_KW (nameX_L W8.fr rfl ?_)))
  refine method_S (W8.kin X) (W8.there (o := ⟨dx, D', es, n, t, xs', m'⟩) (x := x') hu).inst (k_update _) (t_update _) ?_
  refine callWith_K X (keep128 _) (args_cons ?_)
  refine comp_filter (ek := ek) (kl := kl) (cl := [("self", L + 1)]) (fun k => !decide (k ∈ ks)) rfl (by decide) rfl (by decide) rfl (by decide) (nameX_L W8.fr ((lk_skip (by decide)).trans hcl) ?_) Rm.hand
  obtain ⟨bs, hbs, hit⟩ := OpK.iterF Gd (site_W I.below W8 Rm rfl rfl (by decide)) og8
  refine hit.run _ _ _ (Fx.refl _ _) fun s₉ I1 fp1 wr1 P1 St1 F9 Fd1 hw1 hf1 => ⟨I1, fp1, wr1, P1, St1, rfl, Fd1, hz, fun b hb => (Fd1.noSet b hb).elim fun ob z => Heap.lt_size z.1, ?_, ?_⟩
  · intro C s₁₀ m₁₀ v k E' hns hm hkp hisk
    have kp : ∀ b ob, s₈.heap.get? b = some ob → s₁₀.heap.get? b = some ob := fun b ob e => hkp b ob (fun m => (hw1 b m).elim (fun q => by cases q) fun q => by rw [show s₈.heap.get? b = none from q] at e; cases e) (F9.keep _ _ e (by simp))
    refine wpAny_isTrue_Compare1 (wpAny_Name (wpAny_loadName_local rfl rfl hns hm ?_) rfl)
    refine wpAny_Name (wpAny_loadName_cell rfl rfl rfl ⟨co, kp _ _ (W8.get (.tail _ (.tail _ (.tail _ (.tail _ (.head _)))))), hco⟩ ?_) rfl
    refine notInOp_SO (th := th) A3 ((W8.kin X).keeps kp) ((Og.mono (W8.tg.trans (TupKept.of kp))).sot ((Hg.now W8).up kp)) hisk fun s₇ K7 => wpAny_truthy_bool ⟨rfl, K7⟩
  intro s₁₀ D2 xs2 m2 F10 hD2 e10 a10
  have FB : Fx s₈ s₁₀ [] := ⟨fun b ob e _ => F10.keep _ _ (F9.keep _ _ e (by simp)) (fun m => (hw1 b m).elim (fun q => by cases q) (fun q => by rw [show s₈.heap.get? b = none from q] at e; cases e)), F10.gens.trans F9.gens, F10.os.trans F9.os⟩
  have hDn2 : s₈.heap.get? D2 = none := by
    cases q : s₈.heap.get? D2 with
    | none => rfl
    | some ob => rw [F9.keep _ _ q (by simp)] at hD2; cases hD2
  have W10 := W8.fxNew FB hDn2 e10
  refine args_nil ⟨W10.kin X, wpAny_call ?_⟩
  have O10 : OS th s₁₀.heap ⟨dx, D', es, n, t, xs', m'⟩ (ks.filter fun k => decide (k ∉ kl)) := O8.mono (nil_tup FB)
  have nd6 : ((Tob.ents ⟨dx, D', es, n, t, xs', m'⟩ x').map (·.1)).Nodup := by
    have z := W8.nd
    simp only [List.map_cons, List.map_nil, List.cons_append, List.nil_append, List.map_append, List.nodup_cons, List.mem_cons, List.not_mem_nil, or_false, not_or] at z ⊢
    exact ⟨⟨z.1.2.1, z.1.1⟩, fun q => z.2.1.1 q.symm, by simp, List.nodup_nil⟩
  have hD2n := (W8.fresh hDn2).2.2
  refine c_update (th := th) (vs := [.ref D2]) (kls := [kl.filter fun k => !decide (k ∈ ks)]) Gd (site_W I.below W10 Rm rfl rfl (by decide)) (W10.own I.below rfl (fun p hp => .tail _ (hu p hp)) nd6) O10 (.cons ⟨[D2], .list D2 xs2 m2 rfl e10 a10, fun a ha m => ?_⟩ .nil) (.inl ⟨_, rfl⟩) fun s₁₁ o₁₁ c₁₁ O₁₁ => ?_
  · rw [List.mem_singleton.mp ha] at m
    obtain ⟨p, hp, q⟩ := List.mem_map.mp m
    exact hD2n p (hu p hp) q
  have W11 := W10.chg (old := Tob.ents ⟨dx, D', es, n, t, xs', m'⟩ x') (.cons (.tail .head) (.cons (.tail (.tail .head)) (.cons (.tail .head) .nil))) c₁₁
  refine wpAny_execs_cons (wpAny_Return_some (nameX_L W11.fr rfl ?_))
  refine h s₁₁ x' o₁₁ (Chg.of_wd W11 I.hid (.cons .head (.cons .head (.cons .head .nil)))) ?_
  have e2 : (kl.filter fun k => !decide (k ∈ ks)) = kl.filter fun k => decide (k ∉ ks) := List.filter_congr fun k hk => by simp
  rw [e2] at O₁₁
  exact O₁₁
end
end
section
open PySem PySem.W PyProof.Rows PySem.Calls Builtin
set_option Elab.async false
set_option maxRecDepth 100000
set_option linter.unusedVariables false
theorem slot_iadd : Slot "list" (dunderI "add") "list.__iadd__" :=
  .of (owner := "list") (n := "__iadd__") (by rw [typeLookup_type, builtinLookup_eq_fast]; kernel_rfl) (by decide +kernel) (by decide +kernel) (by decide +kernel)
    (by first | exact .inl (by decide +kernel) | exact .inr (by decide +kernel)) (by rw [isSubtype_type]; kernel_rfl)
theorem noFill_iadd : fillsInplaceSlot (.type "list") "add" true = pure false := by
  unfold fillsInplaceSlot
  dsimp only
  rw [slot_iadd.lookup]
  kernel_rfl
theorem seq_iadd : seqSlot? (.type "list") (dunderI "add") = pure (some (.builtin "list.__iadd__")) := PySem.seqSlot_of slot_iadd.lookup (by decide +kernel)
theorem entry_iadd : entryFor table "list.__iadd__" = some Builtin.«list.__iadd__» := entryFor_of_tree (by kernel_rfl)
theorem bi_iadd_args (a b : Value) : argsOk "list.__iadd__" ⟨[a, b], []⟩ := by
  first
    | (unfold argsOk; kernel_rfl)
    | (unfold argsOk; rw [signature?_of (id := "list.__iadd__") (n := ['_', '_', 'd', 'd', 'a', 'i', '_', '_']) (o := ['t', 's', 'i', 'l']) (by kernel_rfl) (by kernel_rfl)]; kernel_rfl)
section
variable {prog : Program} {w : World} {A : Around} {E : Value → Shared → Prop} {s : Shared} {l D : Addr} {xs ys : Array Value} {m m2 : Nat}
theorem iadd_list {Q : Value → Shared → Prop} (hl : s.heap.get? l = some (lstO xs m)) (hD : s.heap.get? D = some (lstO ys m2)) (hz : xs.size + ys.size ≤ sizeLine)
    (h : ∀ s' m', Fx s s' [l] → s'.heap.get? l = some (lstO (xs ++ ys) m') → Q (.ref l) s') :
    wpAny (model prog w) A (inplaceOp .Add (.ref l) (.ref D)) Q E s := by
  have L1 : Looks (model prog w) s.heap (typeOf (.ref l)) (.type "list") := (Looks.ld hl).andThen .now
  have L2 : Looks (model prog w) s.heap (typeOf (.ref D)) (.type "list") := (Looks.ld hD).andThen .now
  unfold inplaceOp
  refine wpAny_holding (wpAny_bind (L1.here ?_))
  show wpAny _ _ (fillsInplaceSlot (.type "list") "add" true >>= _) _ _ _
  refine wpAny_bind (wpAny_of_eq noFill_iadd ?_)
  rw [if_neg (by decide)]
  refine wpAny_bind ?_
  unfold binaryOp1
  refine wpAny_bind (L1.here (wpAny_bind (L2.here ?_)))
  show wpAny _ _ (fillsNumberSlot (.type "list") "add" >>= _) _ _ _
  refine wpAny_bind (wpAny_of_eq noFill_list_add ?_)
  refine wpAny_of_eq (a := none) (by with_unfolding_all rfl) ?_
  show wpAny _ _ (seqSlot? (.type "list") (dunderI "add") >>= _) _ _ _
  refine wpAny_bind (wpAny_of_eq seq_iadd ?_)
  refine wpAny_bind (wpAny_rule ?_)
  refine wpAny_call_entry slot_iadd ⟨_, hl, rfl⟩ entry_iadd ?_ (bi_iadd_args _ _)
  unfold Builtin.«list.__iadd__»
  refine wpAny_bind (wpAny_of_eq (a := (.ref l, [.ref D])) (by first | rfl | kernel_rfl) ?_)
  dsimp only
  unfold Builtin.List.listExtendWith
  refine wpAny_bind (L2.here ?_)
  rw [if_pos (by simp)]
  refine wpAny_bind ?_
  unfold Builtin.List.listItems
  refine wpAny_bind (wpAny_seqItems hD rfl (wpAny_pure ?_))
  refine wpAny_bind ?_
  refine wpAny_bind (wpAny_seqItems hl rfl (wpAny_pure ?_))
  obtain ⟨m', e⟩ := lst_upd (f := (· ++ ys)) hl
  dsimp only
  rw [if_neg (extend_door hz)]
  refine wpAny_bind (m := updateSeq l (· ++ ys)) (wpAny_updateSeq hl rfl ?_ (by omega) (by rw [Array.size_append]; omega))
  exact wpAny_pure ⟨_, rfl, h _ m' fx_upd e⟩
end
end
section
open PySem PySem.W PyProof.Rows PySem.Calls Builtin
set_option Elab.async false
set_option maxRecDepth 100000
set_option pp.deepTerms false
set_option pp.maxSteps 1500
set_option linter.unusedVariables false
section
variable {prog : Program} {w : World} {κ : Type} [DecidableEq κ] {ek : EK prog w κ} {th : SetTh ek}
  {A : Around} {E : Value → Shared → Prop} {s s' s₁ : Shared} {R : Result → Shared → Prop} {x : Addr} {ks kb kl km : List κ} {k : κ} {v v2 : Value} {w0 : List Addr} {name : Str} {id T : String}
  {G : Array GenState} {O : OsState} {g base : Heap} {outer : List Env} {L a r l : Addr} {fl : List (Str × Value)} {news old upd rest foot : List (Addr × Obj)} {ob ob' : Obj} {f : Obj → List (Addr × Obj)} {o o' : Tob} {xs : Array Value} {m : Nat}
section
variable (P : Params)
theorem k_sd : findIn (KK P) (.ref 225) "symmetric_difference" = some (some (.ref 166)) := by kernel_rfl
theorem t_sd : typeIn (KK P) (.ref 166) = some (.type "function") := by kernel_rfl
theorem keep166 : keepIn (KK P) (.ref 166) = true := by kernel_rfl
theorem k_sdu : findIn (KK P) (.ref 225) "symmetric_difference_update" = some (some (.ref 202)) := by kernel_rfl
theorem t_sdu : typeIn (KK P) (.ref 202) = some (.type "function") := by kernel_rfl
theorem keep202 : keepIn (KK P) (.ref 202) = true := by kernel_rfl
end
theorem c_xor {as : List Addr} (Gd : Gnd (KK w.params) base) (C : Site 67 A base outer s.heap) (H : There s.heap x o) (hO : OS th s.heap o ks) (hop : OpK th s.heap v kl as) (hz : kl.length ≤ 10000)
    (h : ∀ s' x' o', Chg s s' [] (o'.ents x') → OS th s'.heap o' ((kl.filter fun k => decide (k ∉ ks)).foldl addK (ks.filter fun k => decide (k ∉ kl))) → R (.ok (.ret (.ref x'))) s') :
    codeAny (model prog w) A (.call (.ref 173) ⟨[.ref x, v], []⟩) R s := by
  have XK : (Mine.hd.heap_39 w.params).In base ∧ PySem.Challenge.rw_eu0034_01 = PySem.Challenge.rw_eu0034_01 := ⟨Gd.inK, rfl⟩
  revert XK
  k_fill
  intro _
  refine' enter (K := Mine.hd.heap_39 w.params) (d := 66) (binds := [("self", .ref x), ("other", v)]) Gd C [] Own.nil ?ho ?hcd ?hbind ?hloc ?h ?hcell ?c1 ?c2 ?c3
  walk_at "enter"
  intro g L s₁ Rm W I
  have X := I.kin Gd
  have up : ∀ b o, s.heap.get? b = some o → g.get? b = some o := fun b o e => I.hid b o e (by simp)
  have Hg : There g x o := H.up up
  have Og := hO.mono (TupKept.of up)
  have og := hop.up up
  refine wpAny_execs_cons (wpAny_Return_some (methodCall_KW (nameX_L W.fr rfl ?_)))
  refine method_S (W.kin X) (Hg.now W).inst (k_sd _) (t_sd _) ?_
  refine callWith_K X (keep166 _) (args_cons (nameX_L W.fr rfl (args_nil ⟨W.kin X, wpAny_call ?_⟩)))
  refine c_symdiff (th := th) Gd (site_W I.below W Rm rfl rfl (by decide)) (Hg.now W) (Og.mono W.tg) (og.now W) hz fun s₂ x' o' c O' => ?_
  have W2 := W.chg (old := []) .nil c
  exact h s₂ x' o' (Chg.of_wd W2 I.hid (.cons .head (.cons .head (.cons .head .nil)))) O'
set_option maxHeartbeats 4000000 in
theorem c_symupd {as : List Addr} (Gd : Gnd (KK w.params) base) (C : Site 65 A base outer s.heap) (OW : Own base outer s (o.ents x)) (hO : OS th s.heap o ks) (hop : OpK th s.heap v kl as) (hoff : ∀ a ∈ as, a ∉ (o.ents x).map (·.1)) (nd : kl.Nodup) (hz : kl.length ≤ 10000)
    (h : ∀ s' o', Chg s s' ((o.ents x).map (·.1)) (o'.ents x) → OS th s'.heap o' ((ks.filter fun k => decide (k ∉ kl)) ++ kl.filter fun k => decide (k ∉ ks)) → R (.ok (.ret .none)) s') :
    codeAny (model prog w) A (.call (.ref 202) ⟨[.ref x, v], []⟩) R s := by
  have XK : (Mine.hd.heap_39 w.params).In base ∧ PySem.Challenge.rw_eu0034_01 = PySem.Challenge.rw_eu0034_01 := ⟨Gd.inK, rfl⟩
  revert XK
  k_fill
  intro _
  refine' enterCX (K := Mine.hd.heap_39 w.params) (d := 64) (binds := [("self", .ref x), ("other", v)]) (fl := [("other", v)]) (cl := fun L => [("self", L + 1)]) Gd C (o.ents x) OW ?ho ?hcd ?hbind ?hkind ?hnd ?hcl ?hfl ?h ?c1 ?c2 ?c3
  walk_at "enterC"
  intro g L s₁ cells Rm W I Y
  obtain ⟨co, rfl, hco⟩ := cells_one Y
  have hco : co.data = .cell (some (.ref x)) := hco
  have X := I.kin Gd
  have A3 := Rm.ok3 (by decide)
  have Og := hO.mono (I.tupgO OW)
  have og : OpK th g v kl as := hop.move (fun a ha ob e => I.hid _ _ e (hoff a ha)) (I.tupgO OW)
  have hL1 : L ∉ as := fun m => by
    obtain ⟨o2, e⟩ := og.live _ m
    exact absurd (Nat.lt_of_lt_of_le (Heap.lt_size e) W.fr.above) (Nat.lt_irrefl _)
  refine wpAny_execs_cons (wpAny_mono (Q := fun f s' => f = .next ∧ ∃ fl, Wd s.gens s.os g L s' fl ((L + 1, co) :: o.ents x) ∧ fl.lookup ("collection" : Str) = some v) ?head (fun f s' z => ?tail) fun _ _ z => z)
  case head =>
    refine wpAny_Assign_Name (wpAny_IfExp (wpAny_isTrue_value ?_ (isTrue_call _ _ _ _ _ _)))
    refine Call_ (bName (v := .builtin "hasattr") Gd W I.below.stays (g_hasattr _) (by kernel_rfl) ?_)
    refine PyProof.Rows.callWith_builtin1 ?_
    refine args_cons (nameX_L W.fr rfl ?_)
    refine args_cons (wpAny_Constant_str ?_)
    refine args_nil ?_
    have W1 := W.toks (t := s₁.toks + 1)
    refine wpAny_mono (Q := fun v s₂ => v = .bool true ∧ Keeps { s₁ with toks := s₁.toks + 1 } s₂) ?_ (fun v s₂ z => ?_) fun _ _ e => e
    · by_cases hs : ∃ b ob, v = .ref b ∧ There g b ob ∧ OS th g ob kl ∧ as = [b, ob.l, ob.dx]
      · obtain ⟨b, ob, rfl, Hb, Ob, _⟩ := hs
        exact hasattr_oset (s := { s₁ with toks := s₁.toks + 1 }) (o := ob) (W1.kin X) (Hb.now W1) fun s' K => ⟨rfl, K⟩
      · obtain ⟨T, l, ob, hT, rfl, rfl, hl, hcls, hns, hdn, hnc⟩ := og.notSet hs
        exact hasattr_op (s := { s₁ with toks := s₁.toks + 1 }) (W1.base hl) hcls hT hdn hnc fun s' K => ⟨rfl, K⟩
    · obtain ⟨rfl, K2⟩ := z
      refine wpAny_truthy_bool ?_
      rw [if_pos rfl]
      have W2 := W1.fx0 (Fx.of_keeps K2 [])
      refine nameX_L W2.fr rfl ?_
      refine store_W W2 fun s₃ W3 F3 => ?_
      exact ⟨rfl, _, W3, rfl⟩
  obtain ⟨rfl, fl, W2, hcl⟩ := z
  refine wpAny_execs_cons (wpAny_Expr_any (methodCall_KW (setName Gd W2 I.below.stays ?_)))
  refine @set_method _ _ _ _ _ _ "set.symmetric_difference_update" _ _ _ _ _ _ _ _ W2 X (f_set_su _) hi_su ?_
  have W2t := W2.toks (t := s'.toks + 1)
  refine callWith_method1 (args_cons (nameX_C W2t.nw rfl (.head _) hco (args_cons (nameX_L W2t.fr hcl (args_nil ?_)))))
  refine call_su (th := th) (o := o.obj) (es := o.es) (n := o.n) (t := o.t) (w0 := []) (s := { s' with toks := s'.toks + 1 }) A3 (W2t.kin X) ((Og.mono W2t.tg).so (W2t.get (a := x) (.tail _ (.head _)))) ((og.now W2t).opd _) nd (by simp) fun s₃ es n t F3 T3 S3 => ?_
  have W3 := W2t.fx1 (a := x) (ob := o.obj) (.tail .head) F3 S3.at_
  have H3 : There s₃.heap x ⟨o.dx, o.l, es, n, t, o.xs, o.m⟩ := W3.there fun p hp => .tail _ hp
  have O3r := (Og.mono W3.tg).row
  refine wpAny_execs_cons (plainObj_wpAny_Assign_Attribute ?_)
  refine comp_filter (ek := ek) (kl := ks) (cl := [("self", L + 1)]) (fun k => decide (k ∈ (ks.filter fun k => decide (k ∉ kl)) ++ kl.filter fun k => decide (k ∉ ks))) rfl (by decide) rfl (by decide) rfl (by decide) (selfListC (o := ⟨o.dx, o.l, es, n, t, o.xs, o.m⟩) W3 X H3 rfl (.head _) hco ?_) Rm.hand
  refine (iterF_list (ek := ek) (s := { s₃ with toks := s₃.toks + 1 }) H3.lst O3r).run _ _ _ (Fx.refl _ _) fun s₅ I0 fp wr P St F5 Fd hw hf => ⟨I0, fp, wr, P, St, rfl, Fd, by have := hO.small; omega, fun b hb => (Fd.noSet b hb).elim fun ob z => Heap.lt_size z.1, ?_, ?_⟩
  · intro C s₆ m₆ v k E' hns hm hkp hisk
    have kp : ∀ b ob, s₃.heap.get? b = some ob → s₆.heap.get? b = some ob := fun b ob e => hkp b ob (fun m => (hw b m).elim (fun q => by cases q) fun q => by rw [show s₃.heap.get? b = none from q] at e; cases e) (F5.keep _ _ e (by simp))
    refine wpAny_isTrue_Compare1 (wpAny_Name (wpAny_loadName_local rfl rfl hns hm ?_) rfl)
    refine wpAny_Name (wpAny_loadName_cell rfl rfl rfl ⟨co, kp _ _ (W3.get (.head _)), hco⟩ ?_) rfl
    refine inOp_SO (th := th) A3 ((W3.kin X).keeps kp) (S3.kept (kp _ _ S3.at_) (TupKept.of kp)) hisk fun s₇ K7 => wpAny_truthy_bool ⟨rfl, K7⟩
  intro s₆ D' xs' m' F6 hD' e6 a6
  have FA : Fx s₃ s₆ [] := ⟨fun b ob e _ => F6.keep _ _ (F5.keep _ _ e (by simp)) (fun m => (hw b m).elim (fun q => by cases q) (fun q => by rw [show s₃.heap.get? b = none from q] at e; cases e)), F6.gens.trans F5.gens, F6.os.trans F5.os⟩
  have hDn : s₃.heap.get? D' = none := by
    cases q : s₃.heap.get? D' with
    | none => rfl
    | some ob => rw [F5.keep _ _ q (by simp)] at hD'; cases hD'
  have W6 := W3.fxNew FA hDn e6
  refine nameX_C W6.nw rfl (.tail _ (.head _)) hco ?_
  refine set_slotF (ox' := osetO o.dx es n t D') (od := some dictO0) X W6 (W6.there (o := ⟨o.dx, o.l, es, n, t, o.xs, o.m⟩) (x := x) fun p hp => .tail _ (.tail _ hp)).inst (.tail (.tail .head)) rfl rfl fun s₇ W7 K7 => ?_
  have T7 : TupKept s₆.heap s₇.heap := W6.tupXL (W6.get (.tail _ (.tail _ (.head _)))) (nt_oset _ _ _ _ _) K7
  have S7 := S3.is.mono ((nil_tup FA).trans T7)
  have a7 := a6.mono T7
  have H7 : There s₇.heap x ⟨o.dx, D', es, n, t, xs', m'⟩ := W7.there fun p hp => by
    rcases List.mem_cons.mp hp with rfl | hp
    · exact .tail _ (.tail _ (.head _))
    · rcases List.mem_cons.mp hp with rfl | hp
      · exact .head _
      · rw [List.mem_singleton.mp hp]; exact .tail _ (.tail _ (.tail _ (.tail _ (.head _))))
  refine wpAny_execs_cons (wpAny_AugAssign_AttributeAny (nameX_C W7.nw rfl (.tail _ (.head _)) hco (get_slotS (W7.kin X) H7.inst rfl rfl ?_)))
  have W8 := W7.toks (t := s₇.toks + 1)
  have og8 := og.now W8
  refine comp_filter (ek := ek) (kl := kl) (cl := [("self", L + 1)]) (fun k => decide (k ∈ (ks.filter fun k => decide (k ∉ kl)) ++ kl.filter fun k => decide (k ∉ ks))) rfl (by decide) rfl (by decide) rfl (by decide) (nameX_L W8.fr hcl ?_) Rm.hand
  obtain ⟨bs, hbs, hit⟩ := OpK.iterF Gd (site_W I.below W8 Rm rfl rfl (by decide)) og8
  refine hit.run _ _ _ (Fx.refl _ _) fun s₉ I1 fp1 wr1 P1 St1 F9 Fd1 hw1 hf1 => ⟨I1, fp1, wr1, P1, St1, rfl, Fd1, hz, fun b hb => (Fd1.noSet b hb).elim fun ob z => Heap.lt_size z.1, ?_, ?_⟩
  · intro C s₁₀ m₁₀ v k E' hns hm hkp hisk
    have kp : ∀ b ob, s₇.heap.get? b = some ob → s₁₀.heap.get? b = some ob := fun b ob e => hkp b ob (fun m => (hw1 b m).elim (fun q => by cases q) fun q => by rw [show s₇.heap.get? b = none from q] at e; cases e) (F9.keep _ _ e (by simp))
    refine wpAny_isTrue_Compare1 (wpAny_Name (wpAny_loadName_local rfl rfl hns hm ?_) rfl)
    refine wpAny_Name (wpAny_loadName_cell rfl rfl rfl ⟨co, kp _ _ (W7.get (.tail _ (.head _))), hco⟩ ?_) rfl
    refine inOp_SO (th := th) (o := osetO o.dx es n t D') (es := es) (n := n) (t := t) A3 ((W7.kin X).keeps kp) ⟨kp _ _ H7.obj, .inl rfl, rfl, S7.mono (TupKept.of kp)⟩ hisk fun s₇ K7 => wpAny_truthy_bool ⟨rfl, K7⟩
  intro s₁₀ D2 xs2 m2 F10 hD2 e10 a10
  have FB : Fx { s₇ with toks := s₇.toks + 1 } s₁₀ [] := ⟨fun b ob e _ => F10.keep _ _ (F9.keep _ _ e (by simp)) (fun m => (hw1 b m).elim (fun q => by cases q) (fun q => by rw [show s₇.heap.get? b = none from q] at e; cases e)), F10.gens.trans F9.gens, F10.os.trans F9.os⟩
  have FB7 : Fx s₇ s₁₀ [] := ⟨FB.keep, FB.gens, FB.os⟩
  have hDn2 : s₇.heap.get? D2 = none := by
    cases q : s₇.heap.get? D2 with
    | none => rfl
    | some ob => rw [F9.keep _ _ q (by simp)] at hD2; cases hD2
  have W10 := W8.fxNew FB hDn2 e10
  have e1 : (ks.filter fun k => decide (k ∈ (ks.filter fun k => decide (k ∉ kl)) ++ kl.filter fun k => decide (k ∉ ks))) = ks.filter fun k => decide (k ∉ kl) := List.filter_congr fun k hk => by simp [hk]
  have e2 : (kl.filter fun k => decide (k ∈ (ks.filter fun k => decide (k ∉ kl)) ++ kl.filter fun k => decide (k ∉ ks))) = kl.filter fun k => decide (k ∉ ks) := List.filter_congr fun k hk => by simp [hk]
  rw [e1] at a7
  rw [e2] at a10
  have l7 : xs'.size ≤ 12 := by
    have := EK.All.length a7
    rw [Array.length_toList] at this
    have h2 := List.length_filter_le (fun k => decide (k ∉ kl)) ks
    have := hO.small
    omega
  have l10 : xs2.size ≤ 10000 := by
    have := EK.All.length a10
    rw [Array.length_toList] at this
    have h2 := List.length_filter_le (fun k => decide (k ∉ ks)) kl
    omega
  refine iadd_list (W10.get (a := D') (.tail _ (.head _))) e10 (by rw [sizeLine_eq]; omega) fun s₁₁ m11 F11 e11 => ?_
  have W11 := W10.fx1 (a := D') (.tail .head) F11 e11
  have T11 : TupKept s₁₀.heap s₁₁.heap := F11.tup1 (W10.get (a := D') (.tail _ (.head _))) (nt_list _ _)
  have S11 := (S7.mono (nil_tup FB7)).mono T11
  have H11 : There s₁₁.heap x ⟨o.dx, D', es, n, t, xs' ++ xs2, m11⟩ := W11.there fun p hp => by
    rcases List.mem_cons.mp hp with rfl | hp
    · exact .tail _ (.tail _ (.tail _ (.head _)))
    · rcases List.mem_cons.mp hp with rfl | hp
      · exact .tail _ (.head _)
      · rw [List.mem_singleton.mp hp]; exact .tail _ (.tail _ (.tail _ (.tail _ (.tail _ (.head _)))))
  refine set_slotF (ox' := osetO o.dx es n t D') (od := some dictO0) X W11 H11.inst (.tail (.tail (.tail .head))) rfl rfl fun s₁₂ W12 K12 => ?_
  have T12 : TupKept s₁₁.heap s₁₂.heap := W11.tupXL H11.obj (nt_oset _ _ _ _ _) K12
  refine wpAny_execs_nil (h s₁₂ ⟨o.dx, D', es, n, t, xs' ++ xs2, m11⟩ (Chg.of_wd W12 I.hid (.cons (.tail (.tail (.tail .head))) (.cons (.tail .head) (.cons (.tail (.tail (.tail .head))) .nil)))) ⟨S11.mono T12, ?_⟩)
  show ek.All s₁₂.heap (xs' ++ xs2).toList _
  rw [Array.toList_append]
  exact All2.app (((a7.mono (nil_tup FB7)).mono T11).mono T12) ((a10.mono T11).mono T12)
theorem c_ixor {as : List Addr} (Gd : Gnd (KK w.params) base) (C : Site 67 A base outer s.heap) (OW : Own base outer s (o.ents x)) (hO : OS th s.heap o ks) (hop : OpK th s.heap v kl as) (hoff : ∀ a ∈ as, a ∉ (o.ents x).map (·.1)) (nd : kl.Nodup) (hz : kl.length ≤ 10000)
    (h : ∀ s' o', Chg s s' ((o.ents x).map (·.1)) (o'.ents x) → OS th s'.heap o' ((ks.filter fun k => decide (k ∉ kl)) ++ kl.filter fun k => decide (k ∉ ks)) → R (.ok (.ret (.ref x))) s') :
    codeAny (model prog w) A (.call (.ref 209) ⟨[.ref x, v], []⟩) R s := by
  have XK : (Mine.hd.heap_39 w.params).In base ∧ PySem.Challenge.rw_eu0034_01 = PySem.Challenge.rw_eu0034_01 := ⟨Gd.inK, rfl⟩
  revert XK
  k_fill
  intro _
  refine' enter (K := Mine.hd.heap_39 w.params) (d := 66) (binds := [("self", .ref x), ("other", v)]) Gd C (o.ents x) OW ?ho ?hcd ?hbind ?hloc ?h ?hcell ?c1 ?c2 ?c3
  walk_at "enter"
  intro g L s₁ Rm W I
  have X := I.kin Gd
  have Og := hO.mono (I.tupgO OW)
  have og : OpK th g v kl as := hop.move (fun a ha ob e => I.hid _ _ e (hoff a ha)) (I.tupgO OW)
  refine wpAny_execs_cons (wpAny_Expr_any (methodCall_KW (nameX_L W.fr rfl ?_)))
  refine method_S (W.kin X) (W.there fun p hp => hp).inst (k_sdu _) (t_sdu _) ?_
  refine callWith_K X (keep202 _) (args_cons (nameX_L W.fr rfl (args_nil ⟨W.kin X, wpAny_call ?_⟩)))
  refine c_symupd (th := th) Gd (site_W I.below W Rm rfl rfl (by decide)) (W.own I.below rfl (fun p hp => hp) W.nd) (Og.mono W.tg) (og.now W) hoff nd hz fun s₂ o₂ c O₂ => ?_
  have W2 := W.chg (old := o.ents x) Ext.self c
  refine wpAny_execs_cons (wpAny_Return_some (nameX_L W2.fr rfl ?_))
  exact h s₂ o₂ (Chg.of_wd W2 I.hid (.cons .head (.cons .head (.cons .head .nil)))) O₂
end
end
section
open PySem PySem.W PyProof.Rows PySem.Calls Builtin
set_option Elab.async false
set_option maxRecDepth 100000
set_option pp.deepTerms false
set_option pp.maxSteps 1500
set_option linter.unusedVariables false
section
variable {prog : Program} {w : World} {κ : Type} [DecidableEq κ] {ek : EK prog w κ} {th : SetTh ek}
  {A : Around} {E : Value → Shared → Prop} {s s' s₁ : Shared} {R : Result → Shared → Prop} {x : Addr} {ks kb kl km : List κ} {k : κ} {v v2 : Value} {w0 : List Addr} {name : Str} {id T : String}
  {G : Array GenState} {O : OsState} {g base : Heap} {outer : List Env} {L a r l : Addr} {fl : List (Str × Value)} {news old upd rest foot : List (Addr × Obj)} {ob ob' : Obj} {f : Obj → List (Addr × Obj)} {o o' : Tob} {xs : Array Value} {m : Nat}
theorem Site.fx0 {d : Nat} (C : Site d A base outer s.heap) (F : Fx s s' []) : Site d A base outer s'.heap :=
  ⟨⟨C.below.stack, fun b o e => F.keep _ _ (C.below.stays _ _ e) (by simp), C.below.frames.of_keeps fun b o e _ => ⟨o, F.keep _ _ e (by simp), rfl⟩⟩, C.rm⟩
theorem Chg.after0 {s'' : Shared} (F : Fx s s' []) (c : Chg s' s'' foot.unzip.1 upd) (hn : ∀ a ∈ foot.unzip.1, s.heap.get? a = none) : Chg s s'' [] upd where
  keep := fun b o e _ => c.keep b o (F.keep _ _ e (by simp)) fun m => by rw [hn b m] at e; cases e
  new := c.new
  own := fun p hp => .inr (by
    rcases c.own p hp with q | q
    · exact hn _ q
    · cases e : s.heap.get? p.1 with
      | none => rfl
      | some o => rw [F.keep _ _ e (by simp)] at q; cases q)
  nd := c.nd
  gens := c.gens.trans F.gens
  os := c.os.trans F.os
theorem c_new_list (Gd : Gnd (KK w.params) base) (C : Site 70 A base outer s.heap) (hl : s.heap.get? l = some (lstO xs m)) (hr : ek.All s.heap xs.toList kl) (hz : kl.length ≤ 10000)
    (h : ∀ s' x' o', Chg s s' [] (o'.ents x') → OS th s'.heap o' (kl.foldl addK []) → R (.ok (.ret (.ref x'))) s') :
    codeAny (model prog w) A (.call (.ref 225) ⟨[.ref l], []⟩) R s := by
  have X := Gd.inK.keeps C.below.stays
  refine make_oset (th := th) X (pk_new1 prog w (.ref l)) fun s₁ r dx t F hr1 hd1 hne e ed i z => ?_
  have C1 : Site 62 (atCall A [.ref l]) base outer s₁.heap := ((C.fx0 F).atCall (d := 69) [.ref l]).rm.mono (by decide) |> fun rm => ⟨((C.fx0 F).atCall (d := 69) [.ref l]).below, rm⟩
  have lr : l ≠ r := fun q => by rw [q, hr1] at hl; cases hl
  have ld : l ≠ dx := fun q => by rw [q, hd1] at hl; cases hl
  refine c_init_list (th := th) (dx := dx) (t := t) Gd C1 ⟨fun p hp => ?_, ?_, fun a ha => ?_⟩ i z (F.keep _ _ hl (by simp)) (hr.mono (nil_tup F)) hz ⟨lr, ld⟩ fun s₂ o' c O => ?_
  · rcases List.mem_cons.mp hp with rfl | hp
    · exact e
    · rw [List.mem_singleton.mp hp]; exact ed
  · simp [hne]
  · rcases List.mem_cons.mp ha with rfl | ha
    · exact Mine.Below.off_new C.below hr1
    · rw [List.mem_singleton.mp ha]; exact Mine.Below.off_new C.below hd1
  · exact ⟨rfl, h s₂ r o' (Chg.after0 (foot := [(r, dictO0), (dx, dictO0)]) F c fun a ha => by
      rcases List.mem_cons.mp ha with rfl | ha
      · exact hr1
      · rw [List.mem_singleton.mp ha]; exact hd1) O⟩
end
end
section
open PySem PySem.W PyProof.Rows PySem.Calls Builtin
set_option Elab.async false
set_option maxRecDepth 100000
set_option pp.deepTerms false
set_option pp.maxSteps 1500
set_option linter.unusedVariables false
section
variable {prog : Program} {w : World} {κ : Type} [DecidableEq κ] {ek : EK prog w κ} {th : SetTh ek}
  {A : Around} {E : Value → Shared → Prop} {s s' s₁ : Shared} {R : Result → Shared → Prop} {x : Addr} {ks kb kl km : List κ} {k : κ} {v v2 : Value} {w0 : List Addr} {name : Str} {id T : String}
  {G : Array GenState} {O : OsState} {g base : Heap} {outer : List Env} {L a r l : Addr} {fl : List (Str × Value)} {news old upd rest foot : List (Addr × Obj)} {ob ob' : Obj} {f : Obj → List (Addr × Obj)} {o o' : Tob} {xs : Array Value} {m : Nat}
theorem c_getitem {i : Nat} {tk : Tok} (Gd : Gnd (KK w.params) base) (C : Site 60 A base outer s.heap) (H : There s.heap x o) (hi : o.xs[i]? = some v) (hz : o.xs.size ≤ 1000)
    (h : ∀ s', Chg s s' [] [] → R (.ok (.ret v)) s') :
    codeAny (model prog w) A (.call (.ref 100) ⟨[.ref x, .int i tk], []⟩) R s := by
  have XK : (Mine.hd.heap_39 w.params).In base ∧ PySem.Challenge.rw_eu0034_01 = PySem.Challenge.rw_eu0034_01 := ⟨Gd.inK, rfl⟩
  revert XK
  k_fill
  intro _
  refine' enter (K := Mine.hd.heap_39 w.params) (d := 59) (binds := [("self", .ref x), ("key", .int i tk)]) Gd C [] Own.nil ?ho ?hcd ?hbind ?hloc ?h ?hcell ?c1 ?c2 ?c3
  walk_at "enter"
  intro g L s₁ Rm W I
  have X := I.kin Gd
  have up : ∀ b o, s.heap.get? b = some o → g.get? b = some o := fun b o e => I.hid b o e (by simp)
  have Hg : There g x o := H.up up
  have W1 := W.toks (t := s₁.toks + 1)
  refine wpAny_execs_cons (wpAny_Return_some (Subscript_ (selfList W X (Hg.now W) rfl (nameX_L W1.fr rfl ?_))))
  have hl := (Hg.now W1).lst
  have hlt := (Array.getElem?_eq_some_iff.mp hi).1
  refine item_listR (items := o.xs) ⟨_, hl, rfl, o.m, rfl⟩ (by omega) (by omega) (x := v) (by simpa using hi) ?_
  exact h _ (Chg.of_wd W1 I.hid .nil)
end
end
section
open PySem PySem.W PyProof.Rows PySem.Calls Builtin
set_option Elab.async false
set_option maxRecDepth 100000
set_option pp.deepTerms false
set_option pp.maxSteps 1500
set_option linter.unusedVariables false
section
variable {prog : Program} {w : World} {κ : Type} [DecidableEq κ] {ek : EK prog w κ} {th : SetTh ek}
  {A : Around} {E : Value → Shared → Prop} {s s' s₁ : Shared} {R : Result → Shared → Prop} {x : Addr} {ks kb kl km : List κ} {k : κ} {v v2 : Value} {w0 : List Addr} {name : Str} {id T : String}
  {G : Array GenState} {O : OsState} {g base : Heap} {outer : List Env} {L a r l : Addr} {fl : List (Str × Value)} {news old upd rest foot : List (Addr × Obj)} {ob ob' : Obj} {f : Obj → List (Addr × Obj)} {o o' : Tob} {xs : Array Value} {m : Nat}
structure Thrown (base : Heap) (outer : List Env) (s s' : Shared) (foot : List Addr) (upd : List (Addr × Obj)) (e : Addr) (X : String) : Prop where
  fly : ∃ B a0, base.StaysIn B ∧ (∀ b o, s.heap.get? b = some o → b ∉ outer.filterMap (·.frame) → b ∉ foot → B.get? b = some o) ∧ (∀ p ∈ upd, B.get? p.1 = some p.2) ∧ Heap.FlyingW B outer e (.type X) a0 s'.heap
  slots : ∀ b ∈ outer.filterMap (·.frame), ∀ o, s.heap.get? b = some o → ∃ sl, s'.heap.get? b = some { o with slots := sl }
  own : ∀ p ∈ upd, p.1 ∈ foot ∨ s.heap.get? p.1 = none
  nd : (upd.map (·.1)).Nodup
  gens : s'.gens = s.gens
  os : s'.os = s.os
structure ChgT (fs : List Addr) (s s' : Shared) (foot : List Addr) (upd : List (Addr × Obj)) : Prop where
  keep : ∀ b o, s.heap.get? b = some o → b ∉ foot → b ∉ fs → s'.heap.get? b = some o
  turn : ∀ b o, s.heap.get? b = some o → b ∈ fs → ∃ sl, s'.heap.get? b = some { o with slots := sl }
  new : ∀ p ∈ upd, s'.heap.get? p.1 = some p.2
  own : ∀ p ∈ upd, p.1 ∈ foot ∨ s.heap.get? p.1 = none
  nd : (upd.map (·.1)).Nodup
  gens : s'.gens = s.gens
  os : s'.os = s.os
theorem Chg.toT {fs foot : List Addr} (c : Chg s s' foot upd) (hd : ∀ b ∈ fs, b ∉ foot) : ChgT fs s s' foot upd :=
  ⟨fun b o e n _ => c.keep b o e n, fun b o e m => ⟨o.slots, c.keep b o e (hd b m)⟩, c.new, c.own, c.nd, c.gens, c.os⟩
theorem ChgT.of_wd {fs foot : List Addr} {s₀ : Shared} {g' : Heap} (H : Wd s₀.gens s₀.os g' L s fl news) (hg : ∀ b o, s₀.heap.get? b = some o → b ∉ foot → g.get? b = some o) (T : KtsTurn fs g g') (hd : ∀ b ∈ fs, b ∉ foot) (x : Ext upd news rest) : ChgT fs s₀ s foot upd := by
  have hp := x.perm
  have nd : ((upd ++ rest).map (·.1)).Nodup := (hp.map _).nodup_iff.mp H.nd
  rw [List.map_append, List.nodup_append] at nd
  refine ⟨fun b o e hb hf => H.fr.keep b o (T.other b o (hg b o e hb) hf), fun b o e m => ?_, fun p hm => (H.nw p (hp.mem_iff.mpr (List.mem_append_left _ hm))).1, fun p hm => ?_, nd.1, H.gens, H.os⟩
  · obtain ⟨sl, hs⟩ := T.frame b o (hg b o e (hd b m)) m
    exact ⟨sl, H.fr.keep _ _ hs⟩
  · have hn := (H.nw p (hp.mem_iff.mpr (List.mem_append_left _ hm))).2.2
    by_cases hf : p.1 ∈ foot
    · exact .inl hf
    · refine .inr ?_
      cases q : s₀.heap.get? p.1 with
      | none => rfl
      | some o =>
        obtain ⟨sl, hs⟩ := T.up (hg _ _ q hf)
        rw [hs] at hn; cases hn
theorem Wd.chgT (H : Wd G O g L s fl news) (x : Ext old news rest) (c : ChgT [L] s s' (old.map (·.1)) upd) : Wd G O g L s' fl (upd ++ rest) := by
  have hp := x.perm
  have nd : ((old ++ rest).map (·.1)).Nodup := (hp.map _).nodup_iff.mp H.nd
  rw [List.map_append, List.nodup_append] at nd
  have hgL : g.get? L = none := kts_self H.fr
  have hk : ∀ b o, g.get? b = some o → s'.heap.get? b = some o := fun b o e => c.keep b o (H.fr.keep b o e) (fun hm => by
    obtain ⟨p, hp', rfl⟩ := List.mem_map.mp hm
    rw [(H.nw p (hp.mem_iff.mpr (List.mem_append_left _ hp'))).2.2] at e; cases e) (fun hm => by
    rw [List.mem_singleton.mp hm, hgL] at e; cases e)
  have hfresh : ∀ a o, s.heap.get? a = none → s'.heap.get? a = some o → a ≠ L ∧ g.get? a = none := fun a o e e' => by
    refine ⟨fun q => ?_, ?_⟩
    · obtain ⟨oL, _, _, hL, _⟩ := H.fr.ns; rw [q, hL] at e; cases e
    · cases q : g.get? a with
      | none => rfl
      | some o'' => rw [H.fr.keep _ _ q] at e; cases e
  have hns : s'.heap.Ns L (fun y => fl.lookup y) := by
    obtain ⟨oL, es, ep, hL, hd, r⟩ := H.fr.ns
    obtain ⟨sl, hs⟩ := c.turn L oL hL (.head _)
    exact ⟨_, es, ep, hs, hd, r⟩
  refine ⟨⟨hns, hk, H.fr.above⟩, fun p hp' => ?_, ?_, c.gens.trans H.gens, c.os.trans H.os⟩
  · rcases List.mem_append.mp hp' with hm | hm
    · refine ⟨c.new p hm, ?_⟩
      rcases c.own p hm with h | h
      · obtain ⟨q, hq, e⟩ := List.mem_map.mp h
        have := H.nw q (hp.mem_iff.mpr (List.mem_append_left _ hq))
        rw [← show q.1 = p.1 from e]; exact this.2
      · exact hfresh _ _ h (c.new p hm)
    · have hn := H.nw p (hp.mem_iff.mpr (List.mem_append_right _ hm))
      exact ⟨c.keep _ _ hn.1 (fun hm' => nd.2.2 _ hm' _ (List.mem_map_of_mem hm) rfl) (fun hm' => hn.2.1 (List.mem_singleton.mp hm')), hn.2⟩
  · rw [List.map_append, List.nodup_append]
    refine ⟨c.nd, nd.2.1, fun a ha b hb e => ?_⟩
    obtain ⟨p, hp1, rfl⟩ := List.mem_map.mp ha
    obtain ⟨q, hq1, rfl⟩ := List.mem_map.mp hb
    rcases c.own p hp1 with h | h
    · exact nd.2.2 _ h _ (List.mem_map_of_mem hq1) e
    · have := (H.nw q (hp.mem_iff.mpr (List.mem_append_right _ hq1))).1
      rw [e] at h; rw [h] at this; cases this
theorem off_frames {a : Addr} (h : Off base outer a) : a ∉ outer.filterMap (·.frame) := fun hm => by
  obtain ⟨env, he, hf⟩ := List.mem_filterMap.mp hm
  exact h.2 env he hf
theorem thrown_of {M : Model} {X : String} {e : Addr} {nm : Str} {sc : Scope} {fa : Addr} {cd : Value} {s₀ : Shared} {h' : Heap} {E' : Value → Shared → Prop} {Q : Unit → Shared → Prop} (W : Wd s.gens s.os g L s₁ fl news) (I : Inn A base outer s s₀ g foot) (OW : Own base outer s foot) (x : Ext upd news rest)
    (hx : Heap.NewExc s₁.heap h' e X) (hk : sc.kind = .function) (h : ∀ s', Thrown base outer s s' (foot.map (·.1)) upd e X → Q () s') :
    wpAny M (A.deeper (envOf nm sc L fa cd)) (leaving (envOf nm sc L fa cd) (.ref e)) Q E' { s₁ with heap := h' } := by
  have hp := x.perm
  have nd : ((upd ++ rest).map (·.1)).Nodup := (hp.map _).nodup_iff.mp W.nd
  rw [List.map_append, List.nodup_append] at nd
  refine leave_newS (news := upd) (s' := { s₁ with heap := h' }) I.below hx W.fr (fun p hm => W.nw p (hp.mem_iff.mpr (List.mem_append_left _ hm))) (fun h'' R _ sm => h _ ?_) hk
  obtain ⟨B, a0, hB, hBg, hl, hfl⟩ := R
  refine ⟨⟨B, a0, hB, fun b o eb hf hb => hBg b o (I.hid b o eb hb) hf, fun p hm => (hl p hm).1, hfl⟩, fun b hb o eb => ?_, fun p hm => ?_, nd.1, W.gens, W.os⟩
  · have hnf : b ∉ foot.map (·.1) := fun hm => off_frames (OW.off b hm) hb
    have hg := I.hid b o eb hnf
    obtain ⟨_, o', ho', hd⟩ := I.below.frames.mem hb
    rw [hg] at ho'; cases ho'
    exact sm b o hg hd
  · have hn := (W.nw p (hp.mem_iff.mpr (List.mem_append_left _ hm))).2.2
    by_cases hf : p.1 ∈ foot.map (·.1)
    · exact .inl hf
    · refine .inr ?_
      cases q : s.heap.get? p.1 with
      | none => rfl
      | some o => rw [I.hid _ _ q hf] at hn; cases hn
theorem caught_W {X T' : String} {xn : Str} {nm : Str} {sc : Scope} {fa e : Addr} {cd : Value} {b₀ : Stmt} {suite : List Stmt} {pos np : Pos} {hrest : List ExceptHandler} {Q : Flow → Shared → Prop} {p : Program} {lo : List Str} {mean : ExcName → Option Value} {mg mb : Str → Option Value}
    (W : Wd G O g L s fl news) (K : Below A base outer g) (x : Ext old news rest) (Th : Thrown base (envOf nm sc L fa cd :: outer) s s' (old.map (·.1)) upd e X) (XB : (KK w.params).In base) (TB : Top p lo mean mg mb base) (D : KtsDicts (outer.filterMap (·.frame)) g)
    (ex : nsIn (KK w.params) mainGlobals xn = some none) (hv : bootBuiltins xn = some (.type T')) (hn' : xn ≠ "__name__")
    (hexc : isSubtype (.type T') (.type "BaseException") = pure true) (hnt : isSubtype (.type ((Manifest.find? T').elim "type" fun y => y.metatype)) (.type "tuple") = pure false) (hsub : isSubtype (.type X) (.type T') = pure true)
    (k : ∀ g' s'', KtsTurn (outer.filterMap (·.frame)) g g' → Below A base outer g' → Wd G O g' L s'' fl (upd ++ rest) → s''.gens = s'.gens →
      wpAny (model prog w) ((A.deeper (envOf nm sc L fa cd)).mark (some (.ref e))) (execs (b₀ :: suite) (envOf nm sc L fa cd)) Q E s'')
    (hk : sc.kind = .function) (hx : (envOf nm sc L fa cd).kindOf xn = some .globalImplicit) (hd : (xn == ("__debug__" : Str)) = false)
    (hE : PassesOwnAt (model prog w) ((A.deeper (envOf nm sc L fa cd)).mark (some (.ref e))) (A.deeper (envOf nm sc L fa cd)) (envOf nm sc L fa cd) E) :
    wpAny (model prog w) (A.deeper (envOf nm sc L fa cd)) (noteFrame (.ref e) (envOf nm sc L fa cd))
      (fun _ s₂ => wpAny (model prog w) (A.deeper (envOf nm sc L fa cd)) (setFlight (.ref e) none) (fun _ s₃ =>
        wpAny (model prog w) (A.deeper (envOf nm sc L fa cd)) (handleBy (.ref e) (envOf nm sc L fa cd) (.ExceptHandler (some (.Name xn np)) none (b₀ :: suite) pos :: hrest)) Q E s₃) E s₂) E s' := by
  have hp := x.perm
  have nd : ((old ++ rest).map (·.1)).Nodup := (hp.map _).nodup_iff.mp W.nd
  have ndu := nd
  rw [List.map_append, List.nodup_append] at nd
  obtain ⟨B, a0, hB, hBk, hBu, hfl⟩ := Th.fly
  have inNews : ∀ p ∈ rest, p ∈ news := fun p hm => hp.mem_iff.mpr (List.mem_append_right _ hm)
  have oldNews : ∀ p ∈ old, p ∈ news := fun p hm => hp.mem_iff.mpr (List.mem_append_left _ hm)
  have addr : ∀ a, a ∈ news.map (·.1) ↔ a ∈ old.map (·.1) ∨ a ∈ rest.map (·.1) := fun a => by rw [(hp.map _).mem_iff, List.map_append, List.mem_append]
  have frL : ∀ b, b ∈ (envOf nm sc L fa cd :: outer).filterMap (·.frame) → b = L ∨ b ∈ outer.filterMap (·.frame) := fun b hm => kts_mem hm
  have frIn : ∀ b ∈ outer.filterMap (·.frame), ∃ o, g.get? b = some o ∧ ∀ vs, o.data ≠ .fields vs := fun b hb => by
    obtain ⟨_, o, ho, hd⟩ := K.frames.mem hb; exact ⟨o, ho, hd⟩
  have upG : ∀ p ∈ upd, g.get? p.1 = none := fun p hm => by
    rcases Th.own p hm with q | q
    · obtain ⟨p', hp', e'⟩ := List.mem_map.mp q
      rw [← e']; exact (W.nw p' (oldNews p' hp')).2.2
    · cases e' : g.get? p.1 with
      | none => rfl
      | some o => rw [W.keeps _ _ e'] at q; cases q
  have notF : ∀ b, g.get? b = none → b ≠ L → b ∉ (envOf nm sc L fa cd :: outer).filterMap (·.frame) := fun b hg hL hm => by
    rcases frL b hm with q | q
    · exact hL q
    · obtain ⟨o, ho, _⟩ := frIn b q; rw [hg] at ho; cases ho
  have baseNone : ∀ b, g.get? b = none → base.get? b = none := fun b hg => by
    cases q : base.get? b with
    | none => rfl
    | some o => rw [K.stays _ _ q] at hg; cases hg
  have hGn : ∀ b, b ∈ news.map (·.1) → (hideAll s.heap (news.map (·.1))).get? b = none := fun b hm => hideAll_none _ hm
  have FG : Fr g L (hideAll s.heap (news.map (·.1))) (fun y => fl.lookup y) := by
    refine ⟨?_, fun b o e => hideAll_get _ (W.keeps b o e) fun hm => ?_, W.fr.above⟩
    · obtain ⟨oL, es, ep, hL, r⟩ := W.fr.ns
      refine ⟨oL, es, ep, hideAll_get _ hL fun hm => ?_, r⟩
      obtain ⟨p, hp', e⟩ := List.mem_map.mp hm
      exact (W.nw p hp').2.1 e
    · obtain ⟨p, hp', e'⟩ := List.mem_map.mp hm
      rw [← e', (W.nw p hp').2.2] at e; cases e
  have RS : RaisedSN base (hideAll s.heap (news.map (·.1))) (envOf nm sc L fa cd :: outer) e (.type X) (upd ++ rest) s'.heap := by
    refine ⟨B, a0, hB, fun b o eb hf => hBk b o (of_hideAll _ eb) hf fun hm => ?_, fun p hm => ?_, hfl⟩
    · rw [hGn b ((addr b).mpr (.inl hm))] at eb; cases eb
    · rcases List.mem_append.mp hm with hm | hm
      · refine ⟨hBu p hm, ?_, baseNone _ (upG p hm)⟩
        rcases Th.own p hm with q | q
        · exact hGn _ ((addr _).mpr (.inl q))
        · cases e' : (hideAll s.heap (news.map (·.1))).get? p.1 with
          | none => rfl
          | some o => rw [of_hideAll _ e'] at q; cases q
      · have hn := W.nw p (inNews p hm)
        refine ⟨hBk _ _ hn.1 (notF _ hn.2.2 hn.2.1) fun hm' => nd.2.2 _ hm' _ (List.mem_map_of_mem hm) rfl, hGn _ (List.mem_map_of_mem (inNews p hm)), baseNone _ hn.2.2⟩
  have sm : (hideAll s.heap (news.map (·.1))).UpToSlots s'.heap := fun b o eb hd' => by
    have es := of_hideAll _ eb
    by_cases hf : b ∈ (envOf nm sc L fa cd :: outer).filterMap (·.frame)
    · exact Th.slots b hf o es
    · refine ⟨o.slots, hfl.1 b o (hBk b o es hf fun hm => ?_)⟩
      rw [hGn b ((addr b).mpr (.inl hm))] at eb; cases eb
  have ndU : ((upd ++ rest).map (·.1)).Nodup := by
    rw [List.map_append, List.nodup_append]
    refine ⟨Th.nd, nd.2.1, fun a ha b hb e => ?_⟩
    obtain ⟨p, hp1, rfl⟩ := List.mem_map.mp ha
    obtain ⟨q, hq1, rfl⟩ := List.mem_map.mp hb
    rcases Th.own p hp1 with h | h
    · exact nd.2.2 _ h _ (List.mem_map_of_mem hq1) e
    · have := (W.nw q (inNews q hq1)).1
      rw [e] at h; rw [h] at this; cases this
  refine caught_SN0 (g₀ := g) RS FG K sm XB TB D .refl ex hv hn' hexc hnt hsub (fun h' g' T F' N' K' _ _ _ => ?_) hk hx hd hE
  exact k g' _ T K' ⟨F', N', ndU, Th.gens.trans W.gens, Th.os.trans W.os⟩ rfl
end
end
section
open PySem PySem.W PyProof.Rows PySem.Calls Builtin
set_option Elab.async false
set_option maxRecDepth 100000
set_option pp.deepTerms false
set_option pp.maxSteps 1500
set_option linter.unusedVariables false
section
variable {prog : Program} {w : World} {κ : Type} [DecidableEq κ] {ek : EK prog w κ} {th : SetTh ek}
  {A : Around} {E : Value → Shared → Prop} {s s' s₁ : Shared} {R : Result → Shared → Prop} {x : Addr} {ks kb kl km : List κ} {k : κ} {v v2 : Value} {w0 : List Addr} {name : Str} {id T : String}
  {G : Array GenState} {O : OsState} {g base : Heap} {outer : List Env} {L a r l : Addr} {fl : List (Str × Value)} {news old upd rest foot : List (Addr × Obj)} {ob ob' : Obj} {f : Obj → List (Addr × Obj)} {o o' : Tob} {xs : Array Value} {m : Nat}
abbrev excF (t0 tb : Value) : Array Value := #[t0, tb, .none, .none, .bool false, .none]
theorem note_first {M : Model} {env : Env} {e : Addr} {oe : Obj} {t0 : Value} {Q : Unit → Shared → Prop} (hfr : A.frames = some (env :: outer)) (hl : s.heap.FunFrames base (env :: outer)) (hf : env.frame = some L)
    (he : s.heap.get? e = some oe) (hd : oe.data = .fields (excF t0 .none))
    (h : ∀ h' T oT, (∀ b o, s.heap.get? b = some o → b ∉ (env :: outer).filterMap (·.frame) → b ≠ e → h'.get? b = some o) → (∀ b ∈ (env :: outer).filterMap (·.frame), ∀ o, s.heap.get? b = some o → ∃ sl, h'.get? b = some { o with slots := sl }) →
      (∃ oe', h'.get? e = some oe' ∧ oe'.cls = oe.cls ∧ oe'.data = .fields (excF t0 (.ref T))) → s.heap.get? T = none → h'.get? T = some oT → (∃ ts, oT.data = .fields ts ∧ 3 < ts.size) → Q () { s with heap := h' }) :
    wpAny M A (noteFrame (.ref e) env) Q E s := by
  have hene : e ∉ (env :: outer).filterMap (·.frame) := fun hm => by
    obtain ⟨_, o, ho, hnf⟩ := hl.mem hm
    rw [he] at ho; cases ho; exact hnf _ hd
  unfold noteFrame
  simp only [hf]
  refine wpAny_bind (wpAny_field he hd (x := .none) rfl ?_)
  rw [if_neg (by decide)]
  refine wpAny_bind (wpAny_frameOf_fun hfr hl hf fun h₁ hs₁ => ?_)
  refine wpAny_bind (wpAny_entryPlaceOf fun pl hpl => ?_)
  unfold EntryCells.newEntry newFields
  refine wpAny_bind (wpAny_newObj_type ?_ (hpl.sizeOk5 _ _ _ _ _))
  have he₁ : h₁.get? e = some oe := (hs₁.2.1 e hene).trans he
  have he₂ := Heap.get?_push_of_some (h := h₁) { cls := .type "traceback", dict := none, data := .fields ([Value.none, .ref L, .none, rawInt L, .none] ++ (if pl.isEmpty then List.replicate 6 Value.none else pl)).toArray } he₁
  refine wpAny_setField he₂ hd (show 1 < 6 by decide) (h _ h₁.objs.size _ (fun b o e1 hb hbe => ?_) (fun b hb o e1 => ?_) ?_ ?_ ((Heap.get?_update_other _ _ (fun q => ?_)).trans (Heap.get?_push_size h₁ rfl)) ?_)
  · rw [Heap.get?_update_other _ _ (Ne.symm hbe)]
    exact Heap.get?_push_of_some _ ((hs₁.2.1 b hb).trans e1)
  · obtain ⟨sl, hs⟩ := hs₁.2.2 b o e1
    refine ⟨sl, ?_⟩
    rw [Heap.get?_update_other _ _ (fun q : e = b => hene (by rw [q]; exact hb))]
    exact Heap.get?_push_of_some _ hs
  · have hd₃ := Obj.data_mapFields hd (·.setIfInBounds 1 (Value.ref h₁.objs.size))
    exact ⟨_, Heap.get?_update_self (Obj.mapFields (·.setIfInBounds 1 (Value.ref h₁.objs.size))) he₂ (Obj.isFreed_of_fields hd₃), Obj.cls_mapFields _ _, hd₃⟩
  · rw [hs₁.1]; exact Heap.get?_none_of_le (Nat.le_refl _)
  · rw [q] at he₁; exact absurd (Heap.lt_size he₁) (Nat.lt_irrefl _)
  · refine ⟨_, rfl, ?_⟩
    simp only [List.size_toArray, List.length_append, List.length_cons, List.length_nil]
    omega
theorem flight_none {M : Model} {e T : Addr} {oe oT : Obj} {vs ts : Array Value} {Q : Unit → Shared → Prop} (he : s.heap.get? e = some oe) (hd : oe.data = .fields vs) (h1 : vs[1]? = some (.ref T)) (hT : s.heap.get? T = some oT) (hdT : oT.data = .fields ts) (h3 : 3 < ts.size)
    (h : ∀ h' oT', (∀ b, b ≠ T → h'.get? b = s.heap.get? b) → h'.get? T = some oT' → (∃ ts', oT'.data = .fields ts' ∧ 3 < ts'.size) → Q () { s with heap := h' }) : wpAny M A (setFlight (.ref e) none) Q E s := by
  unfold setFlight
  refine wpAny_bind (wpAny_field he hd h1 ?_)
  rw [if_pos (show (Value.ref T != Value.none) = true from by simp)]
  refine wpAny_setField hT hdT h3 (h _ _ (fun b hb => Heap.get?_update_other _ _ (Ne.symm hb)) (Heap.get?_update_self _ hT (Obj.isFreed_of_fields (Obj.data_mapFields hdT _))) ⟨_, Obj.data_mapFields hdT _, by simpa using h3⟩)
theorem caught_new_W {X T' : String} {xn : Str} {nm : Str} {sc : Scope} {fa e : Addr} {cd : Value} {b₀ : Stmt} {suite : List Stmt} {pos np : Pos} {hrest : List ExceptHandler} {Q : Flow → Shared → Prop} {p : Program} {lo : List Str} {mg mb : Str → Option Value} {h₁ : Heap}
    (W : Wd G O g L s fl news) (K : Below A base outer g) (hxn : Heap.NewExc s.heap h₁ e X) (XB : (KK w.params).In base) (TB : TopRead p lo mg mb base)
    (ex : nsIn (KK w.params) mainGlobals xn = some none) (hv : bootBuiltins xn = some (.type T')) (hn' : xn ≠ "__name__")
    (hexc : isSubtype (.type T') (.type "BaseException") = pure true) (hnt : isSubtype (.type ((Manifest.find? T').elim "type" fun y => y.metatype)) (.type "tuple") = pure false) (hsub : isSubtype (.type X) (.type T') = pure true)
    (k : ∀ g' s'' T oe t0, KtsTurn (outer.filterMap (·.frame)) g g' → Below A base outer g' → Wd G O g' L s'' fl news → s''.heap.get? e = some oe → oe.data = .fields (excF t0 (.ref T)) → g'.get? e = none → e ∉ news.map (·.1) → e ≠ L →
      wpAny (model prog w) ((A.deeper (envOf nm sc L fa cd)).mark (some (.ref e))) (execs (b₀ :: suite) (envOf nm sc L fa cd)) Q E s'')
    (hk : sc.kind = .function) (hx : (envOf nm sc L fa cd).kindOf xn = some .globalImplicit) (hd : (xn == ("__debug__" : Str)) = false)
    (hE : PassesOwnAt (model prog w) ((A.deeper (envOf nm sc L fa cd)).mark (some (.ref e))) (A.deeper (envOf nm sc L fa cd)) (envOf nm sc L fa cd) E) :
    wpAny (model prog w) (A.deeper (envOf nm sc L fa cd)) (noteFrame (.ref e) (envOf nm sc L fa cd))
      (fun _ s₂ => wpAny (model prog w) (A.deeper (envOf nm sc L fa cd)) (setFlight (.ref e) none) (fun _ s₃ =>
        wpAny (model prog w) (A.deeper (envOf nm sc L fa cd)) (handleBy (.ref e) (envOf nm sc L fa cd) (.ExceptHandler (some (.Name xn np)) none (b₀ :: suite) pos :: hrest)) Q E s₃) E s₂) E { s with heap := h₁ } := by
  obtain ⟨ob, t0, he, hcls, hdat⟩ := hxn.there
  have K' := K.push (name := nm) (a := fa) (cd := cd) W.fr hk
  have hen : ∀ b o, s.heap.get? b = some o → b ≠ e := fun b o eb q => by rw [q, hxn.new] at eb; cases eb
  have frIn : ∀ b ∈ (envOf nm sc L fa cd :: outer).filterMap (·.frame), ∃ o, s.heap.get? b = some o ∧ ∀ vs, o.data ≠ .fields vs := fun b hb => by
    obtain ⟨_, o, ho, hd⟩ := K'.frames.mem hb; exact ⟨o, ho, hd⟩
  have main : ∀ (h' : Heap) (T : Addr) (oT : Obj), (∀ b o, s.heap.get? b = some o → b ∉ (envOf nm sc L fa cd :: outer).filterMap (·.frame) → h'.get? b = some o) → (∀ b ∈ (envOf nm sc L fa cd :: outer).filterMap (·.frame), ∀ o, s.heap.get? b = some o → ∃ sl, h'.get? b = some { o with slots := sl }) →
      ∃ g', KtsTurn (outer.filterMap (·.frame)) g g' ∧ Below A base outer g' ∧ Wd G O g' L { s with heap := h' } fl news := fun h' T oT kp sl => by
    have sm : s.heap.UpToSlots h' := fun b o eb _ => by
      by_cases hb : b ∈ (envOf nm sc L fa cd :: outer).filterMap (·.frame)
      · exact sl b hb o eb
      · exact ⟨o.slots, kp b o eb hb⟩
    obtain ⟨g₅, T₅, F₅, K₅⟩ := kts_ground (B := hideAll s.heap ((envOf nm sc L fa cd :: outer).filterMap (·.frame))) K W.fr (fun b o eb hb => hideAll_get _ eb hb) (fun b o eb => kp b o (of_hideAll _ eb) fun hm => by rw [hideAll_none _ hm] at eb; cases eb) sm
    refine ⟨g₅, T₅, K₅, F₅, fun q hq => ?_, W.nd, W.gens, W.os⟩
    have hn := W.nw q hq
    refine ⟨kp _ _ hn.1 fun hm => ?_, hn.2.1, T₅.none_ _ hn.2.2⟩
    rcases kts_mem hm with z | z
    · exact hn.2.1 z
    · obtain ⟨_, o, ho, _⟩ := K.frames.mem z
      rw [hn.2.2] at ho; cases ho
  have ff : (({ s with heap := h₁ } : Shared).heap).FunFrames base (envOf nm sc L fa cd :: outer) := K'.frames.of_keeps fun b o hb _ => ⟨o, hxn.keeps b o hb, rfl⟩
  refine note_first (s := { s with heap := h₁ }) (base := base) K'.stack ff rfl he hdat fun h₂ T oT kp₂ sl₂ hexc₂ hTn hT₂ hts₂ => ?_
  obtain ⟨oe₂, he₂, hc₂, hd₂⟩ := hexc₂
  obtain ⟨ts₂, hdT₂, h3₂⟩ := hts₂
  have hTe : T ≠ e := fun q => by rw [q, show h₁.get? e = some ob from he] at hTn; cases hTn
  have hTs : ∀ b o, s.heap.get? b = some o → b ≠ T := fun b o eb q => by rw [← q, hxn.keeps _ _ eb] at hTn; cases hTn
  have kpS : ∀ b o, s.heap.get? b = some o → b ∉ (envOf nm sc L fa cd :: outer).filterMap (·.frame) → h₂.get? b = some o := fun b o eb hb => kp₂ b o (hxn.keeps _ _ eb) hb (hen b o eb)
  have slS : ∀ b ∈ (envOf nm sc L fa cd :: outer).filterMap (·.frame), ∀ o, s.heap.get? b = some o → ∃ sl, h₂.get? b = some { o with slots := sl } := fun b hb o eb => sl₂ b hb o (hxn.keeps _ _ eb)
  refine flight_none (s := { s with heap := h₂ }) he₂ hd₂ rfl hT₂ hdT₂ h3₂ fun h₃ oT₃ o₃ hT₃ hts₃ => ?_
  obtain ⟨ts₃, hdT₃, h3₃⟩ := hts₃
  have kp3 : ∀ b o, s.heap.get? b = some o → b ∉ (envOf nm sc L fa cd :: outer).filterMap (·.frame) → h₃.get? b = some o := fun b o eb hb => (o₃ b (hTs b o eb)).trans (kpS b o eb hb)
  have sl3 : ∀ b ∈ (envOf nm sc L fa cd :: outer).filterMap (·.frame), ∀ o, s.heap.get? b = some o → ∃ sl, h₃.get? b = some { o with slots := sl } := fun b hb o eb => by
    obtain ⟨sl, hs⟩ := slS b hb o eb
    exact ⟨sl, (o₃ b (hTs b o eb)).trans hs⟩
  have he3 : h₃.get? e = some oe₂ := (o₃ e (Ne.symm hTe)).trans he₂
  obtain ⟨g₅, T₅, K₅, W₅⟩ := main h₃ T oT₃ kp3 sl3
  refine wpAny_handleBy_builtin (s := { s with heap := h₃ }) (X := X) (T := T') (b := true) hexc hnt hsub (name_B W₅.fr (XB.keeps K₅.stays) (TB.keeps K₅.stays) ex hv hn' ⟨rfl, ⟨oe₂, he3, hc₂.trans hcls⟩, ?_⟩ hk hx hd)
  refine flight_none (s := { s with heap := h₃ }) he3 hd₂ rfl hT₃ hdT₃ h3₃ fun h₄ oT₄ o₄ hT₄ hts₄ => ?_
  have kp4 : ∀ b o, s.heap.get? b = some o → b ∉ (envOf nm sc L fa cd :: outer).filterMap (·.frame) → h₄.get? b = some o := fun b o eb hb => (o₄ b (hTs b o eb)).trans (kp3 b o eb hb)
  have sl4 : ∀ b ∈ (envOf nm sc L fa cd :: outer).filterMap (·.frame), ∀ o, s.heap.get? b = some o → ∃ sl, h₄.get? b = some { o with slots := sl } := fun b hb o eb => by
    obtain ⟨sl, hs⟩ := sl3 b hb o eb
    exact ⟨sl, (o₄ b (hTs b o eb)).trans hs⟩
  obtain ⟨g₆, T₆, K₆, W₆⟩ := main h₄ T oT₄ kp4 sl4
  refine wpAny_passesOwnAt hE (k g₆ _ T oe₂ t0 T₆ K₆ W₆ ((o₄ e (Ne.symm hTe)).trans he3) hd₂ ?_ ?_ ?_)
  · refine T₆.none_ _ ?_
    cases q : g.get? e with
    | none => rfl
    | some o => have := W.keeps _ _ q; rw [hxn.new] at this; cases this
  · intro hm
    obtain ⟨q, hq, e'⟩ := List.mem_map.mp hm
    have := (W.nw q hq).1
    rw [e', hxn.new] at this; cases this
  · intro q
    obtain ⟨oL, _, _, hL, _⟩ := W.fr.ns
    rw [← q, hxn.new] at hL; cases hL
end
end
section
open PySem PySem.W PyProof.Rows PySem.Calls Builtin
set_option Elab.async false
set_option maxRecDepth 100000
set_option pp.deepTerms false
set_option pp.maxSteps 1500
set_option linter.unusedVariables false
section
variable {prog : Program} {w : World} {κ : Type} [DecidableEq κ] {ek : EK prog w κ} {th : SetTh ek}
  {A : Around} {E : Value → Shared → Prop} {s s' s₁ : Shared} {R : Result → Shared → Prop} {x : Addr} {ks kb kl km : List κ} {k : κ} {v v2 : Value} {w0 : List Addr} {name : Str} {id T : String}
  {G : Array GenState} {O : OsState} {g base : Heap} {outer : List Env} {L a r l : Addr} {fl : List (Str × Value)} {news old upd rest foot : List (Addr × Obj)} {ob ob' : Obj} {f : Obj → List (Addr × Obj)} {o o' : Tob} {xs : Array Value} {m : Nat}
theorem entry_unchain : entryFor table "proto.unchain" = some Builtin.«proto.unchain» := entryFor_of_tree (by kernel_rfl)
theorem upd_field {M : Model} {a : Addr} {o : Obj} {vs : Array Value} {i : Nat} {x : Value} {Q : Unit → Shared → Prop} (ho : s.heap.get? a = some o) (hd : o.data = .fields vs) (hi : i < vs.size)
    (h : Q () { s with heap := s.heap.update a (Obj.mapFields (·.setIfInBounds i x)) }) : wpAny M A (updateField a i x) Q E s := by
  unfold updateField
  refine wpAny_bind (wpAny_load ho ?_)
  rw [hd]
  dsimp only
  rw [if_pos hi]
  exact wpAny_update ho h
theorem raise_none {X N I : String} {env : Env} (hc : ExcClass X N I) {x : Expr} {k : Nat} {cp pos : Pos} {a0 : Addr} {Q : Flow → Shared → Prop} (hh : A.handled = some (.ref a0))
    (h : wpAny (model prog w) A (eval x env) (fun v s₁ => ∃ a ob t0 o0 vs0, v = .ref a ∧ s₁.heap.get? a = some ob ∧ ob.cls = .type X ∧ ob.data = .fields (excF t0 .none) ∧ s₁.heap.get? a0 = some o0 ∧ o0.data = .fields vs0 ∧ vs0[2]? = some .none ∧ a ≠ a0 ∧
      ∀ h' ob', (∀ b, b ≠ a → h'.get? b = s₁.heap.get? b) → h'.get? a = some ob' → ob'.cls = .type X → (∃ vs', ob'.data = .fields vs' ∧ vs'[0]? = some t0 ∧ vs'[1]? = some .none) → E (.ref a) { s₁ with heap := h' }) E s) :
    wpAny (model prog w) A (exec (.Raise (some x) (some (.Constant .none k cp)) pos) env) Q E s := by
  show wpAny (model prog w) A (do standAt pos; raiseStmt env (some (do let v ← eval x env; standAt pos; pure v)) (some (do let v ← eval (.Constant .none k cp) env; standAt pos; pure v))) Q E s
  refine wpAny_bind (wpAny_standAt ?_)
  unfold raiseStmt
  dsimp only
  refine wpAny_bind (wpAny_bind (wpAny_mono h (fun v s₁ h₁ => wpAny_bind (wpAny_standAt (wpAny_pure ?_))) fun _ _ x => x))
  obtain ⟨a, ob, t0, o0, vs0, rfl, ha, hcls, hd, ha0, hd0, h02, hne, hE⟩ := h₁
  have hT : s₁.TypeIs (.ref a) X := ⟨ob, ha, hcls⟩
  refine wpAny_bind (wpAny_holding (wpAny_bind (wpAny_Constant_none (wpAny_bind (wpAny_standAt (wpAny_pure ?_))))))
  refine wpAny_bind (wpAny_pure ?_)
  have hnt : ∀ {s₂ : Shared} {ob₂ : Obj} {vs₂ : Array Value} {Q' : Bool → Shared → Prop}, s₂.heap.get? a = some ob₂ → ob₂.data = .fields vs₂ → Q' false s₂ → wpAny (model prog w) A (isType (.ref a)) Q' E s₂ := by
    intro s₂ ob₂ vs₂ Q' h1 h2 hq
    simp only [isType, loadHead]
    refine wpAny_bind (wpAny_loadPart h1 ?_)
    rw [h2]; exact wpAny_pure hq
  refine wpAny_bind (wpAny_holding ?_)
  unfold excFromValue isExcClass
  refine wpAny_bind (wpAny_bind (hnt ha hd ?_))
  simp only [Bool.false_eq_true, if_false]
  refine wpAny_pure ?_
  simp only [Bool.false_eq_true, if_false]
  refine wpAny_bind (wpAny_isInstance hT hc.base ?_)
  simp only [if_true]
  refine wpAny_pure ?_
  rw [if_pos (by decide)]
  refine wpAny_bind (wpAny_pure ?_)
  refine wpAny_bind (wpAny_setField ha hd (show 3 < 6 by decide) ?_)
  have hd1 := Obj.data_mapFields hd (·.setIfInBounds 3 Value.none)
  have g1 := Heap.get?_update_self (Obj.mapFields (·.setIfInBounds 3 Value.none)) ha (Obj.isFreed_of_fields hd1)
  refine wpAny_bind (wpAny_setField g1 hd1 (show 4 < 6 by decide) ?_)
  have hd2 := Obj.data_mapFields hd1 (·.setIfInBounds 4 (Value.bool true))
  have g2 := Heap.get?_update_self (Obj.mapFields (·.setIfInBounds 4 (Value.bool true))) g1 (Obj.isFreed_of_fields hd2)
  have c2 : (Obj.mapFields (·.setIfInBounds 4 (Value.bool true)) (Obj.mapFields (·.setIfInBounds 3 Value.none) ob)).cls = .type X := by rw [Obj.cls_mapFields, Obj.cls_mapFields]; exact hcls
  refine wpAny_bind (hnt g2 hd2 ?_)
  rw [if_neg (by decide)]
  unfold raisedInstance
  refine wpAny_bind (wpAny_bind (wpAny_typeOf ⟨_, g2, c2⟩ (wpAny_bind (m := typeOf (.type X)) (wpAny_pure ?_))))
  rw [if_pos hc.metaType]
  refine wpAny_pure ?_
  unfold setFlight
  refine wpAny_bind (wpAny_bind (wpAny_field g2 hd2 (x := .none) rfl ?_))
  rw [if_neg (by decide)]
  refine wpAny_pure ?_
  unfold raiseNew
  refine wpAny_bind (wpAny_handled ?_)
  rw [hh]
  dsimp only
  have hne' : (Value.ref a0 != Value.ref a) = true := by simpa using Ne.symm hne
  rw [if_pos hne']
  have g0 : ∀ u u', ((s₁.heap.update a u).update a u').get? a0 = some o0 := fun u u' => by
    rw [Heap.get?_update_other _ _ hne, Heap.get?_update_other _ _ hne]; exact ha0
  refine wpAny_bind (wpAny_holding (wpAny_runValue (codeAny_builtin entry_unchain ?_)))
  unfold Builtin.«proto.unchain»
  dsimp only
  refine wpAny_bind (wpAny_field (g0 _ _) hd0 h02 ?_)
  rw [if_pos (by decide)]
  refine wpAny_bind (wpAny_pure (wpAny_pure ?_))
  refine wpAny_bind (upd_field g2 hd2 (show 2 < 6 by decide) ?_)
  have hd3 := Obj.data_mapFields hd2 (·.setIfInBounds 2 (Value.ref a0))
  have g3 := Heap.get?_update_self (Obj.mapFields (·.setIfInBounds 2 (Value.ref a0))) g2 (Obj.isFreed_of_fields hd3)
  refine wpAny_throw (hE _ _ (fun b hb => ?_) g3 (by rw [Obj.cls_mapFields]; exact c2) ⟨_, hd3, rfl, rfl⟩)
  rw [Heap.get?_update_other _ _ (Ne.symm hb), Heap.get?_update_other _ _ (Ne.symm hb), Heap.get?_update_other _ _ (Ne.symm hb)]
end
end
section
open PySem PySem.W PyProof.Rows PySem.Calls Builtin
set_option Elab.async false
set_option maxRecDepth 100000
set_option pp.deepTerms false
set_option pp.maxSteps 1500
set_option linter.unusedVariables false
section
variable {prog : Program} {w : World} {κ : Type} [DecidableEq κ] {ek : EK prog w κ} {th : SetTh ek}
  {A : Around} {E : Value → Shared → Prop} {s s' s₁ : Shared} {R : Result → Shared → Prop} {x : Addr} {ks kb kl km : List κ} {k : κ} {v v2 : Value} {w0 : List Addr} {name : Str} {id T : String}
  {G : Array GenState} {O : OsState} {g base : Heap} {outer : List Env} {L a r l : Addr} {fl : List (Str × Value)} {news old upd rest foot : List (Addr × Obj)} {ob ob' : Obj} {f : Obj → List (Addr × Obj)} {o o' : Tob} {xs : Array Value} {m : Nat}
theorem thrown_ofG {M : Model} {X : String} {e : Addr} {nm : Str} {sc : Scope} {fa : Addr} {cd : Value} {h' g' : Heap} {as : List Addr} {E' : Value → Shared → Prop} {Q : Unit → Shared → Prop} (W : Wd s.gens s.os g' L s₁ fl news) (K : Below A base outer g')
    (hg : ∀ b o, s.heap.get? b = some o → b ∉ as → b ∉ outer.filterMap (·.frame) → g'.get? b = some o) (ht : ∀ b ∈ outer.filterMap (·.frame), ∀ o, s.heap.get? b = some o → ∃ sl, g'.get? b = some { o with slots := sl }) (x : Ext upd news rest) (hown : ∀ p ∈ upd, p.1 ∈ as ∨ s.heap.get? p.1 = none)
    (kx : ∀ b o, s₁.heap.get? b = some o → h'.get? b = some o) (hnew : s₁.heap.get? e = none) (hob : ∃ ob vs t0, h'.get? e = some ob ∧ ob.cls = .type X ∧ ob.data = .fields vs ∧ vs[0]? = some t0 ∧ vs[1]? = some .none)
    (hk : sc.kind = .function) (h : ∀ s', Thrown base outer s s' as upd e X → Q () s') :
    wpAny M (A.deeper (envOf nm sc L fa cd)) (leaving (envOf nm sc L fa cd) (.ref e)) Q E' { s₁ with heap := h' } := by
  have hp := x.perm
  have nd : ((upd ++ rest).map (·.1)).Nodup := (hp.map _).nodup_iff.mp W.nd
  rw [List.map_append, List.nodup_append] at nd
  have K' := K.push (name := nm) (a := fa) (cd := cd) W.fr hk
  obtain ⟨ob, vs, t0, he, hcls, hd, h0, h1⟩ := hob
  have hin : ∀ env ∈ (envOf nm sc L fa cd :: outer), ∀ b, env.frame = some b → b ∈ (envOf nm sc L fa cd :: outer).filterMap (·.frame) := fun env he b hb => List.mem_filterMap.mpr ⟨env, he, hb⟩
  have ff := (funFrames_hide K'.frames hin).of_keeps (h' := h') fun b o hb _ => ⟨o, kx b o hb, rfl⟩
  have frG : ∀ b ∈ outer.filterMap (·.frame), ∃ o, g'.get? b = some o ∧ ∀ vs, o.data ≠ .fields vs := fun b hb => by
    obtain ⟨_, o, ho, hd⟩ := K.frames.mem hb; exact ⟨o, ho, hd⟩
  have notF : ∀ b, (∀ o, g'.get? b = some o → b ∉ outer.filterMap (·.frame)) → b ≠ L → b ∉ (envOf nm sc L fa cd :: outer).filterMap (·.frame) := fun b h1 hL hm => by
    rcases kts_mem hm with q | q
    · exact hL q
    · obtain ⟨o, ho, _⟩ := frG b q; exact h1 o ho q
  refine wpAny_leaving_firstW (s := { s₁ with heap := h' }) (base := hideAll s₁.heap ((envOf nm sc L fa cd :: outer).filterMap (·.frame))) K'.stack ff rfl he (fun b o hb => kx b o (of_hideAll _ hb)) ?_ hd h1 h0 fun h'' hL => h _ ?_
  · cases q : (hideAll s₁.heap ((envOf nm sc L fa cd :: outer).filterMap (·.frame))).get? e with
    | none => rfl
    | some o => have := of_hideAll _ q; rw [hnew] at this; cases this
  obtain ⟨k1, ⟨_, _, k2⟩, k3, k4⟩ := hL
  refine ⟨⟨_, t0, fun b o eb => hideAll_get _ (K'.stays b o eb) fun hm => ?_, fun b o eb hf ha => ?_, fun p hm => ?_, k1, ?_, k2, by rw [← hcls]; exact k3⟩, fun b hb o eb => ?_, hown, nd.1, W.gens, W.os⟩
  · rw [(K'.frames.mem hm).1] at eb; cases eb
  · have eg := hg b o eb ha hf
    refine hideAll_get _ (W.keeps _ _ eg) (notF b (fun _ _ => hf) fun q => ?_)
    rw [q, kts_self W.fr] at eg; cases eg
  · have hn := W.nw p (hp.mem_iff.mpr (List.mem_append_left _ hm))
    exact hideAll_get _ hn.1 (notF _ (fun o eo => by rw [hn.2.2] at eo; cases eo) hn.2.1)
  · cases q : (hideAll s₁.heap ((envOf nm sc L fa cd :: outer).filterMap (·.frame))).get? e with
    | none => rfl
    | some o => have := of_hideAll _ q; rw [hnew] at this; cases this
  · obtain ⟨sl, hs⟩ := ht b hb o eb
    obtain ⟨o', ho', hd'⟩ := frG b hb
    rw [hs] at ho'; cases ho'
    obtain ⟨sl2, hs2⟩ := k4 b _ (kx _ _ (W.keeps _ _ hs)) hd'
    exact ⟨sl2, hs2⟩
theorem call_remove_absent {ob : Obj} {es : Array (Int × Value)} {n : Nat} {t : SetTable} {Q : Value → Shared → Prop} (hA : AOk3 A) (X : (KK w.params).In s.heap) (S : SO th s.heap a ob es n t ks) (hk : ek.is s.heap k v) (hm : k ∉ ks)
    (hE : ∀ s', Keeps s s' → ∀ h' e, Heap.NewExc s'.heap h' e "KeyError" → E (.ref e) { s' with heap := h' }) :
    wpAny (model prog w) A (call (.builtin "set.remove") [.ref a, v]) Q E s := by
  refine bi_remove.call (S.isSet X) (PySem.F.args_set_remove_2 _ _) ?_
  unfold Builtin.«set.remove»
  refine wpAny_bind (wpAny_bind (wpAny_pure (wpAny_pure ?_)))
  dsimp only
  refine wpAny_bind ?_
  unfold Frozenset.withSetAsKey
  refine wpAny_tryCatch ?_
  unfold setDiscard
  refine wpAny_holding (wpAny_bind (ek.pyHash hA.in1.ok hk fun s₁ K₁ => ?_))
  unfold setDiscardHashed
  have tk : TupKept s.heap s₁.heap := .of fun b o e => kp_get K₁ e
  refine wpAny_bind (th.find hA.in1.ok (kp_get K₁ S.at_) S.data (S.is.mono tk) (ek.mono tk hk) fun s₂ r K₂ hr => ?_)
  have hr' : r = none := by
    cases r with
    | none => rfl
    | some i => 
      obtain ⟨e, he, hi⟩ := hr
      have he' : e ∈ es.toList := by rw [← Array.getElem?_toList] at he; exact List.mem_of_getElem? he
      obtain ⟨k', hk1, _, h2⟩ := (S.is.mono tk).key he'
      exact absurd (by rw [ek.inj hi h2]; exact hk1) hm
  subst hr'
  refine wpAny_pure ?_
  rw [if_pos (by decide)]
  exact wpAny_bind (wpAny_rule (new_raise plainExc_KeyError hA.hand (hE s₂ (kp_tr K₁ K₂)) (by rw [sizeLine_eq]; simp)))
theorem c_remove_absent (Gd : Gnd (KK w.params) base) (C : Site 60 A base outer s.heap) (OW : Own base outer s (o.ents x)) (hO : OS th s.heap o ks) (hk : ek.is s.heap k v) (hm : k ∉ ks)
    (h : ∀ s' e, Thrown base outer s s' ((o.ents x).map (·.1)) (o.ents x) e "KeyError" → R (.error (.ref e)) s') :
    codeAny (model prog w) A (.call (.ref 65) ⟨[.ref x, v], []⟩) R s := by
  have XK : (Mine.hd.heap_39 w.params).In base ∧ PySem.Challenge.rw_eu0034_01 = PySem.Challenge.rw_eu0034_01 := ⟨Gd.inK, rfl⟩
  revert XK
  k_fill
  intro _
  refine' enter (K := Mine.hd.heap_39 w.params) (d := 59) (binds := [("self", .ref x), ("element", v)]) Gd C (o.ents x) OW ?ho ?hcd ?hbind ?hloc ?h ?hcell ?c1 ?c2 ?c3
  walk_at "enter"
  intro g L s₁ Rm W I
  have X := I.kin Gd
  have A3 := Rm.ok3 (by decide)
  have Og := hO.mono (I.tupgO OW)
  have hkg := ek.mono (I.tupgO OW) hk
  have O2 := Og.mono W.tg
  have hk2 := ek.mono W.tg hkg
  refine wpAny_execs_cons (wpAny_Expr_any (methodCall_KW (setName Gd W I.below.stays ?_)))
  refine @set_method _ _ _ _ _ _ "set.remove" _ _ _ _ _ _ _ _ W X (f_set_remove _) hi_remove ?_
  refine callWith_method1 (args_cons (nameX_L W.toks.fr rfl (args_cons (nameX_L W.toks.fr rfl (args_nil ?_)))))
  refine call_remove_absent (th := th) (a := x) (ob := o.obj) (es := o.es) (n := o.n) (t := o.t) A3 (W.toks.kin X) (O2.so (W.get (a := x) (.head _))) hk2 hm fun s₅ K5 h' e hx => ?_
  have W5 := W.toks.fx0 (Fx.of_keeps K5 [])
  exact thrown_of W5 I OW (upd := o.ents x) (rest := []) (by exact Ext.self) hx rfl fun s' Th => h s' e Th
theorem c_pop {ks0 : List κ} (Gd : Gnd (KK w.params) base) (C : Site 60 A base outer s.heap) (OW : Own base outer s (o.ents x)) (hO : OS th s.heap o (ks0 ++ [k]))
    (h : ∀ s' o' v, Chg s s' ((o.ents x).map (·.1)) (o'.ents x) → OS th s'.heap o' ks0 → ek.is s'.heap k v → R (.ok (.ret v)) s') :
    codeAny (model prog w) A (.call (.ref 72) ⟨[.ref x], []⟩) R s := by
  have XK : (Mine.hd.heap_39 w.params).In base ∧ PySem.Challenge.rw_eu0034_01 = PySem.Challenge.rw_eu0034_01 := ⟨Gd.inK, rfl⟩
  revert XK
  k_fill
  intro _
  refine' enter (K := Mine.hd.heap_39 w.params) (d := 59) (binds := [("self", .ref x)]) Gd C (o.ents x) OW ?ho ?hcd ?hbind ?hloc ?h ?hcell ?c1 ?c2 ?c3
  walk_at "enter"
  intro g L s₁ Rm W I
  have X := I.kin Gd
  have A3 := Rm.ok3 (by decide)
  have Og := hO.mono (I.tupgO OW)
  have O2 := Og.mono W.tg
  obtain ⟨xs1, xs2, exs, a1, a2⟩ := All2.append_inv' O2.row
  cases a2 with
  | @cons v _ l' _ hv hr =>
  cases hr
  have hsz : o.xs.size = xs1.length + 1 := by rw [← Array.length_toList, exs]; simp
  have hlast : o.xs[o.xs.size - 1]? = some v := by rw [← Array.getElem?_toList, exs, hsz]; simp
  refine wpAny_execs_cons (wpAny_Try_except (wpAny_execs_cons (wpAny_Assign_Name (methodCall_KW (selfList (o := o) (x := x) W X (W.there fun p hp => hp) rfl ?_)))))
  have W1 := W.toks (t := s₁.toks + 1)
  refine listMethod (s := { s₁ with toks := s₁.toks + 1 }) (W1.get (a := o.l) (.tail _ (.head _))) PySem.F.slot_list_pop PySem.F.type_list_pop ?_
  refine callWith_method0 ?_
  refine pop_fx (s := { s₁ with toks := s₁.toks + 1 }) (W1.get (a := o.l) (.tail _ (.head _))) O2.lt hlast fun s₂ ys m' F2 e2 hys => ?_
  have W2 := W1.fx1 (a := o.l) (.tail .head) F2 e2
  have T2 := F2.tup1 (W1.get (a := o.l) (.tail _ (.head _))) (nt_list _ _)
  refine store_W W2 fun s₃ W3 F3 => ?_
  have T3 := W2.fxL F3
  refine wpAny_execs_nil ?_
  refine wpAny_execs_nil ?_
  have hv3 := ek.mono T3 (ek.mono T2 hv)
  have S3 : SetIs ek th.TT s₃.heap o.es o.t (ks0 ++ [k]) := (O2.set.mono T2).mono T3
  have hkn : k ∉ ks0 := fun m => by
    have := hO.set.nodup
    rw [List.nodup_append] at this
    exact this.2.2 k m k (List.mem_singleton.mpr rfl) rfl
  refine wpAny_execs_cons (wpAny_Expr_any (methodCall_KW (setName Gd W3 I.below.stays ?_)))
  refine @set_method _ _ _ _ _ _ "set.remove" _ _ _ _ _ _ _ _ W3 X (f_set_remove _) hi_remove ?_
  refine callWith_method1 (args_cons (nameX_L W3.toks.fr rfl (args_cons (nameX_L W3.toks.fr rfl (args_nil ?_)))))
  refine call_remove (th := th) (o := o.obj) (es := o.es) (n := o.n) (t := o.t) (ks := ks0 ++ [k]) (k := k) A3 (W3.toks.kin X) ⟨W3.get (a := x) (.head _), .inl rfl, rfl, S3⟩ hv3 (fun _ s₅ es n t F S => ?_) (fun q => absurd (List.mem_append_right _ (List.mem_singleton.mpr rfl)) q)
  have W5 := W3.toks.fx1 (a := x) (ob := o.obj) .head F S.at_
  have T5 := F.tup1 (W3.get (a := x) (.head _)) (nt_oset _ _ _ _ _)
  refine wpAny_execs_cons (wpAny_Return_some (nameX_L W5.fr rfl ?_))
  have ef : (ks0 ++ [k]).filter (fun y => decide (y ≠ k)) = ks0 := by
    rw [List.filter_append, List.filter_eq_self.mpr (fun y hy => by simpa using fun q : y = k => hkn (q ▸ hy))]
    simp
  refine h s₅ ⟨o.dx, o.l, es, n, t, ys, m'⟩ v (Chg.of_wd W5 I.hid Ext.self) ⟨?_, ?_⟩ (ek.mono T5 hv3)
  · have := S.is; rwa [ef] at this
  · show ek.All s₅.heap ys.toList ks0
    rw [hys, exs, List.dropLast_concat]
    exact ((EK.All.mono T2 a1).mono T3).mono T5
end
end
section
open PySem PySem.W PyProof.Rows PySem.Calls Builtin
set_option Elab.async false
set_option maxRecDepth 100000
set_option pp.deepTerms false
set_option pp.maxSteps 1500
set_option linter.unusedVariables false
section
variable {prog : Program} {w : World} {κ : Type} [DecidableEq κ] {ek : EK prog w κ} {th : SetTh ek}
  {A : Around} {E : Value → Shared → Prop} {s s' s₁ : Shared} {R : Result → Shared → Prop} {x : Addr} {ks kb kl km : List κ} {k : κ} {v v2 : Value} {w0 : List Addr} {name : Str} {id T : String}
  {G : Array GenState} {O : OsState} {g base : Heap} {outer : List Env} {L a r l : Addr} {fl : List (Str × Value)} {news old upd rest foot : List (Addr × Obj)} {ob ob' : Obj} {f : Obj → List (Addr × Obj)} {o o' : Tob} {xs : Array Value} {m : Nat}
section
variable (P : Params)
theorem g_IndexError : nsIn (KK P) mainGlobals "IndexError" = some none := by kernel_rfl
theorem g_KeyError : nsIn (KK P) mainGlobals "KeyError" = some none := by kernel_rfl
end
theorem exc_Index : isSubtype (.type "IndexError") (.type "BaseException") = pure true := by rw [isSubtype_type]; kernel_rfl
theorem exc_Index2 : isSubtype (.type "IndexError") (.type "IndexError") = pure true := by rw [isSubtype_type]; kernel_rfl
theorem exc_Key : isSubtype (.type "KeyError") (.type "BaseException") = pure true := by rw [isSubtype_type]; kernel_rfl
theorem exc_Key2 : isSubtype (.type "KeyError") (.type "KeyError") = pure true := by rw [isSubtype_type]; kernel_rfl
theorem exc_IndexT : isSubtype (.type ((Manifest.find? "IndexError").elim "type" fun y => y.metatype)) (.type "tuple") = pure false := by rw [isSubtype_type]; kernel_rfl
theorem exc_KeyT : isSubtype (.type ((Manifest.find? "KeyError").elim "type" fun y => y.metatype)) (.type "tuple") = pure false := by rw [isSubtype_type]; kernel_rfl
set_option maxHeartbeats 4000000 in
theorem c_pop_empty (Gd : Gnd (KK w.params) base) (C : Site 60 A base outer s.heap) (OW : Own base outer s (o.ents x)) (hO : OS th s.heap o ([] : List κ))
    (h : ∀ s' e, Thrown base outer s s' ((o.ents x).map (·.1)) (o.ents x) e "KeyError" → R (.error (.ref e)) s') :
    codeAny (model prog w) A (.call (.ref 72) ⟨[.ref x], []⟩) R s := by
  have XK : (Mine.hd.heap_39 w.params).In base ∧ PySem.Challenge.rw_eu0034_01 = PySem.Challenge.rw_eu0034_01 := ⟨Gd.inK, rfl⟩
  revert XK
  k_fill
  intro _
  refine' enter (K := Mine.hd.heap_39 w.params) (d := 59) (binds := [("self", .ref x)]) Gd C (o.ents x) OW ?ho ?hcd ?hbind ?hloc ?h ?hcell ?c1 ?c2 ?c3
  walk_at "enter"
  intro g L s₁ Rm W I
  have X := I.kin Gd
  have A3 := Rm.ok3 (by decide)
  have exs : o.xs = #[] := by
    have := hO.row
    have e : o.xs.toList = [] := by cases hx : o.xs.toList with
      | nil => rfl
      | cons a l => rw [hx] at this; cases this
    simpa using e
  obtain ⟨p, lo, mg, mb, TB⟩ := Gd.top
  have W1 := W.toks (t := s₁.toks + 1)
  refine wpAny_execs_cons (wpAny_Try_except (wpAny_execs_cons (wpAny_Assign_Name (methodCall_KW (selfList (o := o) (x := x) W X (W.there fun p hp => hp) rfl ?_)))))
  refine listMethod (s := { s₁ with toks := s₁.toks + 1 }) (W1.get (a := o.l) (.tail _ (.head _))) PySem.F.slot_list_pop PySem.F.type_list_pop ?_
  refine callWith_method0 ?_
  refine pop_empty (s := { s₁ with toks := s₁.toks + 1 }) (m := o.m) A3 (by rw [← exs]; exact W1.get (a := o.l) (.tail _ (.head _))) fun h₁ tk e hx => ?_
  refine caught_new_W (W.toks (t := tk)) I.below (X := "IndexError") (T' := "IndexError") hx Gd.inK TB (g_IndexError _) (by kernel_rfl) (by decide) exc_Index exc_IndexT exc_Index2 ?_ rfl rfl (by decide) (by passes_own)
  intro g' s₂ T oe t0 TT K2 W2 he hde hg'e hne hL
  have W2t := W2.toks (t := s₂.toks + 1)
  refine wpAny_execs_cons (raise_none excClass_KeyError (a0 := e) rfl ?_)
  refine Call_ (bName (v := .type "KeyError") Gd W2 K2.stays (g_KeyError _) (by kernel_rfl) ?_)
  refine callWith_type1 (args_cons (wpAny_Constant_str (args_nil ?_)))
  refine call_exc excClass_KeyError (s := { s₂ with toks := s₂.toks + 1 }) (fun h₃ e2 hx2 => ?_) (by rw [sizeLine_eq]; simp)
  obtain ⟨ob2, t2, he2, hc2, hd2⟩ := hx2.there
  have ne2 : e2 ≠ e := fun q => by have := hx2.new; rw [q] at this; rw [show s₂.heap.get? e = none from this] at he; cases he
  refine ⟨e2, ob2, t2, oe, _, rfl, he2, hc2, hd2, hx2.keeps _ _ he, hde, rfl, ne2, fun h₄ ob4 o4 g4 c4 v4 => ?_⟩
  obtain ⟨vs4, d4, v40, v41⟩ := v4
  refine thrown_ofG (s₁ := { s₂ with toks := s₂.toks + 1 }) (h' := h₄) (as := (o.ents x).map (·.1)) (upd := o.ents x) (rest := []) (e := e2) (X := "KeyError") W2t K2 (fun b ob eb hb hf => TT.other b ob (I.hid b ob eb hb) hf) (fun b hb ob eb => TT.frame b ob (I.hid b ob eb fun hm => off_frames (OW.off b hm) hb) hb) (by exact Ext.self) (fun p hp => .inl (List.mem_map_of_mem hp)) (fun b ob eb => ?_) hx2.new ⟨ob4, vs4, t2, g4, c4, d4, v40, v41⟩ rfl fun s' Th => h s' e2 Th
  rw [o4 b fun q => ?_]
  · exact hx2.keeps _ _ eb
  · have := hx2.new
    rw [q] at eb
    rw [show s₂.heap.get? e2 = none from this] at eb; cases eb
end
end
section
open PySem PySem.W PyProof.Rows PySem.Calls Builtin
set_option Elab.async false
set_option maxRecDepth 100000
set_option pp.deepTerms false
set_option pp.maxSteps 1500
set_option linter.unusedVariables false
section
variable {prog : Program} {w : World} {κ : Type} [DecidableEq κ] {ek : EK prog w κ} {th : SetTh ek}
  {A : Around} {E : Value → Shared → Prop} {s s' s₁ : Shared} {R : Result → Shared → Prop} {x : Addr} {ks kb kl km : List κ} {k : κ} {v v2 : Value} {w0 : List Addr} {name : Str} {id T : String}
  {G : Array GenState} {O : OsState} {g base : Heap} {outer : List Env} {L a r l : Addr} {fl : List (Str × Value)} {news old upd rest foot : List (Addr × Obj)} {ob ob' : Obj} {f : Obj → List (Addr × Obj)} {o o' : Tob} {xs : Array Value} {m : Nat}
section
variable (P : Params)
theorem g_len : nsIn (KK P) mainGlobals "len" = some none := by kernel_rfl
theorem g_abs : nsIn (KK P) mainGlobals "abs" = some none := by kernel_rfl
end
theorem set_item_fx {xs : Array Value} {i : Nat} {tk : Tok} {Q : Unit → Shared → Prop} (hl : s.heap.get? l = some (lstO xs m)) (hi : i < xs.size) (hz : xs.size ≤ 1000)
    (h : ∀ s' m', Fx s s' [l] → s'.heap.get? l = some (lstO (xs.setIfInBounds i v) m') → Q () s') : wpAny (model prog w) A (setItem (.ref l) (.int i tk) v) Q E s := by
  obtain ⟨m', e⟩ := lst_upd (s := s) (f := (·.setIfInBounds i v)) hl
  exact ki_setAt hl (by omega) (by omega) (by omega) (h _ m' fx_upd e)
abbrev stO (l0 : Addr) (i c : Int) (t1 t2 : Tok) (m : Nat) : Obj := lstO #[.ref l0, .int i t1, .int c t2] m
theorem nextItem {env : Env} {S l0 : Addr} {i c : Int} {t1 t2 : Tok} {m j : Nat} {np cp sp : Pos} {kk : Nat} {vv : Value} {Q : Value → Shared → Prop} (hS : s.heap.get? S = some (stO l0 i c t1 t2 m)) (hv : (#[.ref l0, .int i t1, .int c t2] : Array Value)[j]? = some vv)
    (hn : ∀ {Q' : Value → Shared → Prop}, Q' (.ref S) s → wpAny (model prog w) A (eval (.Name "state" np) env) Q' E s)
    (h : Q vv { s with toks := s.toks + 1 }) : wpAny (model prog w) A (eval (.Subscript (.Name "state" np) (.Constant (.int j) kk cp) sp) env) Q E s := by
  have hj := (Array.getElem?_eq_some_iff.mp hv).1
  have hj3 : j < 3 := by simpa using hj
  refine Subscript_ (hn (wpAny_Constant_int ?_))
  exact item_listR (s := { s with toks := s.toks + 1 }) (items := #[.ref l0, .int i t1, .int c t2]) ⟨_, hS, rfl, m, rfl⟩ (by omega) (by omega) (x := vv) (by simpa using hv) h
set_option maxHeartbeats 4000000 in
theorem c_next {S l0 : Addr} {i c many : Int} {t1 t2 tm : Tok} {vs : List Value} {ns : List Int} (Gd : Gnd (KK w.params) base) (C : Site 60 A base outer s.heap) (OW : Own base outer s [(S, stO l0 i c t1 t2 m)])
    (hl : s.heap.IsList l0 vs.toArray) (hi : IntsAre vs ns) (hlen : ns.length ≤ 100) (hlS : l0 ≠ S) (h0 : 0 ≤ i ∧ i ≤ ns.length) (hc : 0 ≤ c ∧ c < 2147483647) (hm : 0 < many ∧ many ≤ 1000)
    (h : ∀ s' i' c' t1' t2' m' r tk, Chg s s' [S] [(S, stO l0 i' c' t1' t2' m')] → 0 ≤ i' ∧ i' ≤ ns.length → 0 ≤ c' ∧ c' < 2147483647 → 0 ≤ r ∧ r < many → R (.ok (.ret (.int r tk))) s') :
    codeAny (model prog w) A (.call (.ref 235) ⟨[.ref S, .int many tm], []⟩) R s := by
  have XK : (Mine.hd.heap_39 w.params).In base ∧ PySem.Challenge.rw_eu0034_01 = PySem.Challenge.rw_eu0034_01 := ⟨Gd.inK, rfl⟩
  revert XK
  k_fill
  intro _
  refine' enter (K := Mine.hd.heap_39 w.params) (d := 59) (binds := [("state", .ref S), ("many", .int many tm)]) Gd C [(S, stO l0 i c t1 t2 m)] OW ?ho ?hcd ?hbind ?hloc ?h ?hcell ?c1 ?c2 ?c3
  walk_at "enter"
  intro g L s₁ Rm W I
  have X := I.kin Gd
  have A3 := Rm.ok3 (by decide)
  have hlg : g.IsList l0 vs.toArray := by
    obtain ⟨o, ho, r⟩ := hl
    exact ⟨o, I.hid _ _ ho (by simpa using hlS), r⟩
  have lL : ∀ {s' : Shared} {fl : List (Str × Value)} {news : List (Addr × Obj)}, Wd s.gens s.os g L s' fl news → s'.heap.IsList l0 vs.toArray := fun W => by
    obtain ⟨o, ho, r⟩ := hlg
    exact ⟨o, W.base ho, r⟩
  have hvs : vs.toArray.size = ns.length := by simp [hi.length]
  refine wpAny_execs_cons (wpAny_If (wpAny_isTrue_Compare1 (nextItem (j := 1) (W.get (a := S) (.head _)) rfl (fun q => nameX_L W.fr rfl q) ?_)))
  have W1 := W.toks (t := s₁.toks + 1)
  refine Call_ (bName (v := .builtin "len") Gd W1 I.below.stays (g_len _) (by kernel_rfl) ?_)
  refine PyProof.Rows.callWith_builtin1 ?_
  refine args_cons (nextItem (j := 0) (W1.get (a := S) (.head _)) rfl (fun q => nameX_L W1.fr rfl q) ?_)
  refine args_nil ?_
  have W2 := W.toks (t := s₁.toks + 1 + 1)
  refine Calls.call_len_list (s := { s₁ with toks := s₁.toks + 1 + 1 }) (lL W2) (by omega) ?_
  refine PyProof.Rows.lt_int (wpAny_truthy_bool ?_)
  rw [hvs]
  have stq : ∀ {s' : Shared} {fl : List (Str × Value)} {news : List (Addr × Obj)} {i c : Int} {t1 t2 : Tok} {m : Nat}, Wd s.gens s.os g L s' fl news → (S, stO l0 i c t1 t2 m) ∈ news → s'.heap.get? S = some (stO l0 i c t1 t2 m) := fun W hm => W.get hm
  by_cases hlt : i < ns.length
  · rw [if_pos (by simpa using hlt)]
    have hget : ∃ tv x, vs[i.toNat]? = some (.int x tv) ∧ ns[i.toNat]? = some x := by
      have h1 : i.toNat < ns.length := by omega
      obtain ⟨tv, hx⟩ := hi.get i.toNat _ (List.getElem?_eq_getElem h1)
      exact ⟨tv, _, hx, List.getElem?_eq_getElem h1⟩
    obtain ⟨tv, x0, hx0, _⟩ := hget
    refine wpAny_execs_cons (wpAny_Assign_Name (Call_ (bName (v := .builtin "abs") Gd W.toks I.below.stays (g_abs _) (by kernel_rfl) ?_)))
    refine PyProof.Rows.callWith_builtin1 ?_
    refine args_cons (Subscript_ (nextItem (j := 0) (W.toks.get (a := S) (.head _)) rfl (fun q => nameX_L W.toks.fr rfl q) (nextItem (j := 1) (W.toks.get (a := S) (.head _)) rfl (fun q => nameX_L W.toks.fr rfl q) ?_)))
    refine item_listR (items := vs.toArray) (lL W.toks) h0.1 (by omega) (x := .int x0 tv) (by simpa using hx0) ?_
    refine args_nil (call_abs_int fun u tk => ?_)
    generalize hfd : (if x0 < 0 then -x0 else x0) = found
    have hf0 : 0 ≤ found := by rw [← hfd]; split <;> omega
    refine store_W W.toks fun s₂ W2 _ => ?_
    refine wpAny_execs_cons (wpAny_Assign_Subscript (wpAny_BinOp (nextItem (j := 1) (W2.get (a := S) (.head _)) rfl (fun q => nameX_L W2.fr rfl q) (wpAny_Constant_int (PyProof.Rows.add_int ?_)))))
    refine nameX_L W2.toks.fr rfl (wpAny_Constant_int ?_)
    refine set_item_fx (i := 1) (W2.toks.get (a := S) (.head _)) (by simp) (by simp) fun s₃ m3 F3 e3 => ?_
    have W3 := W2.toks.fx1 (a := S) .head F3 e3
    refine wpAny_execs_cons (wpAny_Assign_Subscript (wpAny_BinOp (wpAny_BinOp (wpAny_BinOp (nextItem (j := 2) (W3.get (a := S) (.head _)) rfl (fun q => nameX_L W3.fr rfl q) (wpAny_Constant_int (PyProof.Rows.mul_int ?_ ?_)))))))
    · refine nameX_L W3.toks.fr rfl (PyProof.Rows.add_int (wpAny_Constant_int (PyProof.Rows.mod_int' (by decide) ?_)))
      have h1 := Int.fmod_nonneg_of_pos (c * 31 + found) (b := 2147483647) (by decide)
      have h2 := Int.fmod_lt_of_pos (c * 31 + found) (b := 2147483647) (by decide)
      generalize (c * 31 + found).fmod 2147483647 = c' at h1 h2 ⊢
      refine nameX_L W3.toks.fr rfl (wpAny_Constant_int ?_)
      refine set_item_fx (i := 2) (W3.toks.get (a := S) (.head _)) (by simp) (by simp) fun s₄ m4 F4 e4 => ?_
      have W4 := W3.toks.fx1 (a := S) .head F4 e4
      refine wpAny_execs_cons (wpAny_Return_some (wpAny_BinOp (nameX_L W4.fr rfl (nameX_L W4.fr rfl (PyProof.Rows.mod_int' (by omega) ?_)))))
      exact h _ (i + 1) c' _ _ m4 _ _ (Chg.of_wd W4.toks I.hid Ext.self) (by omega) ⟨h1, h2⟩ ⟨Int.fmod_nonneg_of_pos _ hm.1, Int.fmod_lt_of_pos _ hm.1⟩
    · exact IntMulOk.of_right (by decide +kernel)
  · rw [if_neg (by simpa using hlt)]
    refine wpAny_execs_nil ?_
    have W3 := W.toks (t := s₁.toks + 1 + 1 + 1 + 1)
    refine wpAny_execs_cons (wpAny_Assign_Subscript (wpAny_BinOp (wpAny_BinOp (wpAny_BinOp (nextItem (j := 2) (W3.get (a := S) (.head _)) rfl (fun q => nameX_L W3.fr rfl q) (wpAny_Constant_int (PyProof.Rows.mul_int ?_ (IntMulOk.of_right (by decide +kernel)))))))))
    refine wpAny_Constant_int (PyProof.Rows.add_int (wpAny_Constant_int (PyProof.Rows.mod_int' (by decide) ?_)))
    have h1 := Int.fmod_nonneg_of_pos (c * 48271 + 11) (b := 2147483647) (by decide)
    have h2 := Int.fmod_lt_of_pos (c * 48271 + 11) (b := 2147483647) (by decide)
    generalize (c * 48271 + 11).fmod 2147483647 = c' at h1 h2 ⊢
    refine nameX_L W3.toks.fr rfl (wpAny_Constant_int ?_)
    refine set_item_fx (i := 2) (W3.toks.get (a := S) (.head _)) (by simp) (by simp) fun s₄ m4 F4 e4 => ?_
    have W4 := W3.toks.fx1 (a := S) .head F4 e4
    refine wpAny_execs_cons (wpAny_Return_some (wpAny_BinOp (wpAny_BinOp (nextItem (j := 2) (W4.get (a := S) (.head _)) rfl (fun q => nameX_L W4.fr rfl q) (wpAny_Constant_int (floordiv_int (by decide) ?_ ?_))))))
    · refine nameX_L W4.toks.fr rfl (PyProof.Rows.mod_int' (by omega) ?_)
      exact h _ i c' _ _ m4 _ _ (Chg.of_wd W4.toks I.hid Ext.self) h0 ⟨h1, h2⟩ ⟨Int.fmod_nonneg_of_pos _ hm.1, Int.fmod_lt_of_pos _ hm.1⟩
    · exact Or.inl (PyProof.noPylong_small (by omega))
end
end
section
open PySem PySem.W PyProof.Rows PySem.Calls Builtin
set_option Elab.async false
set_option maxRecDepth 100000
set_option pp.deepTerms false
set_option pp.maxSteps 1500
set_option linter.unusedVariables false
section
variable {prog : Program} {w : World} {κ : Type} [DecidableEq κ] {ek : EK prog w κ} {th : SetTh ek}
  {A : Around} {E : Value → Shared → Prop} {s s' s₁ : Shared} {R : Result → Shared → Prop} {x : Addr} {ks kb kl km : List κ} {k : κ} {v v2 : Value} {w0 : List Addr} {name : Str} {id T : String}
  {G : Array GenState} {O : OsState} {g base : Heap} {outer : List Env} {L a r l : Addr} {fl : List (Str × Value)} {news old upd rest foot : List (Addr × Obj)} {ob ob' : Obj} {f : Obj → List (Addr × Obj)} {o o' : Tob} {xs : Array Value} {m : Nat}
theorem walk_range (hh : A.handled = none) (I : Addr) (a c : Int) (n : Nat) :
    Walks prog w A I [I] [I] n (fun i v => ∃ t, v = .int (a + i * c) t) (fun i h => IsRangeIter h I (a + (i : Nat) * c) ((n : Int) - (i : Nat)) c) where
  sub := fun _ hb => hb
  frame := fun _ _ _ st hk => hk I (by simp) _ st
  item := fun i s Q E hi st hQ => by
    refine wpAny_pyNext_range_item st (by omega) fun h' hit' hs' => ?_
    refine hQ _ h' _ ⟨_, rfl⟩ ?_ fun b o hb e => hs'.extBut b o (fun h => hb (by simp [h])) e
    have e1 : a + ((i + 1 : Nat) : Int) * c = a + (i : Int) * c + c := by push_cast; rw [Int.add_mul, Int.one_mul, Int.add_assoc]
    have e2 : (n : Int) - ((i + 1 : Nat) : Int) = (n : Int) - (i : Int) - 1 := by push_cast; omega
    rw [e1, e2]; exact hit'
  done := fun s Q E st hQ => wpAny_pyNext_range_end hh st (by omega) fun h' he' => hQ h' s.toks fun b o hb e => he' b o (fun h => hb (by simp [h])) e
  self := fun _ _ _ _ st hQ => wpAny_pyIter_rangeiter st hQ
theorem set_item_fx' {xs : Array Value} {i : Nat} {j : Int} {tk : Tok} {Q : Unit → Shared → Prop} (hj : j = i) (hl : s.heap.get? l = some (lstO xs m)) (hi : i < xs.size) (hz : xs.size ≤ 1000)
    (h : ∀ s' m', Fx s s' [l] → s'.heap.get? l = some (lstO (xs.setIfInBounds i v) m') → Q () s') : wpAny (model prog w) A (setItem (.ref l) (.int j tk) v) Q E s := by
  subst hj; exact set_item_fx hl hi hz h
theorem fx_ext {h' : Heap} (x : Heap.ExtBut s.heap.objs.size s.heap h') : Fx s { s with heap := h' } [] :=
  ⟨fun b o e _ => x b o (fun q => by rw [q] at e; exact absurd (Heap.lt_size e) (Nat.lt_irrefl _)) e, rfl, rfl⟩
theorem pair_spl {env : Env} {e1 e2 : Expr} {pos : Pos} {Q : List Value → Shared → Prop}
    (h : wpAny (model prog w) A (eval e1 env) (fun v1 s1 => wpAny (model prog w) A (eval e2 env) (fun v2 s2 => Q [v1, v2] s2) E s1) E s) (he1 : starEach [e1, e2] env = (false, eval e1 env) :: starEach [e2] env) (he2 : starEach [e2] env = (false, eval e2 env) :: starEach [] env) :
    wpAny (model prog w) A (spliced (backTo pos (starEach [e1, e2] env))) Q E s :=
  args_cons (wpAny_mono h (fun v1 s1 h1 => args_cons (wpAny_mono h1 (fun v2 s2 h2 => args_nil h2) fun _ _ e => e) he2) fun _ _ e => e) he1
theorem assign_pair {env : Env} {t1 t2 e1 e2 : Expr} {k k2 : Nat} {tp tp2 pos : Pos} {Q : Flow → Shared → Prop} (hh : A.handled = none)
    (h : wpAny (model prog w) A (eval e1 env) (fun v1 s1 => wpAny (model prog w) A (eval e2 env) (fun v2 s2 => ∀ s3, Fx s2 s3 [] →
      wpAny (model prog w) A (assign t1 env v1) (fun _ s4 => wpAny (model prog w) A (assign t2 env v2) (fun _ => Q .next) E s4) E s3) E s1) E s)
    (he1 : starEach [e1, e2] env = (false, eval e1 env) :: starEach [e2] env := by rfl) (he2 : starEach [e2] env = (false, eval e2 env) :: starEach [] env := by rfl) (ha : assignEach [t1, t2] env = [(false, assign t1 env), (false, assign t2 env)] := by rfl)
    (hs : swapsWithSole [.Tuple [t1, t2] k tp] (.Tuple [e1, e2] k2 tp2) pos.line env = pure false := by rfl)
    (hw : swappedStores [.Tuple [t1, t2] k tp] (.Tuple [e1, e2] k2 tp2) env = pure none := by rfl) :
    wpAny (model prog w) A (exec (.Assign [.Tuple [t1, t2] k tp] (.Tuple [e1, e2] k2 tp2) pos) env) Q E s := by
  refine Assign_Tuple (wpAny_Tuple (pair_spl (wpAny_mono h (fun v1 s1 h1 => wpAny_mono h1 (fun v2 s2 h2 => ?_) fun _ _ e => e) fun _ _ e => e) he1 he2)) hs hw
  refine ⟨by rw [sizeLine_eq]; simp, ?_⟩
  have ht : IsTup (s2.heap.push { cls := .type "tuple", data := .seq [v1, v2].toArray }) s2.heap.objs.size [v1, v2].toArray := ⟨_, Heap.get?_push_size _ rfl, rfl, _, rfl⟩
  refine assign_Tuple_tuple (s := { s2 with heap := s2.heap.push { cls := .type "tuple", data := .seq [v1, v2].toArray } }) hh ht (by rw [ha]; rfl) (by rw [ha]; rfl) fun h' x => ?_
  rw [ha]
  have F : Fx s2 { s2 with heap := h' } [] := (show Fx s2 { s2 with heap := s2.heap.push { cls := .type "tuple", data := .seq [v1, v2].toArray } } [] from ⟨fun b o e _ => Heap.get?_push_of_some _ e, rfl, rfl⟩).trans (fx_ext (s := { s2 with heap := s2.heap.push { cls := .type "tuple", data := .seq [v1, v2].toArray } }) x)
  have h3 := h2 _ F
  show wpAny (model prog w) A (assignInOrder [assign t1 env, assign t2 env] [v1, v2]) _ E _
  unfold assignInOrder
  refine wpAny_bind (wpAny_holding (wpAny_mono h3 (fun _ s4 h4 => ?_) fun _ _ e => e))
  unfold assignInOrder
  exact wpAny_bind (wpAny_holding (wpAny_mono h4 (fun _ s5 h5 => wpAny_pure h5) fun _ _ e => e))
theorem assign_pair_sw {env : Env} {t1 t2 e1 e2 : Expr} {n1 n2 : Str} {k k2 : Nat} {tp tp2 pos : Pos} {Q : Flow → Shared → Prop} (hh : A.handled = none)
    (h : wpAny (model prog w) A (eval e1 env) (fun v1 s1 => wpAny (model prog w) A (eval e2 env) (fun v2 s2 => ∀ s3, Fx s2 s3 [] →
      wpAny (model prog w) A (storeName env n2 v2) (fun _ s4 => wpAny (model prog w) A (storeName env n1 v1) (fun _ => Q .next) E s4) E s3) E s1) E s)
    (he1 : starEach [e1, e2] env = (false, eval e1 env) :: starEach [e2] env := by rfl) (he2 : starEach [e2] env = (false, eval e2 env) :: starEach [] env := by rfl)
    (hs : swapsWithSole [.Tuple [t1, t2] k tp] (.Tuple [e1, e2] k2 tp2) pos.line env = pure false := by rfl)
    (hw : swappedStores [.Tuple [t1, t2] k tp] (.Tuple [e1, e2] k2 tp2) env = pure (some [n1, n2]) := by rfl) :
    wpAny (model prog w) A (exec (.Assign [.Tuple [t1, t2] k tp] (.Tuple [e1, e2] k2 tp2) pos) env) Q E s := by
  refine Assign_Tuple_swapped (names := [n1, n2]) (wpAny_Tuple (pair_spl (wpAny_mono h (fun v1 s1 h1 => wpAny_mono h1 (fun v2 s2 h2 => ?_) fun _ _ e => e) fun _ _ e => e) he1 he2)) hs hw
  refine ⟨by rw [sizeLine_eq]; simp, ?_⟩
  have ht : IsTup (s2.heap.push { cls := .type "tuple", data := .seq [v1, v2].toArray }) s2.heap.objs.size [v1, v2].toArray := ⟨_, Heap.get?_push_size _ rfl, rfl, _, rfl⟩
  refine unpackItems_tuple (s := { s2 with heap := s2.heap.push { cls := .type "tuple", data := .seq [v1, v2].toArray } }) (items := [v1, v2].toArray) hh ht fun h' x => ?_
  have F : Fx s2 { s2 with heap := h' } [] := (show Fx s2 { s2 with heap := s2.heap.push { cls := .type "tuple", data := .seq [v1, v2].toArray } } [] from ⟨fun b o e _ => Heap.get?_push_of_some _ e, rfl, rfl⟩).trans (fx_ext (s := { s2 with heap := s2.heap.push { cls := .type "tuple", data := .seq [v1, v2].toArray } }) x)
  have h3 := h2 _ F
  show wpAny (model prog w) A (assignInOrder [bindName env n2, bindName env n1] [v2, v1]) _ E _
  unfold assignInOrder
  refine wpAny_bind (wpAny_holding (bindName_ (wpAny_mono h3 (fun _ s4 h4 => ?_) fun _ _ e => e)))
  unfold assignInOrder
  exact wpAny_bind (wpAny_holding (bindName_ (wpAny_mono h4 (fun _ s5 h5 => wpAny_pure h5) fun _ _ e => e)))
theorem swap_perm {α : Type} (l : List α) (i j : Nat) (hi : i < l.length) (hj : j < l.length) : ((l.set i l[j]).set j l[i]).Perm l := by
  have := Array.swap_perm (xs := l.toArray) (i := i) (j := j) (by simpa) (by simpa)
  simpa [Array.swap_def, Array.perm_iff_toList_perm] using this
end
end
section
open PySem PySem.W PyProof.Rows PySem.Calls Builtin
set_option Elab.async false
set_option maxRecDepth 100000
def okMask (m : Nat) : Bool := m == 7 || m == 15 || m == 31 || m == 63 || m == 127
def stepN (size : Nat) : Nat → Nat → Nat
  | 0, i => i
  | n + 1, i => stepN size n ((i * 5 + 1) % size)
theorem stepN_add (size : Nat) : ∀ (a b i : Nat), stepN size (a + b) i = stepN size b (stepN size a i)
  | 0, b, i => by rw [Nat.zero_add]; rfl
  | a + 1, b, i => by rw [Nat.add_right_comm]; exact stepN_add size a b _
def orbit (size : Nat) : Nat → Nat → List Nat
  | 0, _ => []
  | n + 1, i => i :: orbit size n ((i * 5 + 1) % size)
theorem orbit_get (size : Nat) : ∀ (n i j : Nat), j ∈ orbit size n i → ∃ a, a < n ∧ stepN size a i = j
  | 0, i, j, h => by cases h
  | n + 1, i, j, h => by
    rcases List.mem_cons.mp h with rfl | h
    · exact ⟨0, Nat.succ_pos _, rfl⟩
    · obtain ⟨a, ha, e⟩ := orbit_get size n _ j h
      exact ⟨a + 1, Nat.succ_lt_succ ha, e⟩
theorem cover_orbit : ∀ m, okMask m = true → (List.range (m + 1)).all (fun j => (orbit (m + 1) (m + 1) 0).contains j) = true ∧ stepN (m + 1) (m + 1) 0 = 0 := by
  intro m h
  simp only [okMask, Bool.or_eq_true, beq_iff_eq] at h
  rcases h with (((rfl | rfl) | rfl) | rfl) | rfl <;> decide +kernel
theorem cover (m : Nat) (hm : okMask m = true) (i j : Nat) (hi : i ≤ m) (hj : j ≤ m) : ∃ n, n ≤ m ∧ stepN (m + 1) n i = j := by
  obtain ⟨h1, h2⟩ := cover_orbit m hm
  have get : ∀ x, x ≤ m → ∃ a, a < m + 1 ∧ stepN (m + 1) a 0 = x := fun x hx => by
    have := List.all_eq_true.mp h1 x (List.mem_range.mpr (by omega))
    exact orbit_get _ _ _ _ (by simpa using this)
  obtain ⟨a, ha, ea⟩ := get i hi
  obtain ⟨b, hb, eb⟩ := get j hj
  by_cases hab : a ≤ b
  · refine ⟨b - a, by omega, ?_⟩
    rw [← ea, ← stepN_add, show a + (b - a) = b by omega, eb]
  · refine ⟨b + (m + 1) - a, by omega, ?_⟩
    rw [← ea, ← stepN_add, show a + (b + (m + 1) - a) = (m + 1) + b by omega, stepN_add, h2, eb]
def leapN (mask : Nat) : Nat → Nat → Nat → Nat × Nat
  | 0, i, p => (i, p)
  | n + 1, i, p => leapN mask n (SetTable.leap mask i p).1 (SetTable.leap mask i p).2
theorem leapN_add (mask : Nat) : ∀ (a b i p : Nat), leapN mask (a + b) i p = leapN mask b (leapN mask a i p).1 (leapN mask a i p).2
  | 0, b, i, p => by rw [Nat.zero_add]; rfl
  | a + 1, b, i, p => by rw [Nat.add_right_comm]; exact leapN_add mask a b _ _
theorem leapN_zero (mask : Nat) : ∀ (n i : Nat), leapN mask n i 0 = (stepN (mask + 1) n i, 0)
  | 0, _ => rfl
  | n + 1, i => by
    show leapN mask n (SetTable.leap mask i 0).1 (SetTable.leap mask i 0).2 = _
    have : SetTable.leap mask i 0 = ((i * 5 + 1) % (mask + 1), 0) := by simp [SetTable.leap]
    rw [this]
    exact leapN_zero mask n _
theorem leapN_snd (mask : Nat) : ∀ (n i p : Nat), (leapN mask n i p).2 = p / 32 ^ n
  | 0, _, p => by simp [leapN]
  | n + 1, i, p => by
    show (leapN mask n _ (p / 32)).2 = _
    rw [leapN_snd mask n _ (p / 32), Nat.div_div_eq_div_mul, Nat.pow_succ, Nat.mul_comm]
theorem leapN_le (mask : Nat) : ∀ (n i p : Nat), i ≤ mask → (leapN mask n i p).1 ≤ mask
  | 0, _, _, h => h
  | n + 1, i, p, _ => leapN_le mask n _ _ (Nat.le_of_lt_succ (Nat.mod_lt _ (Nat.succ_pos _)))
theorem bits_lt (h : Int) : SetTable.bits h < 2 ^ 64 := by unfold SetTable.bits; omega
theorem leap_cover (m : Nat) (hm : okMask m = true) (i p j : Nat) (hi : i ≤ m) (hp : p < 2 ^ 64) (hj : j ≤ m) : ∃ n, n < SetTable.turns m ∧ (leapN m n i p).1 = j := by
  have h13 : (leapN m 13 i p).2 = 0 := by
    rw [leapN_snd]
    exact Nat.div_eq_of_lt (Nat.lt_of_lt_of_le hp (by decide))
  obtain ⟨n, hn, e⟩ := cover m hm (leapN m 13 i p).1 j (leapN_le m 13 i p hi) hj
  refine ⟨13 + n, by unfold SetTable.turns; omega, ?_⟩
  rw [leapN_add, h13, leapN_zero, e]
theorem runEnd_le {m i : Nat} (hi : i ≤ m) : i ≤ SetTable.runEnd m i ∧ SetTable.runEnd m i ≤ m := by unfold SetTable.runEnd; split <;> omega
theorem free_some (m : Nat) (owner : Array (Option Nat)) (hs : owner.size = m + 1) : ∀ (fuel i p : Nat), i ≤ m → (∃ n, n < fuel ∧ owner.getD (leapN m n i p).1 (some 0) = none) →
    ∃ j, SetTable.layClean.free m owner fuel i p = some j ∧ j ≤ m ∧ owner.getD j (some 0) = none
  | 0, _, _, _, ⟨n, h, _⟩ => by omega
  | fuel + 1, i, p, hi, ⟨n, hn, e⟩ => by
    unfold SetTable.layClean.free
    have hr := runEnd_le hi
    cases hf : (List.range (SetTable.runEnd m i + 1 - i)).find? fun k => (owner.getD (i + k) (some 0)).isNone with
    | some k =>
      have h1 := List.find?_some hf
      have h2 := List.mem_range.mp (List.mem_of_find?_eq_some hf)
      exact ⟨i + k, rfl, by omega, by simpa using h1⟩
    | none =>
      dsimp only
      have h0 := List.find?_eq_none.mp hf 0 (List.mem_range.mpr (by omega))
      refine free_some m owner hs fuel _ _ (Nat.le_of_lt_succ (Nat.mod_lt _ (Nat.succ_pos _))) ?_
      cases n with
      | zero => exact absurd (show (owner.getD (i + 0) (some 0)).isNone = true by rw [Nat.add_zero]; rw [show owner.getD i (some 0) = none from e]; rfl) (by simpa using h0)
      | succ n => exact ⟨n, by omega, e⟩
def OwnerIs (m k : Nat) (owner : Array (Option Nat)) : Prop := owner.size = m + 1 ∧ (owner.toList.filterMap id).Perm (List.range k)
theorem set_perm {l : List (Option Nat)} : ∀ {j k : Nat}, l[j]? = some none → ((l.set j (some k)).filterMap id).Perm (k :: l.filterMap id) := by
  induction l with
  | nil => intro j k h; simp at h
  | cons a l ih =>
    intro j k h
    cases j with
    | zero =>
      simp at h; subst h
      simp
    | succ j =>
      have h : l[j]? = some none := by simpa using h
      rw [List.set_cons_succ]
      cases a with
      | none => simpa using ih h
      | some b =>
        simp only [List.filterMap_cons_some (b := b) (f := id) (a := some b) rfl]
        exact ((ih h).cons b).trans (.swap _ _ _)
theorem free_slot {m k : Nat} {owner : Array (Option Nat)} (h : OwnerIs m k owner) (hk : k ≤ m) : ∃ j, j ≤ m ∧ owner.getD j (some 0) = none := by
  obtain ⟨hs, hp⟩ := h
  refine Classical.byContradiction fun hno => ?_
  have hall : ∀ o ∈ owner.toList, o.isSome = true := fun o ho => by
    obtain ⟨j, hj, e⟩ := List.getElem_of_mem ho
    have hj' : j < owner.size := by simpa using hj
    cases o with
    | some b => rfl
    | none =>
      refine absurd ⟨j, by omega, ?_⟩ hno
      have e' : owner[j] = none := by simpa using e
      simp [Array.getD, hj', e']
  have : (owner.toList.filterMap id).length = owner.toList.length := by
    clear hp hno hs
    generalize owner.toList = l at hall
    induction l with
    | nil => rfl
    | cons a l ih =>
      have := hall a (.head _)
      cases a with
      | none => cases this
      | some b => simp [ih fun o ho => hall o (.tail _ ho)]
  have h2 := hp.length_eq
  rw [this, List.length_range, Array.length_toList, hs] at h2
  omega
theorem layClean_is {m : Nat} (hm : okMask m = true) : ∀ (hs : List Int) (k : Nat) (owner : Array (Option Nat)), OwnerIs m k owner → k + hs.length ≤ m →
    ∃ owner', hs.foldl (init := some (owner, k)) (fun acc h => do
      let (owner, k) ← acc
      let j ← SetTable.layClean.free m owner (SetTable.turns m) (SetTable.bits h % (m + 1)) (SetTable.bits h)
      pure (owner.setIfInBounds j (some k), k + 1)) = some (owner', k + hs.length) ∧ OwnerIs m (k + hs.length) owner'
  | [], k, owner, h, _ => ⟨owner, rfl, h⟩
  | x :: hs, k, owner, h, hk => by
    have hb := bits_lt x
    obtain ⟨j0, hj0, e0⟩ := free_slot h (by simp at hk; omega)
    have hi : SetTable.bits x % (m + 1) ≤ m := Nat.le_of_lt_succ (Nat.mod_lt _ (Nat.succ_pos _))
    obtain ⟨n, hn, en⟩ := leap_cover m hm _ _ j0 hi hb hj0
    obtain ⟨j, ej, hj, ejn⟩ := free_some m owner h.1 (SetTable.turns m) (SetTable.bits x % (m + 1)) (SetTable.bits x) hi ⟨n, hn, by rw [en]; exact e0⟩
    have h' : OwnerIs m (k + 1) (owner.setIfInBounds j (some k)) := by
      refine ⟨by simp [h.1], ?_⟩
      have hlt : j < owner.size := by rw [h.1]; omega
      have hget : owner.toList[j]? = some none := by
        have : owner[j] = none := by simpa [Array.getD, hlt] using ejn
        rw [Array.getElem?_toList, Array.getElem?_eq_getElem hlt, this]
      rw [Array.toList_setIfInBounds]
      refine (set_perm hget).trans ((h.2.cons k).trans ?_)
      rw [List.range_succ]
      exact (List.perm_append_singleton _ _).symm
    obtain ⟨owner', e', o'⟩ := layClean_is hm hs (k + 1) _ h' (by simp at hk; omega)
    refine ⟨owner', ?_, ?_⟩
    · rw [List.foldl_cons]
      simp only [bind, Option.bind, ej, pure]
      simp only [bind, Option.bind, pure] at e'
      rw [e', List.length_cons]; congr 2; omega
    · rw [List.length_cons, show k + (hs.length + 1) = k + 1 + hs.length by omega]; exact o'
theorem owner_range {m : Nat} {owner : Array (Option Nat)} (h : owner.size = m + 1) : (List.range (m + 1)).filterMap (fun j => owner.getD j none) = owner.toList.filterMap id := by
  rw [← h]
  have : owner.toList = (List.range owner.size).map fun j => owner.getD j none := by
    refine List.ext_getElem (by simp) fun i h1 h2 => ?_
    have h1 : i < owner.size := by simpa using h1
    simp [Array.getD, h1]
  rw [this, List.filterMap_map]
  rfl
theorem laid_ok {m fi mo : Nat} {le pl : Bool} {es : Array (Int × Value)} (hm : okMask m = true) (hz : es.size ≤ m) :
    ∃ t' order, SetTable.laid m fi mo le pl (es.map (·.1)) = some (t', order) ∧ (order.filterMap (es[·]?)).toList.Perm es.toList ∧ t'.led = le ∧ t'.mask = m ∧ t'.dummies = #[] ∧ t'.place.size = es.size := by
  have h0 : OwnerIs m 0 (Array.replicate (m + 1) none) := by
    refine ⟨by simp, ?_⟩
    rw [show (Array.replicate (m + 1) (none : Option Nat)).toList = List.replicate (m + 1) none by simp]
    have : ∀ n, (List.replicate n (none : Option Nat)).filterMap id = [] := fun n => by
      induction n with
      | zero => rfl
      | succ n ih => rw [List.replicate_succ]; simpa using ih
    rw [this]; exact .refl _
  obtain ⟨owner, e, ho⟩ := layClean_is hm (es.map (·.1)).toList 0 _ h0 (by simpa using hz)
  have ec : SetTable.layClean m (es.map (·.1)) = some owner := by
    unfold SetTable.layClean
    rw [← Array.foldl_toList, e]; rfl
  obtain ⟨hs, hp⟩ := ho
  refine ⟨_, _, by unfold SetTable.laid; rw [ec]; rfl, ?_, rfl, rfl, rfl, ?_⟩
  · have e2 : (List.filterMap (fun j => (owner.getD j none).map (j, ·)) (List.range (m + 1))).map (·.2) = owner.toList.filterMap id := by
      rw [← owner_range hs, List.map_filterMap]
      refine congrFun (congrArg List.filterMap (funext fun j => ?_)) _
      cases owner.getD j none <;> rfl
    rw [e2, Array.toList_filterMap]
    have hp' : (owner.toList.filterMap id).Perm (List.range es.size) := by simpa using hp
    refine (hp'.filterMap _).trans ?_
    rw [filterMap_getElem?_range]
  · have e3 := congrArg List.length (owner_range hs)
    have e4 := hp.length_eq
    have e5 : (List.filterMap (fun j => (owner.getD j none).map (j, ·)) (List.range (m + 1))).length = ((List.range (m + 1)).filterMap (fun j => owner.getD j none)).length := by
      generalize List.range (m + 1) = l
      induction l with
      | nil => rfl
      | cons a l ih =>
        rw [List.filterMap_cons, List.filterMap_cons]
        cases owner.getD a none <;> simpa using ih
    simp only [List.size_toArray, List.length_map]
    rw [e5, e3, e4]; simp
theorem sizeAbove_ok : ∀ n : Nat, n ≤ 64 → okMask (SetTable.sizeAbove n - 1) = true ∧ n < SetTable.sizeAbove n := by
  intro n hn
  have : ∀ n ∈ List.range 65, okMask (SetTable.sizeAbove n - 1) = true ∧ n < SetTable.sizeAbove n := by decide +kernel
  exact this n (List.mem_range.mpr (by omega))
end
section
open PySem PySem.W PyProof.Rows PySem.Calls Builtin
set_option Elab.async false
set_option maxRecDepth 100000
section
variable {prog : Program} {w : World} {κ : Type} [DecidableEq κ] (ek : EK prog w κ)
def TTs (es : Array (Int × Value)) (t : SetTable) : Prop := t.fits es.size = true ∧ (t.fill = 0 → okMask t.mask = true)
theorem fits_iff {t : SetTable} {n : Nat} : t.fits n = true ↔ t.place.size = n ∧ t.fill ≤ t.mask := by
  simp [SetTable.fits]
theorem size_insertAt {α : Type} (xs : Array α) (p : Nat) (x : α) : (SetTable.insertAt xs p x).size = xs.size + 1 := by
  rw [← Array.length_toList, SetTable.toList_insertAt]
  simp only [List.length_append, List.length_cons, List.length_take, List.length_drop, Array.length_toList]
  omega
theorem size_eraseAt {α : Type} (xs : Array α) {p : Nat} (h : p < xs.size) : (SetTable.eraseAt xs p).size = xs.size - 1 := by
  unfold SetTable.eraseAt
  simp only [Array.size_append, Array.size_extract]
  omega
theorem TTs.drop {es : Array (Int × Value)} {t : SetTable} {i : Nat} (h : TTs es t) (hi : i < es.size) : TTs (SetTable.eraseAt es i) (t.drop i) := by
  obtain ⟨h1, h2⟩ := h
  obtain ⟨h1, h3⟩ := fits_iff.mp h1
  have hi' : i < t.place.size := by omega
  unfold SetTable.drop
  rw [Array.getElem?_eq_getElem hi']
  dsimp only
  have e1 := size_eraseAt t.place hi'
  have e2 := size_insertAt t.dummies (SetTable.below t.dummies t.place[i]) t.place[i]
  have e3 := size_eraseAt es hi
  refine ⟨fits_iff.mpr ⟨?_, ?_⟩, fun q => ?_⟩
  · show (SetTable.eraseAt t.place i).size = _; omega
  · show (SetTable.eraseAt t.place i).size + (SetTable.insertAt t.dummies _ _).size ≤ t.mask
    unfold SetTable.fill at h3
    omega
  · have q : (SetTable.eraseAt t.place i).size + (SetTable.insertAt t.dummies _ _).size = 0 := q
    omega
theorem TTs.laid {m fi mo : Nat} {le pl : Bool} {es : Array (Int × Value)} (hm : okMask m = true) (hz : es.size ≤ m) :
    ∃ t' order, SetTable.laid m fi mo le pl (es.map (·.1)) = some (t', order) ∧ (order.filterMap (es[·]?)).toList.Perm es.toList ∧ TTs (order.filterMap (es[·]?)) t' ∧ t'.led = le := by
  obtain ⟨t', order, e, p, hl, hm', hd, hp⟩ := laid_ok (fi := fi) (mo := mo) (le := le) (pl := pl) hm hz
  refine ⟨t', order, e, p, ⟨fits_iff.mpr ⟨?_, ?_⟩, fun _ => by rw [hm']; exact hm⟩, hl⟩
  · rw [hp, ← Array.length_toList, ← p.length_eq, Array.length_toList]
  · unfold SetTable.fill
    rw [hp, hd, hm']
    simpa using hz
theorem layNew_tts {t : SetTable} {es : Array (Int × Value)} {h : Int} {x : Value} : TTs (layNew t es h x).1 (layNew t es h x).2.1 := by
  refine ⟨layNew_fits .., fun q => ?_⟩
  have h1 := (fits_iff.mp (layNew_fits t es h x)).1
  have h2 := (layNew_perm t es h x).length_eq
  simp only [Array.length_toList, Array.size_push] at h2
  unfold SetTable.fill at q
  omega
theorem relayAll_tts {t : SetTable} {es : Array (Int × Value)} {n : Nat} (hz : 0 < es.size) : TTs (relayAll t es n).1 (relayAll t es n).2.1 := by
  refine ⟨relayAll_fits .., fun q => ?_⟩
  have h1 := (fits_iff.mp (relayAll_fits t es n)).1
  have h2 := (relayAll_perm t es n).length_eq
  simp only [Array.length_toList] at h2
  unfold SetTable.fill at q
  omega
section
variable {prog : Program} {w : World} {κ : Type} [DecidableEq κ] {ek : EK prog w κ} {TT : Array (Int × Value) → SetTable → Prop}
  {A : Around} {E : Value → Shared → Prop} {s : Shared} {a : Addr} {o : Obj} {es : Array (Int × Value)} {n : Nat} {t : SetTable} {ks : List κ} {k : κ} {x : Value}
theorem scanFrom_plain {adding : Bool} (hA : AOk A) (hx : ∀ h, ek.is h k x) (hf : t.fits es.size = true) :
    ∀ (l : List (Int × Value)) (kl : List κ) (i : Nat) {Q : ScanMet → Shared → Prop} {s : Shared}, s.heap.get? a = some o → o.data = .set es n t →
      All2 (fun e k' => e.1 = ek.hash k' ∧ ∀ h, ek.is h k' e.2) l kl →
      (∀ s' r, Keeps s s' → (match r with | .found j => i ≤ j ∧ ∃ e, l[j - i]? = some e ∧ (∀ h, ek.is h k e.2) | .absent => k ∉ kl | .anew => False) → Q r s') →
      wpAny (model prog w) A (setScanFrom a x (ek.hash k) adding l i) Q E s := by
  intro l
  induction l with
  | nil =>
    intro kl i Q s ho hd hl h
    cases hl
    unfold setScanFrom
    exact wpAny_pure (h s _ (kp_self s) (by simp))
  | cons e rest ih =>
    intro kl i Q s ho hd hl h
    cases hl with
    | @cons _ k' _ kr h1 hr =>
    obtain ⟨h', y⟩ := e
    obtain ⟨hh, hy⟩ := h1
    unfold setScanFrom
    have next : ∀ s', Keeps s s' → k' ≠ k → wpAny (model prog w) A (setScanFrom a x (ek.hash k) adding rest (i + 1)) Q E s' := fun s' K hne => by
      refine ih kr (i + 1) (kp_get K ho) hd hr fun s'' r K' z => h s'' r (kp_tr K K') ?_
      cases r with
      | found j =>
        obtain ⟨z1, e, z2, z3⟩ := z
        refine ⟨by omega, e, ?_, z3⟩
        rw [show j - i = (j - (i + 1)) + 1 by omega, List.getElem?_cons_succ]; exact z2
      | absent => exact fun m => (List.mem_cons.mp m).elim (fun q => hne q.symm) z
      | anew => exact z
    by_cases hq : h' == ek.hash k
    · rw [if_pos hq]
      refine wpAny_bind (wpAny_setEpoch_of ho hd hf ?_)
      refine wpAny_bind (ek.eqBool hA (hy _) (hx _) fun s₁ K₁ => ?_)
      by_cases hkk : k' = k
      · subst hkk
        have fnd : Q (.found i) s₁ := h s₁ _ K₁ ⟨Nat.le_refl _, (h', y), by simp, hy⟩
        cases adding
        · dsimp only
          refine wpAny_bind (wpAny_setEpoch_of (kp_get K₁ ho) hd hf ?_)
          simp only [bne_self_eq_false, Bool.false_eq_true, ↓reduceIte, decide_true]
          exact wpAny_pure fnd
        · simp only [decide_true, Bool.and_self, ↓reduceIte]
          exact wpAny_pure fnd
      · have hne : decide (k' = k) = false := decide_eq_false hkk
        simp only [hne, Bool.and_false, Bool.false_eq_true, ↓reduceIte]
        refine wpAny_bind (wpAny_setEpoch_of (kp_get K₁ ho) hd hf ?_)
        simp only [bne_self_eq_false, Bool.false_eq_true, ↓reduceIte]
        exact next s₁ K₁ hkk
    · rw [if_neg hq]
      have hh' : h' = ek.hash k' := hh
      exact next s (kp_self s) fun e => hq (by subst e; simp [hh'])
end
end
end
section
open PySem PySem.W PyProof.Rows PySem.Calls Builtin
set_option Elab.async false
set_option maxRecDepth 100000
section
variable {prog : Program} {w : World} {κ : Type} [DecidableEq κ] {ek : EK prog w κ}
structure IntEK (ek : EK prog w κ) : Prop where
  shape : ∀ {h k v}, ek.is h k v → ∃ i tk, v = .int i tk
  free : ∀ {h k v}, ek.is h k v → ∀ h', ek.is h' k v
theorem IntEK.scannable (ie : IntEK ek) {h : Heap} {k : κ} {v : Value} (x : ek.is h k v) : v.scannable = true := by
  obtain ⟨i, tk, rfl⟩ := ie.shape x; rfl
section
variable {A : Around} {E : Value → Shared → Prop} {s : Shared} {a : Addr} {o : Obj} {es : Array (Int × Value)} {n : Nat} {t : SetTable} {ks : List κ} {k : κ} {x : Value} {TT : Array (Int × Value) → SetTable → Prop}
theorem int_ents (ie : IntEK ek) {h : Heap} {l : List (Int × Value)} {kl : List κ} (x : ek.Ents h l kl) : All2 (fun e k' => e.1 = ek.hash k' ∧ ∀ h, ek.is h k' e.2) l kl := All2.imp (fun e k z => ⟨z.1, ie.free z.2⟩) x
theorem int_byScan (ie : IntEK ek) {h : Heap} {kl : List κ} (hx : ek.is h k x) (hl : ek.Ents h es.toList kl) (hz : es.size ≤ 12) : byScan x es = true := by
  simp only [byScan, ie.scannable hx, Bool.true_and, Bool.and_eq_true, decide_eq_true_eq]
  refine ⟨Nat.lt_of_le_of_lt hz (by decide), ?_⟩
  rw [← Array.all_toList, List.all_eq_true]
  intro e he
  obtain ⟨k, _, z⟩ := All2.left hl he
  exact ie.scannable z.2
theorem int_scan {adding : Bool} {kl : List κ} {Q : ScanMet → Shared → Prop} (ie : IntEK ek) (hA : AOk A) (ho : s.heap.get? a = some o) (hd : o.data = .set es n t) (hf : t.fits es.size = true) (hl : ek.Ents s.heap es.toList kl) (hx : ek.is s.heap k x)
    (h : ∀ s' r, Keeps s s' → (match r with | .found j => ∃ e, es[j]? = some e ∧ ek.is s.heap k e.2 | .absent => k ∉ kl | .anew => False) → Q r s') :
    wpAny (model prog w) A (setScan a x (ek.hash k) adding es) Q E s := by
  have main : wpAny (model prog w) A (setScanFrom a x (ek.hash k) adding es.toList 0) Q E s := by
    refine scanFrom_plain (ek := ek) hA (ie.free hx) hf es.toList kl 0 ho hd (int_ents ie hl) fun s' r K z => h s' r K ?_
    cases r with
    | found j =>
      obtain ⟨_, e, z2, z3⟩ := z
      exact ⟨e, by rw [← Array.getElem?_toList]; exact z2, z3 _⟩
    | absent => exact z
    | anew => exact z
  obtain ⟨i, tk, rfl⟩ := ie.shape hx
  exact main
theorem int_find {Q : Option Nat → Shared → Prop} (ie : IntEK ek) (hA : AOk A) (ho : s.heap.get? a = some o) (hd : o.data = .set es n t) (hS : SetIs ek TTs s.heap es t ks) (hx : ek.is s.heap k x)
    (h : ∀ s' r, Keeps s s' → (match r with | some i => ∃ e, es[i]? = some e ∧ ek.is s.heap k e.2 | none => k ∉ ks) → Q r s') : wpAny (model prog w) A (setFind a x (ek.hash k)) Q E s := by
  have hsz : es.size ≤ 12 := by have := hS.size; have := hS.small; omega
  obtain ⟨kl, hl, hp, nd, ht, hled⟩ := hS
  unfold setFind setFindIn
  refine wpAny_bind (wpAny_setState_of ho hd ht.1 ?_)
  dsimp only
  rw [int_byScan ie hx hl hsz]
  simp only [↓reduceIte]
  refine wpAny_bind (wpAny_rule (wpAny_bind (int_scan (adding := false) ie hA ho hd ht.1 hl hx fun s' r K z => ?_)))
  cases r with
  | found j => exact wpAny_pure (h s' (some j) K z)
  | absent => exact wpAny_pure (h s' none K fun m => z (hp.mem_iff.mpr m))
  | anew => exact z.elim
theorem ents_push {h : Heap} {l l' : List (Int × Value)} {kl : List κ} (x' : ek.Ents h l kl) (hx : ek.is h k x) (p : List.Perm l' (l ++ [(ek.hash k, x)])) : ∃ kl', ek.Ents h l' kl' ∧ kl'.Perm (kl ++ [k]) := by
  have y : ek.Ents h (l ++ [(ek.hash k, x)]) (kl ++ [k]) := All2.app x' (.cons ⟨rfl, hx⟩ .nil)
  obtain ⟨m, z, q⟩ := All2.perm y p.symm
  exact ⟨m, z, q.symm⟩
theorem int_addTail (ie : IntEK ek) {g : Bool → Sem Unit} (hg : ∀ (b : Bool) (s₁ : Shared) (Q' : Unit → Shared → Prop), Q' () s₁ → wpAny (model prog w) A (g b) Q' E s₁)
    (ho : s.heap.get? a = some o) (hd : o.data = .set es n t) {es1 : Array (Int × Value)} {t2 : SetTable} {kl : List κ} (hel1 : ek.Ents s.heap es1.toList kl) (hz : 0 < es1.size) (hz2 : es1.size ≤ 13) (hf2 : TTs es1 t2) {wasDummy : Bool} {R : Option Bool → Shared → Prop}
    (h : ∀ s' es2 n2 t3, Fx s s' [a] → s'.heap.get? a = some { o with data := .set es2 n2 t3 } → es2.toList.Perm es1.toList → TTs es2 t3 → t3.led = t2.led ∨ t3.led = (t2.standIn 0).led → R (some true) s') :
    wpAny (model prog w) A (do
        storeSet a es1 t2
        if (!wasDummy && t2.tooFull) = true then do
            g (relayAll t2 es1 (SetTable.grown es1.size)).2.2
            storeSet a (relayAll t2 es1 (SetTable.grown es1.size)).1 (relayAll t2 es1 (SetTable.grown es1.size)).2.1
            pure (some true)
          else pure (some true)) R E s := by
  have hl : es1.size ≤ sizeLine := by rw [sizeLine_eq]; omega
  refine wpAny_bind (st_store ho hd hl fun s' F e _ => ?_)
  split
  · have hp := relayAll_perm t2 es1 (SetTable.grown es1.size)
    have hfr := relayAll_tts (t := t2) (es := es1) (n := SetTable.grown es1.size) hz
    have hled : (relayAll t2 es1 (SetTable.grown es1.size)).2.1.led = t2.led := by
      unfold relayAll
      split
      · rename_i t' order he
        have : t'.led = t2.led := by
          unfold SetTable.relaid SetTable.laid at he
          cases hc : SetTable.layClean (SetTable.sizeAbove (SetTable.grown es1.size) - 1) (es1.map (·.1)) with
          | none => rw [hc] at he; simp at he
          | some ow =>
            rw [hc] at he
            simp only [Option.bind_eq_bind, Option.bind_some, pure, Option.some.injEq, Prod.mk.injEq] at he
            rw [← he.1]
        dsimp only
        split
        · exact this
        · rfl
      · rfl
    generalize hRl : relayAll t2 es1 (SetTable.grown es1.size) = Rl at hp hfr hled ⊢
    obtain ⟨es2, t3, gave2⟩ := Rl
    dsimp only at hp hfr hled ⊢
    have hsz : es2.size = es1.size := by rw [← Array.length_toList, hp.length_eq, Array.length_toList]
    refine wpAny_bind (hg _ _ _ ?_)
    refine wpAny_bind (st_store e rfl (by omega) fun s'' F' e' _ => ?_)
    exact wpAny_pure (h _ _ _ _ (F.trans F') e' hp hfr (.inl hled))
  · exact wpAny_pure (h _ _ _ _ F e (.refl _) hf2 (.inl rfl))
theorem layNew_led {h : Int} : (layNew t es h x).2.1.led = t.led := by
  unfold layNew
  split
  · dsimp only
    unfold SetTable.orStandIn
    split <;> rfl
  · rfl
theorem int_add {Q : Bool → Shared → Prop} (ie : IntEK ek) (hA : AOk A) (ho : s.heap.get? a = some o) (hc : o.cls ≠ .type "tuple") (hd : o.data = .set es n t) (hS : SetIs ek TTs s.heap es t ks) (hx : ek.is s.heap k x)
    (h : ∀ s' es' n' t', Fx s s' [a] → s'.heap.get? a = some { o with data := .set es' n' t' } → SetIs ek TTs s'.heap es' t' (if k ∈ ks then ks else ks ++ [k]) → Q (decide (k ∉ ks)) s') : wpAny (model prog w) A (setAddHashed a x (ek.hash k)) Q E s := by
  have hsz : es.size ≤ 12 := by have := hS.size; have := hS.small; omega
  have hS0 := hS
  obtain ⟨kl, hl, hp, nd, ht, hled⟩ := hS
  unfold setAddHashed setAddHashedIn
  refine wpAny_holding (wpAny_bind (wpAny_setState_of ho hd ht.1 ?_))
  dsimp only
  rw [int_byScan ie hx hl hsz]
  simp only [↓reduceIte]
  unfold setAddByScan
  refine wpAny_bind ?_
  refine wpAny_bind (wpAny_rule (wpAny_bind (int_scan (adding := true) ie hA ho hd ht.1 hl hx fun s₁ r K z => ?_)))
  have tk : TupKept s.heap s₁.heap := .of fun b o e => kp_get K e
  cases r with
  | anew => exact z.elim
  | found j =>
    dsimp only
    obtain ⟨e, he, hi⟩ := z
    have he' : e ∈ es.toList := by rw [← Array.getElem?_toList] at he; exact List.mem_of_getElem? he
    obtain ⟨k', hk1, _, h2⟩ := hS0.key he'
    have hkm : k ∈ ks := by rw [ek.inj hi h2]; exact hk1
    refine wpAny_pure (wpAny_pure ?_)
    rw [show (false : Bool) = decide (k ∉ ks) from by simpa using hkm]
    refine h s₁ es n t (Fx.of_keeps K _) (by rw [kp_get K ho, ← hd]) ?_
    rw [if_pos hkm]
    exact hS0.mono tk
  | absent =>
    dsimp only
    have hkn : k ∉ ks := fun m => z (hp.mem_iff.mpr m)
    have hperm := layNew_perm t es (ek.hash k) x
    have htt := layNew_tts (t := t) (es := es) (h := ek.hash k) (x := x)
    have hld := layNew_led (t := t) (es := es) (h := ek.hash k) (x := x)
    generalize hL : layNew t es (ek.hash k) x = L at hperm htt hld ⊢
    obtain ⟨es1, t1, wasDummy, gave⟩ := L
    dsimp only at hperm htt hld ⊢
    rw [Array.toList_push] at hperm
    obtain ⟨kl1, hel1, hp1⟩ := ents_push (hl.mono tk) (ek.mono tk hx) hperm
    have hsz1 : es1.size = es.size + 1 := by rw [← Array.length_toList, hperm.length_eq, List.length_append, Array.length_toList]; rfl
    have hgw : ∀ (b : Bool) (s₁ : Shared) (Q' : Unit → Shared → Prop), Q' () s₁ → wpAny (model prog w) A (match b with | true => rule "set.scan.the-table-gave-way" | false => pure ()) Q' E s₁ :=
      fun b s₁ Q' hq => by cases b <;> first | exact wpAny_pure hq | exact wpAny_rule hq
    have hend : ∀ s' es2 n2 t3, Fx s₁ s' [a] → s'.heap.get? a = some { o with data := .set es2 n2 t3 } → es2.toList.Perm es1.toList → TTs es2 t3 → t3.led = t1.led → Q true s' := fun s' es2 n2 t3 F e p tt hl3 => by
      rw [show (true : Bool) = decide (k ∉ ks) from by simpa using hkn]
      refine h s' es2 n2 t3 ((Fx.of_keeps K _).trans F) e ?_
      rw [if_neg hkn]
      obtain ⟨kl2, z2, q2⟩ := All2.perm hel1 p.symm
      refine ⟨kl2, EK.Ents.mono (F.tup1 (kp_get K ho) hc) z2, (q2.symm.trans (hp1.trans (hp.append (.refl _)))), ?_, tt, fun q => by rw [hl3, hld]; exact hled q⟩
      refine List.nodup_append.mpr ⟨nd, by simp, ?_⟩
      intro y hy b hb
      rw [List.mem_singleton.mp hb]
      exact fun q => hkn (q ▸ hy)
    refine wpAny_bind (hgw _ _ _ ?_)
    have hsc := ie.scannable hx
    split
    · refine wpAny_bind ?_
      rw [hashByValue_scannable 8 hsc]
      refine wpAny_pure ?_
      refine int_addTail ie ?_ (kp_get K ho) hd hel1 (by omega) (by omega) ?_ ?_
      · intro b s₁ Q' hq; cases b <;> first | exact wpAny_pure hq | exact wpAny_rule hq
      · split
        · exact htt
        · exact ⟨SetTable.fits_plain_off htt.1, htt.2⟩
      · intro s' es2 n2 t3 F e p tt hl3
        dsimp only
        refine wpAny_pure (hend s' es2 n2 t3 F e p tt ?_)
        rcases hl3 with q | q <;> rw [q] <;> split <;> rfl
    · refine wpAny_bind (wpAny_pure ?_)
      simp only [↓reduceIte]
      refine int_addTail ie ?_ (kp_get K ho) hd hel1 (by omega) (by omega) htt ?_
      · intro b s₁ Q' hq; cases b <;> first | exact wpAny_pure hq | exact wpAny_rule hq
      · intro s' es2 n2 t3 F e p tt hl3
        dsimp only
        refine wpAny_pure (hend s' es2 n2 t3 F e p tt ?_)
        rcases hl3 with q | q <;> rw [q] <;> rfl
end
def thInt (ie : IntEK ek) : SetTh ek where
  TT := TTs
  fits := fun h => h.1
  flags := fun {es t t'} h h1 h2 h3 => by
    refine ⟨?_, fun q => by rw [h1]; exact h.2 (by unfold SetTable.fill at q ⊢; rw [← h2, ← h3]; exact q)⟩
    have := fits_iff.mp h.1
    exact fits_iff.mpr ⟨by rw [h2]; exact this.1, by unfold SetTable.fill at this ⊢; rw [h1, h2, h3]; exact this.2⟩
  fresh := fun f m l => ⟨by rfl, fun _ => by rfl⟩
  drop := fun h hi => h.drop hi
  relaid := fun {es t wanted} h hz h1 h2 => by
    obtain ⟨hm, hw⟩ := sizeAbove_ok wanted h2
    exact TTs.laid hm (by omega)
  laid := fun {es0 t es fi mo le pl} h hf hz hr => by
    refine TTs.laid (h.2 hf) ?_
    unfold SetTable.roomFor at hr
    split at hr
    · cases hr
    · rename_i hn; rw [hf] at hn; omega
  find := fun hA ho hd hS hx h => int_find ie hA ho hd hS hx h
  add := fun hA ho hc hd hS hx h => int_add ie hA ho hc hd hS hx h
end
end
section
open PySem PySem.W PyProof.Rows PySem.Calls Builtin
set_option Elab.async false
set_option maxRecDepth 100000
section
variable {prog : Program} {w : World}
def SI (k : Int) (v : Value) : Prop := Value.isInt k v = true ∧ 0 ≤ k ∧ k ≤ 10
theorem kp_toks (s : Shared) (t : Nat) : Keeps s { s with toks := t } := ⟨s.heap, t, rfl, fun _ _ e => e⟩
def ekI (prog : Program) (w : World) : EK prog w Int where
  is := fun _ k v => Value.isInt k v = true ∧ 0 ≤ k ∧ k ≤ 10
  hash := hashInt
  univ := (List.range 11).map Int.ofNat
  univ_len := by decide
  mem := fun {h k v} x => List.mem_map.mpr ⟨k.toNat, List.mem_range.mpr (by omega), by simp; omega⟩
  mono := fun _ x => x
  inj := fun x y => (intKind prog w).inj _ _ _ x.1 y.1
  pyHash := fun {A E s k v Q} _ x h => (intKind prog w).pyHash (Q := Q) x.1 (h _ (kp_toks s _))
  eqBool := fun {A E s a b u v Q} _ x y h => (intKind prog w).eqBool x.1 y.1 (h _ (kp_self s))
  dictFind := fun {A E s d o es ep ks k v Q} _ ho hd hk nd hv h => by
    refine wpAny_dictFind_of (knd := intKind prog w) (ep := ep) hv.1 ho hd (fun e he => ?_) (h s _ (kp_self s) ?_)
    · obtain ⟨k', _, z⟩ := All2.left hk (show e ∈ es.toList by simpa using he)
      exact ⟨k', z.2.1, z.1⟩
    · cases hf : es.findIdx? (fun e => (intKind prog w).is k e.key) with
      | none =>
        intro hm
        obtain ⟨e, he, z⟩ := All2.right hk hm
        have := Array.findIdx?_eq_none_iff.mp hf e (by simpa using he)
        exact absurd ((show (intKind prog w).is k e.key = true from z.2.1).symm.trans this) (by decide)
      | some i =>
        obtain ⟨hi, hp, _⟩ := Array.findIdx?_eq_some_iff_getElem.mp hf
        obtain ⟨k', e1, z⟩ := All2.get hk (i := i) (a := es[i]) (by rw [Array.getElem?_toList, Array.getElem?_eq_getElem hi])
        rw [(intKind prog w).inj _ _ _ hp z.2.1]; exact e1
  special := fun {h k b} x => by
    obtain ⟨t, e⟩ := Value.isInt_shape x.1
    cases e
theorem ieI : IntEK (ekI prog w) := ⟨fun x => by obtain ⟨t, e⟩ := Value.isInt_shape x.1; exact ⟨_, _, e⟩, fun x _ => x⟩
abbrev thI (prog : Program) (w : World) : SetTh (ekI prog w) := thInt ieI
end
end
section
open PySem PySem.W PyProof.Rows PySem.Calls Builtin
set_option Elab.async false
set_option maxRecDepth 100000
set_option pp.deepTerms false
set_option pp.maxSteps 1500
set_option linter.unusedVariables false
section
variable {prog : Program} {w : World} {κ : Type} [DecidableEq κ] {ek : EK prog w κ} {th : SetTh ek}
  {A : Around} {E : Value → Shared → Prop} {s s' s₁ : Shared} {R : Result → Shared → Prop} {x : Addr} {ks kb kl km : List κ} {k : κ} {v v2 : Value} {w0 : List Addr} {name : Str} {id T : String}
  {G : Array GenState} {O : OsState} {g base : Heap} {outer : List Env} {L a r l : Addr} {fl : List (Str × Value)} {news old upd rest foot : List (Addr × Obj)} {ob ob' : Obj} {f : Obj → List (Addr × Obj)} {o o' : Tob} {xs : Array Value} {m : Nat}
section
variable (P : Params)
theorem g_range : nsIn (KK P) mainGlobals "range" = some none := by kernel_rfl
theorem g_next : nsIn (KK P) mainGlobals "_law_next" = some (some (.ref 235)) := by kernel_rfl
theorem keep235 : keepIn (KK P) (.ref 235) = true := by kernel_rfl
end
abbrev nine : List Int := [0, 1, 2, 3, 4, 5, 6, 7, 8]
theorem fr_ne (W : Wd G O g L s fl news) {b : Addr} {ob : Obj} (h : (b, ob) ∈ news) : b ≠ L := (W.nw _ h).2.1
theorem ek_int {prog : Program} {w : World} {h : Heap} {k : Int} {v : Value} (x : (ekI prog w).is h k v) : ∃ t, v = .int k t := Value.isInt_shape x.1
theorem is_int {prog : Program} {w : World} {h : Heap} {k : Int} {t : Tok} (h0 : 0 ≤ k) (h1 : k ≤ 10) : (ekI prog w).is h k (.int k t) := ⟨by simp [Value.isInt], h0, h1⟩
theorem range3_iter {a b c : Int} {t u v : Tok} {n : Nat} {Q : Value → Shared → Prop} (hc : c ≠ 0) (hp : Builtin.divisionGoesByPylong (b - a) c = false) (hsm : Builtin.Range.small a b c = true) (hn : Builtin.Range.rangeSize a b c = n)
    (h : ∀ s' I, Fx s s' [] → s.heap.get? I = none → IsRangeIter s'.heap I a n c → Q (.ref I) s') :
    wpAny (model prog w) A (call (.type "range") [.int a t, .int b u, .int c v]) (fun x s₁ => wpAny (model prog w) A (pyIter x) Q E s₁) E s := by
  refine call_range_3 hc ?_ (Or.inl hp)
  refine wpAny_pyIter_range (IsRange.new _ a b c _ _ _) hsm (h _ _ ⟨fun b o e _ => Heap.get?_push_of_some _ (Heap.get?_push_of_some _ e), rfl, rfl⟩ (Heap.get?_none_of_le (by simp)) ?_)
  rw [hn]
  exact Heap.get?_push_size _ rfl
theorem range1_iter {b : Int} {t : Tok} {n : Nat} {Q : Value → Shared → Prop} (hsm : Builtin.Range.small 0 b 1 = true) (hn : Builtin.Range.rangeSize 0 b 1 = n)
    (h : ∀ s' I, Fx s s' [] → s.heap.get? I = none → IsRangeIter s'.heap I 0 n 1 → Q (.ref I) s') :
    wpAny (model prog w) A (call (.type "range") [.int b t]) (fun x s₁ => wpAny (model prog w) A (pyIter x) Q E s₁) E s := by
  refine call_range_1 ?_
  refine wpAny_pyIter_range (IsRange.new _ 0 b 1 _ _ _) hsm (h _ _ ⟨fun b o e _ => Heap.get?_push_of_some _ (Heap.get?_push_of_some _ e), rfl, rfl⟩ (Heap.get?_none_of_le (by simp)) ?_)
  rw [hn]
  exact Heap.get?_push_size _ rfl
theorem Fx.of_eq {t : Shared} {as : List Addr} (F : Fx t s' as) (h1 : t.heap = s.heap) (h2 : t.gens = s.gens) (h3 : t.os = s.os) : Fx s s' as := ⟨h1 ▸ F.keep, F.gens.trans h2, F.os.trans h3⟩
set_option maxHeartbeats 4000000 in
theorem c_row {S l0 : Addr} {i c : Int} {t1 t2 tm : Tok} {vs : List Value} {ns : List Int} (Gd : Gnd (KK w.params) base) (C : Site 61 A base outer s.heap) (OW : Own base outer s [(S, stO l0 i c t1 t2 m)])
    (hl : s.heap.IsList l0 vs.toArray) (hi : IntsAre vs ns) (hlen : ns.length ≤ 100) (hlS : l0 ≠ S) (h0 : 0 ≤ i ∧ i ≤ ns.length) (hc : 0 ≤ c ∧ c < 2147483647)
    (h : ∀ s' i' c' t1' t2' m' r xs m2 kl, Chg s s' [S] [(r, lstO xs m2), (S, stO l0 i' c' t1' t2' m')] → 0 ≤ i' ∧ i' ≤ ns.length → 0 ≤ c' ∧ c' < 2147483647 → (ekI prog w).All s'.heap xs.toList kl → kl.Perm nine → R (.ok (.ret (.ref r))) s') :
    codeAny (model prog w) A (.call (.ref 242) ⟨[.ref S, .int 9 tm], []⟩) R s := by
  have XK : (Mine.hd.heap_39 w.params).In base ∧ PySem.Challenge.rw_eu0034_01 = PySem.Challenge.rw_eu0034_01 := ⟨Gd.inK, rfl⟩
  revert XK
  k_fill
  intro _
  refine' enter (K := Mine.hd.heap_39 w.params) (d := 60) (binds := [("state", .ref S), ("size", .int 9 tm)]) Gd C [(S, stO l0 i c t1 t2 m)] OW ?ho ?hcd ?hbind ?hloc ?h ?hcell ?c1 ?c2 ?c3
  walk_at "enter"
  intro g L s₁ Rm W I
  have X := I.kin Gd
  have A3 := Rm.ok3 (by decide)
  have hlg : g.IsList l0 vs.toArray := by
    obtain ⟨o, ho, r⟩ := hl
    exact ⟨o, I.hid _ _ ho (by simpa using hlS), r⟩
  have lL : ∀ {s' : Shared} {fl : List (Str × Value)} {news : List (Addr × Obj)}, Wd s.gens s.os g L s' fl news → s'.heap.IsList l0 vs.toArray := fun W => by
    obtain ⟨o, ho, r⟩ := hlg
    exact ⟨o, W.base ho, r⟩
  refine wpAny_execs_cons (wpAny_Assign_Name (Call_ (bName (v := .type "list") Gd W I.below.stays (g_list _) (by kernel_rfl) ?_)))
  refine PyProof.Rows.callWith_type1 (args_cons (Call_ (bName (v := .type "range") Gd W I.below.stays (g_range _) (by kernel_rfl) ?_)))
  refine PyProof.Rows.callWith_type1 (args_cons (nameX_L W.fr rfl (args_nil (call_range_1 (args_nil ?_)))))
  refine call_list_range (n := 9) A3.hand (IsRange.new _ 0 9 1 _ _ _) (by decide +kernel) (by decide +kernel) (by decide) fun h' tk acc' cA kp e it => ?_
  have W1 := W.pushQuiet { cls := .type "range", data := .fields #[.int 0 s₁.toks, .int 9 tm, .int 1 (s₁.toks + 1)] } (t := s₁.toks + 1 + 1)
  have W2 := W1.fxNew (s' := { s₁ with heap := h', toks := tk }) ⟨fun b o eb _ => kp b o eb, rfl, rfl⟩ (Heap.get?_none_of_le (Nat.le_refl _)) e
  generalize (s₁.heap.push { cls := .type "range", data := .fields #[.int 0 s₁.toks, .int 9 tm, .int 1 (s₁.toks + 1)] }).objs.size = r at W2 e ⊢
  have a0 : (ekI prog w).All h' acc'.toList nine := by
    refine all2_of_get (by rw [Array.length_toList, it.1]; rfl) fun j v hv => ?_
    obtain ⟨t, rfl⟩ := it.2 j v (by rwa [Array.getElem?_toList] at hv)
    have hj : j < 9 := by
      rw [Array.getElem?_toList] at hv
      have h1 := (Array.getElem?_eq_some_iff.mp hv).1
      have h2 := it.1
      omega
    refine ⟨(j : Int), ?_, ⟨by simp [Value.isInt], by omega, by omega⟩⟩
    rcases j with _ | _ | _ | _ | _ | _ | _ | _ | _ | _ <;> first | rfl | omega
  refine store_W W2 fun s₃ W3 F3 => ?_
  have a3 : (ekI prog w).All s₃.heap acc'.toList nine := EK.All.mono (W2.fxL F3) a0
  refine wpAny_execs_cons (wpAny_For (Call_ (bName (v := .type "range") Gd W3 I.below.stays (g_range _) (by kernel_rfl) ?_)))
  refine PyProof.Rows.callWith_type1 (args_cons (wpAny_BinOp (nameX_L W3.fr rfl (wpAny_Constant_int (PySem.P.sub_int ?_)))))
  refine args_cons (wpAny_Constant_int (args_cons (wpAny_UnaryOp (wpAny_Constant_int (PySem.P.neg_int (args_nil ?_))))))
  refine range3_iter (n := 8) (by decide) (by decide +kernel) (by decide +kernel) (by decide +kernel) fun s₄ I0 F4 hI0 hit => ?_
  have F4 : Fx s₃ s₄ [] := F4.of_eq rfl rfl rfl
  have W4 := W3.fx0 F4
  have hfr := W3.fresh (b := I0) hI0
  have a4 : (ekI prog w).All s₄.heap acc'.toList nine := EK.All.mono (nil_tup F4) a3
  refine for_walk (as := [L, r, S]) (walk_range Rm.hand I0 (9 - 1) (-1) 8) (fun _ s' => ∃ fl xs m2 i' c' t1' t2' m' kl, Wd s.gens s.os g L s' fl [(r, lstO xs m2), (S, stO l0 i' c' t1' t2' m')] ∧ fl.lookup ("state" : Str) = some (.ref S) ∧ fl.lookup ("row" : Str) = some (.ref r) ∧
      (0 ≤ i' ∧ i' ≤ ns.length) ∧ (0 ≤ c' ∧ c' < 2147483647) ∧ (ekI prog w).All s'.heap xs.toList kl ∧ kl.Perm nine) ?_ ?_ ?_ ?_ (by simpa using hit) ⟨_, acc', cA, i, c, t1, t2, m, nine, W4, rfl, rfl, h0, hc, a4, .refl _⟩
  · intro a ha hm
    rw [List.mem_singleton.mp hm] at ha
    rcases List.mem_cons.mp ha with q | ha
    · exact hfr.2.1 q
    · rcases List.mem_cons.mp ha with q | ha
      · exact hfr.2.2 (r, lstO acc' cA) (.head _) q.symm
      · exact hfr.2.2 (S, stO l0 i c t1 t2 m) (.tail _ (.head _)) (List.mem_singleton.mp ha).symm
  · rintro i1 s' s'' ⟨fl, xs, m2, i', c', t1', t2', m', kl, W', e1, e2, b1, b2, a, p⟩ st F'
    have W'' := W'.fxw F' (fun b hb => by
      rw [List.mem_singleton.mp hb]
      refine ⟨hfr.1, hfr.2.1, fun q hq => ?_⟩
      rcases List.mem_cons.mp hq with rfl | hq
      · exact hfr.2.2 (r, lstO acc' cA) (.head _)
      · rw [List.mem_singleton.mp hq]; exact hfr.2.2 (S, stO l0 i c t1 t2 m) (.tail _ (.head _)))
    have T' : TupKept s'.heap s''.heap := F'.tup fun b hb => by
      rw [List.mem_singleton.mp hb]
      exact ⟨_, st, by show Value.type "range_iterator" ≠ _; decide⟩
    exact ⟨fl, xs, m2, i', c', t1', t2', m', kl, W'', e1, e2, b1, b2, EK.All.mono T' a, p⟩
  · rintro i1 v s' hlt ⟨t, rfl⟩ ⟨fl, xs, m2, i', c', t1', t2', m', kl, W', e1, e2, b1, b2, a, p⟩
    have hh := Rm.hand
    refine store_W W' fun s₅ W5 F5 => ?_
    have T5 := W'.fxL F5
    have kpos : (8 : Int) + i1 * -1 + 1 = 9 - i1 := by omega
    refine wpAny_execs_cons (wpAny_Assign_Name (Call_ (kName Gd W5 I.below.stays (g_next _) ?_)))
    refine callWith_K X (keep235 _) (args_cons (nameX_L W5.fr ((lk_skip (by decide)).trans e1) ?_))
    refine args_cons (wpAny_BinOp (nameX_L W5.fr rfl (wpAny_Constant_int (PyProof.Rows.add_int (args_nil ?_)))))
    have W6 := W5.toks (t := s₅.toks + 1 + 1)
    refine ⟨W6.kin X, wpAny_call ?_⟩
    refine c_next (vs := vs) (ns := ns) Gd (site_W I.below W6 Rm rfl rfl (by decide)) (W6.own (u := [(S, stO l0 i' c' t1' t2' m')]) I.below rfl (fun p hp => by rw [List.mem_singleton.mp hp]; exact .tail _ (.head _)) (by simp)) (lL W6) hi hlen hlS b1 b2 (by omega) fun s₇ i7 c7 t7 u7 m7 j tj ch b7 d7 hj => ?_
    have W7 := W6.chg (old := [(S, stO l0 i' c' t1' t2' m')]) (.cons (.tail .head) .nil) ch
    have F7 : Fx s₅ s₇ [S] := ch.fx.of_eq rfl rfl rfl
    have T7 : TupKept s₅.heap s₇.heap := F7.tup1 (W5.get (.tail _ (.head _))) (nt_list _ _)
    refine store_W W7 fun s₈ W8 F8 => ?_
    have T8 := W7.fxL F8
    have a8 := EK.All.mono T8 (EK.All.mono T7 (EK.All.mono T5 a))
    have hlenk : kl.length = 9 := p.length_eq
    have hlx : xs.size = 9 := by rw [← Array.length_toList, EK.All.length a8, hlenk]
    generalize hkk : (9 - 1 : Int) + i1 * -1 = kk at *
    have hk0 : kk = ((8 - i1 : Nat) : Int) := by omega
    have hj0 : j = (j.toNat : Int) := by omega
    have hkx : (8 - i1) < xs.size := by omega
    have hjx : j.toNat < xs.size := by omega
    have hrow : ((fun y => List.lookup y ((("j" : Str), Value.int j tj) :: (("k" : Str), Value.int kk t) :: fl)) ("row" : Str)) = some (.ref r) := (lk_skip (by decide)).trans ((lk_skip (by decide)).trans e2)
    have kn : ((fun y => List.lookup y ((("j" : Str), Value.int j tj) :: (("k" : Str), Value.int kk t) :: fl)) ("k" : Str)) = some (.int kk t) := (lk_skip (by decide)).trans rfl
    refine wpAny_execs_cons (assign_pair hh (Subscript_ (nameX_L W8.fr hrow (nameX_L W8.fr rfl ?_))))
    refine item_listR (items := xs) ⟨_, W8.get (a := r) (.tail _ (.head _)), rfl, m2, rfl⟩ (by omega) (by omega) (x := xs[j.toNat]) (by simp [hjx]) ?_
    refine Subscript_ (nameX_L W8.fr hrow (nameX_L W8.fr kn ?_))
    refine item_listR (items := xs) ⟨_, W8.get (a := r) (.tail _ (.head _)), rfl, m2, rfl⟩ (by omega) (by omega) (x := xs[8 - i1]) (by rw [hk0]; simp [hkx]) ?_
    intro s₉ F9
    have W9 := W8.fx0 F9
    refine kas_sub (nameX_L W9.fr hrow (nameX_L W9.fr kn ?_))
    refine set_item_fx' (i := 8 - i1) hk0 (W9.get (a := r) (.tail _ (.head _))) hkx (by omega) fun s₁₀ m10 F10 e10 => ?_
    have W10 := W9.fx1 (a := r) (.tail .head) F10 e10
    refine kas_sub (nameX_L W10.fr hrow (nameX_L W10.fr rfl ?_))
    refine set_item_fx' (i := j.toNat) hj0 (W10.get (a := r) (.tail _ (.head _))) (by simpa using hjx) (by simp; omega) fun s₁₁ m11 F11 e11 => ?_
    have W11 := W10.fx1 (a := r) (.tail .head) F11 e11
    have T11 := (nil_tup F9).trans ((F10.tup1 (W9.get (a := r) (.tail _ (.head _))) (nt_list _ _)).trans (F11.tup1 (W10.get (a := r) (.tail _ (.head _))) (nt_list _ _)))
    have a11 := EK.All.mono T11 a8
    refine wpAny_execs_nil ⟨⟨_, _, m11, i7, c7, t7, u7, m7, (kl.set (8 - i1) (kl[j.toNat]'(by omega))).set j.toNat (kl[8 - i1]'(by omega)), W11.perm (.swap _ _ _), (lk_skip (by decide)).trans ((lk_skip (by decide)).trans e1), hrow, b7, d7, ?_, (swap_perm kl (8 - i1) j.toNat (by omega) (by omega)).trans p⟩, ?_⟩
    · show (ekI prog w).All s₁₁.heap ((xs.setIfInBounds (8 - i1) xs[j.toNat]).setIfInBounds j.toNat xs[8 - i1]).toList _
      rw [Array.toList_setIfInBounds, Array.toList_setIfInBounds]
      have gj : (ekI prog w).is s₁₁.heap (kl[j.toNat]'(by omega)) xs[j.toNat] := by
        obtain ⟨b, hb, hr⟩ := All2.get a11 (i := j.toNat) (a := xs[j.toNat]) (by simp [hjx])
        have : kl[j.toNat]? = some (kl[j.toNat]'(by omega)) := List.getElem?_eq_getElem (by omega)
        rw [this] at hb; cases hb; exact hr
      have gk : (ekI prog w).is s₁₁.heap (kl[8 - i1]'(by omega)) xs[8 - i1] := by
        obtain ⟨b, hb, hr⟩ := All2.get a11 (i := 8 - i1) (a := xs[8 - i1]) (by simp [hkx])
        have : kl[8 - i1]? = some (kl[8 - i1]'(by omega)) := List.getElem?_eq_getElem (by omega)
        rw [this] at hb; cases hb; exact hr
      exact All2.set (All2.set a11 gj) gk
    · have f1 : Fx s' s₅ [L, r, S] := F5.mono fun b hb => by rw [List.mem_singleton.mp hb]; exact .head _
      have f2 : Fx s₅ s₇ [L, r, S] := F7.mono fun b hb => by rw [List.mem_singleton.mp hb]; exact .tail _ (.tail _ (.head _))
      have f3 : Fx s₇ s₈ [L, r, S] := F8.mono fun b hb => by rw [List.mem_singleton.mp hb]; exact .head _
      have f4 : Fx s₈ s₉ [L, r, S] := F9.mono fun b hb => by cases hb
      have f5 : Fx s₉ s₁₁ [L, r, S] := (F10.trans F11).mono fun b hb => by rw [List.mem_singleton.mp hb]; exact .tail _ (.head _)
      exact f1.trans (f2.trans (f3.trans (f4.trans f5)))
  · rintro s' ⟨fl, xs, m2, i', c', t1', t2', m', kl, W', e1, e2, b1, b2, a, p⟩
    refine wpAny_execs_cons (wpAny_Return_some (nameX_L W'.fr e2 ?_))
    exact h s' i' c' t1' t2' m' r xs m2 kl (Chg.of_wd W' I.hid Ext.self) b1 b2 a p
end
end
section
open PySem PySem.W PyProof.Rows PySem.Calls Builtin
set_option Elab.async false
set_option maxRecDepth 100000
set_option pp.deepTerms false
set_option pp.maxSteps 1500
set_option linter.unusedVariables false
section
variable {prog : Program} {w : World} {κ : Type} [DecidableEq κ] {ek : EK prog w κ} {th : SetTh ek}
  {A : Around} {E : Value → Shared → Prop} {s s' s₁ : Shared} {R : Result → Shared → Prop} {x : Addr} {ks kb kl km : List κ} {k : κ} {v v2 : Value} {w0 : List Addr} {name : Str} {id T : String}
  {G : Array GenState} {O : OsState} {g base : Heap} {outer : List Env} {L a r l : Addr} {fl : List (Str × Value)} {news old upd rest foot : List (Addr × Obj)} {ob ob' : Obj} {f : Obj → List (Addr × Obj)} {o o' : Tob} {xs : Array Value} {m : Nat}
theorem inOp_lst {l : Addr} {xs : Array Value} {m : Nat} {Q : Value → Shared → Prop} (hA : AOk3 A) (hl : s.heap.get? l = some (lstO xs m)) (hr : ek.All s.heap xs.toList ks) (hk : ek.is s.heap k v)
    (h : ∀ s', Keeps s s' → Q (.bool (decide (k ∈ ks))) s') : wpAny (model prog w) A (compareOp .In v (.ref l)) Q E s := by
  show wpAny _ _ (do return .bool (← contains (.ref l) v)) Q E s
  exact wpAny_bind (lst_contains hA hl hr hk fun s' K => wpAny_pure (h s' K))
theorem notInOp_lst {l : Addr} {xs : Array Value} {m : Nat} {Q : Value → Shared → Prop} (hA : AOk3 A) (hl : s.heap.get? l = some (lstO xs m)) (hr : ek.All s.heap xs.toList ks) (hk : ek.is s.heap k v)
    (h : ∀ s', Keeps s s' → Q (.bool (!decide (k ∈ ks))) s') : wpAny (model prog w) A (compareOp .NotIn v (.ref l)) Q E s := by
  show wpAny _ _ (do return .bool (!(← contains (.ref l) v))) Q E s
  exact wpAny_bind (lst_contains hA hl hr hk fun s' K => wpAny_pure (h s' K))
set_option maxHeartbeats 4000000 in
theorem c_once (Gd : Gnd (KK w.params) base) (C : Site 60 A base outer s.heap) (hl : s.heap.get? l = some (lstO xs m)) (hr : ek.All s.heap xs.toList kl)
    (h : ∀ s' r xs' m', Chg s s' [] [(r, lstO xs' m')] → ek.All s'.heap xs'.toList (kl.foldl addK []) → R (.ok (.ret (.ref r))) s') :
    codeAny (model prog w) A (.call (.ref 249) ⟨[.ref l], []⟩) R s := by
  have XK : (Mine.hd.heap_39 w.params).In base ∧ PySem.Challenge.rw_eu0034_01 = PySem.Challenge.rw_eu0034_01 := ⟨Gd.inK, rfl⟩
  revert XK
  k_fill
  intro _
  refine' enter (K := Mine.hd.heap_39 w.params) (d := 59) (binds := [("row", .ref l)]) Gd C [] Own.nil ?ho ?hcd ?hbind ?hloc ?h ?hcell ?c1 ?c2 ?c3
  walk_at "enter"
  intro g L s₁ Rm W I
  have X := I.kin Gd
  have A3 := Rm.ok3 (by decide)
  have hh := Rm.hand
  have hlg := I.hid _ _ hl (by simp)
  have hrg := hr.mono I.tupg0
  refine wpAny_execs_cons (wpAny_Assign_Name (List_ (args_nil (wpAny_newObj_type ?_))))
  have W1 := W.push (lstO #[] 0) rfl (t := s₁.toks)
  generalize hD : s₁.heap.objs.size = D at W1 ⊢
  refine store_W W1 fun s₂ W2 F2 => ?_
  refine wpAny_execs_cons (wpAny_For (nameX_L W2.fr rfl ?_))
  refine (iterF_list (ek := ek) (W2.base hlg) (hrg.mono W2.tg)).run _ _ _ (Fx.refl _ _) fun s₃ I0 fp wr P St F3 Fd hw hf => ?_
  have W3 := W2.fx0 F3
  have off : ∀ a, g.get? a = none → (∃ o, s₂.heap.get? a = some o) → a ∉ fp := fun a h1 h2 hm => by
    obtain ⟨o2, h2⟩ := h2
    rcases hf a hm with z | z
    · rw [List.mem_singleton.mp z] at h1; rw [h1] at hlg; cases hlg
    · rw [h2] at z; cases z
  have hwr : ∀ b ∈ wr, s₂.heap.get? b = none := fun b hb => (hw b hb).elim (fun q => by cases q) id
  have hDn := W2.nw (D, lstO #[] 0) (.head _)
  refine for_feed (as := [L, D]) Fd hh (fun d s5 => TupKept s₃.heap s5.heap ∧ ∃ fl' ys m', Wd s.gens s.os g L s5 fl' [(D, lstO ys m')] ∧ fl'.lookup ("told" : Str) = some (.ref D) ∧ ek.All s5.heap ys.toList (d.foldl addK [])) ?_ (fun d s5 z => z.1) ?_ ?_ ?_ ⟨.refl _, _, #[], 0, W3, rfl, .nil⟩
  · intro a ha
    rcases List.mem_cons.mp ha with rfl | ha
    · refine off _ (kts_self W2.fr) ?_
      obtain ⟨oL, _, _, hL, _⟩ := W2.fr.ns; exact ⟨oL, hL⟩
    · rw [List.mem_singleton.mp ha]
      exact off _ hDn.2.2 ⟨_, hDn.1⟩
  · rintro d s5 s6 ⟨t5, fl', ys, m', W5, a1, O5⟩ F6 T6
    refine ⟨t5.trans T6, fl', ys, m', W5.fxw F6 (fun b hb => ?_), a1, EK.All.mono T6 O5⟩
    have z := W2.fresh (hwr b hb)
    refine ⟨z.1, z.2.1, fun p hp => ?_⟩
    rw [List.mem_singleton.mp hp]
    exact z.2.2 (D, lstO #[] 0) (.head _)
  · rintro d k r v' s5 hsplit hk ⟨t5, fl', ys, m', W5, a1, O5⟩
    refine store_W W5 fun s6 W6 F6 => ?_
    have T6 := W5.fxL F6
    have hk6 := ek.mono T6 hk
    have O6 := EK.All.mono T6 O5
    have ht : ((fun y => List.lookup y ((("one" : Str), v') :: fl')) ("told" : Str)) = some (.ref D) := (lk_skip (by decide)).trans a1
    refine wpAny_execs_cons (wpAny_If (wpAny_isTrue_Compare1 (nameX_L W6.fr rfl (nameX_L W6.fr ht ?_))))
    refine notInOp_lst (ek := ek) A3 (W6.get (a := D) (.head _)) O6 hk6 fun s7 K7 => wpAny_truthy_bool ?_
    have F7 : Fx s6 s7 [] := Fx.of_keeps K7 []
    have T7 := kp_tup K7
    have W7 := W6.fx0 F7
    have O7 := EK.All.mono T7 O6
    have hk7 := ek.mono T7 hk6
    have G6 : Fx s5 s6 [L, D] := F6.mono fun b hb => by rw [List.mem_singleton.mp hb]; exact .head _
    have G7 : Fx s5 s7 [L, D] := G6.trans (F7.mono fun b hb => by cases hb)
    by_cases hm : k ∈ d.foldl addK []
    · rw [if_neg (by simpa using hm)]
      refine wpAny_execs_nil (wpAny_execs_nil ⟨⟨t5.trans (T6.trans T7), _, ys, m', W7, ht, ?_⟩, G7⟩)
      rw [List.foldl_append, show List.foldl addK (d.foldl addK []) [k] = d.foldl addK [] from if_pos hm]
      exact O7
    · rw [if_pos (by simpa using hm)]
      have hsz : ys.size ≤ sizeLine := by
        have e1 := EK.All.length O7
        rw [Array.length_toList] at e1
        have e2 := EK.small (ek := ek) (nodup_addAll (kl := d) List.nodup_nil) O7.subset
        rw [sizeLine_eq]; omega
      refine wpAny_execs_cons (wpAny_Expr_any (methodCall_KW (nameX_L W7.fr ht ?_)))
      refine listMethod (W7.get (a := D) (.head _)) PySem.F.slot_list_append PySem.F.type_list_append ?_
      refine callWith_method1 (args_cons (nameX_L W7.fr rfl (args_nil ?_)))
      refine append_fx (xs := ys) (m := m') (W7.get (a := D) (.head _)) hsz fun s8 F8 e8 => ?_
      have W8 := W7.fx1 (a := D) .head F8 e8
      have T8 := F8.tup1 (W7.get (a := D) (.head _)) (nt_list _ _)
      refine wpAny_execs_nil (wpAny_execs_nil ⟨⟨t5.trans (T6.trans (T7.trans T8)), _, ys.push v', m' + 1, W8, ht, ?_⟩, G7.trans (F8.mono fun b hb => by rw [List.mem_singleton.mp hb]; exact .tail _ (.head _))⟩)
      rw [List.foldl_append, show List.foldl addK (d.foldl addK []) [k] = d.foldl addK [] ++ [k] from if_neg hm, Array.toList_push]
      exact All2.app (EK.All.mono T8 O7) (.cons (ek.mono T8 hk7) .nil)
  · rintro s5 ⟨t5, fl', ys, m', W5, a1, O5⟩
    refine wpAny_execs_cons (wpAny_Return_some (nameX_L W5.fr a1 ?_))
    exact h s5 D ys m' (Chg.of_wd W5 I.hid Ext.self) O5
end
end
section
open PySem PySem.W PyProof.Rows PySem.Calls Builtin
set_option Elab.async false
set_option maxRecDepth 100000
set_option pp.deepTerms false
set_option pp.maxSteps 1500
set_option linter.unusedVariables false
section
variable {prog : Program} {w : World} {κ : Type} [DecidableEq κ] {ek : EK prog w κ} {th : SetTh ek}
  {A : Around} {E : Value → Shared → Prop} {s s' s₁ : Shared} {R : Result → Shared → Prop} {x : Addr} {ks kb kl km : List κ} {k : κ} {v v2 : Value} {w0 : List Addr} {name : Str} {id T : String}
  {G : Array GenState} {O : OsState} {g base : Heap} {outer : List Env} {L a r l : Addr} {fl : List (Str × Value)} {news old upd rest foot : List (Addr × Obj)} {ob ob' : Obj} {f : Obj → List (Addr × Obj)} {o o' : Tob} {xs : Array Value} {m : Nat}
theorem slice_gen {env : Env} {value : Expr} {lower upper : Option Expr} {p pos : Pos} {Q : Value → Shared → Prop}
    (h : wpAny (model prog w) A (eval value env) (fun o s₁ => wpAny (model prog w) A (evalPart lower env) (fun vl s₂ => wpAny (model prog w) A (evalPart upper env) (fun vu s₃ =>
      ∃ l xs m lo hi, o = .ref l ∧ s₃.heap.get? l = some (lstO xs m) ∧ xs.size ≤ sizeLine ∧ IsPart vl lo ∧ IsPart vu hi ∧
        ∀ s₄ r, Fx s₃ s₄ [] → s₃.heap.get? r = none → s₄.heap.get? r = some (lstO (slicePick xs lo hi none) 0) → Q (.ref r) s₄) E s₂) E s₁) E s)
    (ht : ∀ o r, letTemporaryGo value o r = pure () := by intro _ _; rfl) :
    wpAny (model prog w) A (eval (.Subscript value (.Slice lower upper none p) pos) env) Q E s := by
  refine wpAny_Subscript_list_slice (wpAny_mono h (fun o s₁ h₁ => wpAny_mono h₁ (fun vl s₂ h₂ => wpAny_mono h₂ (fun vu s₃ h₃ => ?_) fun _ _ e => e) fun _ _ e => e) fun _ _ e => e) ht
  obtain ⟨l, xs, m, lo, hi, rfl, hl, hz, pl, pu, hQ⟩ := h₃
  exact ⟨l, xs, lo, hi, rfl, ⟨_, hl, rfl, m, rfl⟩, hz, pl, pu, hQ _ _ ⟨fun b o e _ => Heap.get?_push_of_some _ (Heap.get?_push_of_some _ e), rfl, rfl⟩ (Heap.get?_none_of_le (Nat.le_succ _)) (Heap.get?_push_at (by rw [Heap.size_push]) rfl)⟩
theorem slice_all {env : Env} {value : Expr} {p pos : Pos} {Q : Value → Shared → Prop}
    (h : wpAny (model prog w) A (eval value env) (fun o s₁ => ∃ l xs m, o = .ref l ∧ s₁.heap.get? l = some (lstO xs m) ∧ xs.size ≤ sizeLine ∧
        ∀ s₄ r, Fx s₁ s₄ [] → s₁.heap.get? r = none → s₄.heap.get? r = some (lstO xs 0) → Q (.ref r) s₄) E s)
    (ht : ∀ o r, letTemporaryGo value o r = pure () := by intro _ _; rfl) :
    wpAny (model prog w) A (eval (.Subscript value (.Slice none none none p) pos) env) Q E s := by
  refine slice_gen (wpAny_mono h (fun o s₁ h₁ => ?_) fun _ _ e => e) ht
  obtain ⟨l, xs, m, rfl, hl, hz, hQ⟩ := h₁
  rw [evalPart_none]
  refine wpAny_pure (wpAny_pure ⟨l, xs, m, none, none, rfl, hl, hz, .none, .none, fun s₄ r F hn e => hQ s₄ r F hn ?_⟩)
  rwa [slicePick_all] at e
theorem slice_upto {env : Env} {value up : Expr} {p pos : Pos} {Q : Value → Shared → Prop}
    (h : wpAny (model prog w) A (eval value env) (fun o s₁ => wpAny (model prog w) A (eval up env) (fun u s₂ => ∃ l xs m b t, o = .ref l ∧ u = .int b t ∧ 0 ≤ b ∧ s₂.heap.get? l = some (lstO xs m) ∧ xs.size ≤ sizeLine ∧
        ∀ s₄ r, Fx s₂ s₄ [] → s₂.heap.get? r = none → s₄.heap.get? r = some (lstO (xs.toList.take b.toNat).toArray 0) → Q (.ref r) s₄) E s₁) E s)
    (ht : ∀ o r, letTemporaryGo value o r = pure () := by intro _ _; rfl) :
    wpAny (model prog w) A (eval (.Subscript value (.Slice none (some up) none p) pos) env) Q E s := by
  refine slice_gen (wpAny_mono h (fun o s₁ h₁ => ?_) fun _ _ e => e) ht
  rw [evalPart_none]
  refine wpAny_pure (wpAny_mono (t := eval up env) h₁ (fun u s₂ h₂ => ?_) fun _ _ e => e)
  obtain ⟨l, xs, m, b, t, rfl, rfl, hb, hl, hz, hQ⟩ := h₂
  refine ⟨l, xs, m, none, some b, rfl, hl, hz, .none, .int _ _, fun s₄ r F hn e => hQ s₄ r F hn ?_⟩
  obtain ⟨n, rfl⟩ := Int.eq_ofNat_of_zero_le hb
  rwa [slicePick_upto'] at e
theorem slice_from {env : Env} {value lo : Expr} {p pos : Pos} {Q : Value → Shared → Prop}
    (h : wpAny (model prog w) A (eval value env) (fun o s₁ => wpAny (model prog w) A (eval lo env) (fun u s₂ => ∃ l xs m b t, o = .ref l ∧ u = .int b t ∧ 0 ≤ b ∧ s₂.heap.get? l = some (lstO xs m) ∧ xs.size ≤ sizeLine ∧
        ∀ s₄ r, Fx s₂ s₄ [] → s₂.heap.get? r = none → s₄.heap.get? r = some (lstO (xs.toList.drop b.toNat).toArray 0) → Q (.ref r) s₄) E s₁) E s)
    (ht : ∀ o r, letTemporaryGo value o r = pure () := by intro _ _; rfl) :
    wpAny (model prog w) A (eval (.Subscript value (.Slice (some lo) none none p) pos) env) Q E s := by
  refine slice_gen (wpAny_mono h (fun o s₁ h₁ => ?_) fun _ _ e => e) ht
  refine wpAny_mono (t := eval lo env) h₁ (fun u s₂ h₂ => ?_) fun _ _ e => e
  rw [evalPart_none]
  obtain ⟨l, xs, m, b, t, rfl, rfl, hb, hl, hz, hQ⟩ := h₂
  refine wpAny_pure ⟨l, xs, m, some b, none, rfl, hl, hz, .int _ _, .none, fun s₄ r F hn e => hQ s₄ r F hn ?_⟩
  obtain ⟨n, rfl⟩ := Int.eq_ofNat_of_zero_le hb
  rwa [slicePick_from'] at e
theorem slice_butLast {env : Env} {value up : Expr} {p pos : Pos} {Q : Value → Shared → Prop}
    (h : wpAny (model prog w) A (eval value env) (fun o s₁ => wpAny (model prog w) A (eval up env) (fun u s₂ => ∃ l xs m t, o = .ref l ∧ u = .int (-1) t ∧ s₂.heap.get? l = some (lstO xs m) ∧ xs.size ≤ sizeLine ∧
        ∀ s₄ r, Fx s₂ s₄ [] → s₂.heap.get? r = none → s₄.heap.get? r = some (lstO xs.toList.dropLast.toArray 0) → Q (.ref r) s₄) E s₁) E s)
    (ht : ∀ o r, letTemporaryGo value o r = pure () := by intro _ _; rfl) :
    wpAny (model prog w) A (eval (.Subscript value (.Slice none (some up) none p) pos) env) Q E s := by
  refine slice_gen (wpAny_mono h (fun o s₁ h₁ => ?_) fun _ _ e => e) ht
  rw [evalPart_none]
  refine wpAny_pure (wpAny_mono (t := eval up env) h₁ (fun u s₂ h₂ => ?_) fun _ _ e => e)
  obtain ⟨l, xs, m, t, rfl, rfl, hl, hz, hQ⟩ := h₂
  refine ⟨l, xs, m, none, some (-1), rfl, hl, hz, .none, .int _ _, fun s₄ r F hn e => hQ s₄ r F hn ?_⟩
  have := slicePick_butLast xs 1 (by decide)
  rw [show (-((1 : Nat) : Int)) = -1 from rfl] at this
  rw [this] at e
  rwa [List.dropLast_eq_take, Array.length_toList]
theorem tuple_copy {l : Addr} {xs : Array Value} {m : Nat} {Q : Value → Shared → Prop} (hl : s.heap.get? l = some (lstO xs m)) (hz : xs.size ≤ sizeLine)
    (h : ∀ s' r, Fx s s' [] → s.heap.get? r = none → s'.heap.get? r = some { cls := .type "tuple", data := .seq xs 0 } → Q (.ref r) s') : wpAny (model prog w) A (call (.type "tuple") [.ref l]) Q E s := by
  refine call_tuple_list ⟨_, hl, rfl, m, rfl⟩ (fun h' hk => h _ _ ⟨fun b o e _ => Heap.get?_push_of_some _ (hk b o e), rfl, rfl⟩ ?_ (Heap.get?_push_size _ rfl)) hz
  cases q : s.heap.get? h'.objs.size with
  | none => rfl
  | some o => exact absurd (Heap.lt_size (hk _ _ q)) (Nat.lt_irrefl _)
end
end
section
open PySem PySem.W PyProof.Rows PySem.Calls Builtin
set_option Elab.async false
set_option maxRecDepth 100000
set_option pp.deepTerms false
set_option pp.maxSteps 1500
set_option linter.unusedVariables false
section
variable {prog : Program} {w : World} {κ : Type} [DecidableEq κ] {ek : EK prog w κ} {th : SetTh ek}
  {A : Around} {E : Value → Shared → Prop} {s s' s₁ : Shared} {R : Result → Shared → Prop} {x : Addr} {ks kb kl km : List κ} {k : κ} {v v2 : Value} {w0 : List Addr} {name : Str} {id T : String}
  {G : Array GenState} {O : OsState} {g base : Heap} {outer : List Env} {L a r l : Addr} {fl : List (Str × Value)} {news old upd rest foot : List (Addr × Obj)} {ob ob' : Obj} {f : Obj → List (Addr × Obj)} {o o' : Tob} {xs : Array Value} {m : Nat}
theorem stored_keys {kvs : List (Int × Value)} {k : Int} {y : Value} : (stored kvs k y).map (·.1) = addK (kvs.map (·.1)) k := by
  unfold stored addK
  by_cases h : kvs.any (fun kv => decide (kv.1 = k)) = true
  · rw [if_pos h, if_pos]
    · rw [List.map_map]
      refine List.map_congr_left fun kv _ => ?_
      simp only [Function.comp]
      split <;> rfl
    · obtain ⟨kv, h1, h2⟩ := List.any_eq_true.mp h
      exact List.mem_map.mpr ⟨kv, h1, of_decide_eq_true h2⟩
  · rw [if_neg h, if_neg]
    · simp
    · intro hm
      obtain ⟨kv, h1, h2⟩ := List.mem_map.mp hm
      exact h (List.any_eq_true.mpr ⟨kv, h1, decide_eq_true h2⟩)
theorem storedAll_keys {h : Heap} {vs : List Value} {kvs : List (Int × Value)} {FV : Value → Value → Prop} (x : StoredAll (fun v k => (intKind prog w).is k v = true) FV vs kvs) : ∀ {kl : List Int}, (ekI prog w).All h vs kl → kvs.map (·.1) = kl.foldl addK [] := by
  induction x with
  | nil => intro kl a; cases a; rfl
  | @snoc l kvs v k y _ hk _ ih =>
    intro kl a
    obtain ⟨k1, k2, rfl, a1, a2⟩ := All2.append_inv a
    cases a2 with
    | @cons _ b _ _ hb hr =>
    cases hr
    rw [stored_keys, ih a1, List.foldl_append, (intKind prog w).inj _ _ _ hk hb.1]
    rfl
theorem pairs_all {es : List DictEntry} {kvs : List (Int × Value)} (x : Pairs (intKind prog w) es kvs) : All2 (fun e k => (intKind prog w).is k e.key = true) es (kvs.map (·.1)) := by
  induction x with
  | nil => exact .nil
  | cons h1 h2 h3 ih => exact .cons (by assumption) ih
theorem dict_ones {env : Env} {iter : Expr} {scope : Scope} {px ep pos cp : Pos} {kk : Nat} {xn : Str} {l : Addr} {kl : List Int} {Q : Value → Shared → Prop} (hh : A.handled = none)
    (hclos : closureFor scope env = pure []) (hcell : ∀ y ∈ scope.names, y.2 ≠ .cell) (hkind : scope.kind = .function)
    (hnames : ∀ y ∈ scope.names, y.2 = .local → scope.names.lookup y.1 = some .local) (hx : scope.names.lookup xn = some .local) (hdb : (xn == ("__debug__" : Str)) = false)
    (hsys : ∃ b o, sysModules < b ∧ s.heap.get? b = some o) (hl : s.heap.get? l = some (lstO xs m)) (hr : (ekI prog w).All s.heap xs.toList kl) (nd : kl.Nodup) (hz : kl.length ≤ 10000)
    (hn : ∀ {Q' : Value → Shared → Prop}, Q' (.ref l) s → wpAny (model prog w) A (eval iter env) Q' E s)
    (h : ∀ s' D od ed ep, Fx s s' [] → s.heap.get? D = none → DI (ekI prog w) s'.heap D od ed ep kl → Q (.ref D) s')
    (hs : ∀ x, foldedSetIterable iter env x = pure x := by intro _; rfl) :
    wpAny (model prog w) A (eval (.DictComp (.Name xn ep) (.Constant (.int 0) kk cp) [⟨.Name xn px, iter, [], 0⟩] scope pos) env) Q E s := by
  rw [arm_eval_DictComp]
  refine wpAny_comprehension_free (use := none) rfl hs hclos hkind hnames (hn ?_)
  refine (iterF_list (ek := ekI prog w) hl hr).run _ _ _ (Fx.refl _ _) fun s₂ I fp wr P St F2 Fd hw hf => ?_
  refine wpAny_newObj_type (wpAny_newFunctionEnv hcell (by intro y hy; simp at hy) (fun h₁ hns₁ hsb₁ => ?_) hkind)
  dsimp only at hns₁ hsb₁ ⊢
  have szk : sysModules < s₂.heap.objs.size := by
    obtain ⟨b, o, h1, h2⟩ := hsys
    exact Nat.lt_trans h1 (Heap.lt_size (F2.keep _ _ h2 (by simp)))
  have free : ∀ a, s₂.heap.objs.size ≤ a → s₂.heap.get? a = none := fun a ha => by
    cases q : s₂.heap.get? a with
    | none => rfl
    | some o => exact absurd (Heap.lt_size q) (Nat.not_lt.mpr ha)
  generalize hH2 : s₂.heap.push { cls := .type "dict", dict := none, data := .dict #[] } = H2 at hns₁ hsb₁ ⊢
  have hC : H2.objs.size = s₂.heap.objs.size + 1 := by rw [← hH2, Heap.size_push]
  have lt2 : s₂.heap.objs.size < H2.objs.size := hC ▸ Nat.lt_succ_self _
  have ne1 : s₂.heap.objs.size ≠ H2.objs.size := Nat.ne_of_lt lt2
  have up : ∀ b o, s₂.heap.get? b = some o → h₁.get? b = some o := fun b o e => hsb₁.extBut b o (Nat.ne_of_lt (Nat.lt_trans (Heap.lt_size e) lt2)) (Heap.get?_push_of_some _ (hH2 ▸ Heap.get?_push_of_some _ e))
  have hacc : h₁.DictOf (intKind prog w) s₂.heap.objs.size [] := (hH2 ▸ Heap.DictOf.new s₂.heap : H2.DictOf (intKind prog w) s₂.heap.objs.size []).at fun o e => hsb₁.extBut _ _ ne1 (Heap.get?_push_of_some _ e)
  have hbf : ∀ b ∈ fp, b < s₂.heap.objs.size := fun b hb => (Fd.noSet b hb).elim fun ob z => Heap.lt_size z.1
  have st₁ : St 0 h₁ := (Fd.walks A hh).frame _ _ _ Fd.start fun b _ o e => up b o e
  have lf : codeAny (model prog w) A (.compLoop (.DictComp (.Name xn ep) (.Constant (.int 0) kk cp) [⟨.Name xn px, iter, [], 0⟩] scope pos) 0 (.ref I) (.ref s₂.heap.objs.size) (compEnvC scope [] H2.objs.size env))
      (compPost (model prog w) A E none Q (.ref s₂.heap.objs.size) H2.objs.size) { s₂ with heap := h₁, toks := s₂.toks + ([] : List (Str × Value)).length } := by
    refine codeAny_compLoop_walkD (knd := intKind prog w) (cenv := compEnvC scope [] H2.objs.size env) (hsz := by rw [sizeLine_eq]; omega) (Fd.walks A hh) (fun _ => true) (fun v k => (intKind prog w).is k v = true) (fun _ _ => True)
      (lookup_relabel_local hx) (by simp [compEnvC, relabel, hkind]) ne1 (fun hm => Nat.lt_irrefl _ (hbf _ hm)) (fun hm => Nat.lt_irrefl _ (Nat.lt_trans (hbf _ hm) lt2)) st₁ hacc hns₁ ?_ ?_ ?_ ?_
    · intro i v s₃ m₃ hp hns hm hk
      rw [List.forIn_nil]
      exact wpAny_pure ⟨rfl, kp_self _⟩
    · intro i v s₃ m₃ hp _ hns hm hk
      refine wpAny_Name (wpAny_loadName_local (by show (relabel scope env).kind = _; exact hkind) (lookup_relabel_local hx) hns hm ?_) hdb
      obtain ⟨k, _, hk2⟩ := Fd.keys i v hp
      exact ⟨⟨k, hk2.1, hk2.1⟩, kp_self _⟩
    · intro i v s₃ m₃ hp _ hns hm hk
      exact wpAny_Constant_int ⟨trivial, kp_tok _ _⟩
    · intro h' tk m' kvs vs hn' hDict hlen hP hF hk
      refine ⟨m', hn', fun h2 hs2 => ?_⟩
      have hkeep : ∀ b o, s.heap.get? b = some o → h2.get? b = some o := fun b o e => by
        have e2 := F2.keep b o e (by simp)
        have := Heap.lt_size e2
        refine hs2.extBut b o (Nat.ne_of_lt (Nat.lt_trans this lt2)) (hk b o (Nat.ne_of_lt (Nat.lt_trans this lt2)) (fun m => (hw b m).elim (fun q => by cases q) fun q => by rw [e] at q; cases q) (Nat.ne_of_lt this) (up b o e2))
      have hvs : (ekI prog w).All s₂.heap vs kl := all2_of_get hlen fun i v e => Fd.keys i v (hP i v e)
      rw [List.filter_eq_self.mpr (fun _ _ => rfl)] at hF
      have ek := storedAll_keys hF hvs
      rw [addAll_nodup nd] at ek
      obtain ⟨o, es, ep', ho, hex, hd, hks, hpr, hnd⟩ := hDict
      have ap := pairs_all hpr
      rw [ek] at ap
      have gone : s.heap.get? s₂.heap.objs.size = none := by
        cases q : s.heap.get? s₂.heap.objs.size with
        | none => rfl
        | some o => exact absurd (Heap.lt_size (F2.keep _ _ q (by simp))) (Nat.lt_irrefl _)
      refine h _ s₂.heap.objs.size o es ep' ⟨fun b o e _ => hkeep b o e, F2.gens, F2.os⟩ gone ⟨hs2.extBut _ _ ne1 ho, hex.1, hd, ?_, nd, ?_, hex.2.1⟩
      · refine All2.mem_imp ap fun e he k hk1 hk2 => ?_
        obtain ⟨k', h1, h2⟩ := hks e (by simpa using he)
        have hkk : k' = k := (intKind prog w).inj _ _ _ h1 hk2
        subst hkk
        have hu := hr.subset k' hk1
        obtain ⟨n, hn1, hn2⟩ := List.mem_map.mp hu
        have hn3 := List.mem_range.mp hn1
        refine ⟨h2, hk2, ?_, ?_⟩ <;> (rw [← hn2]; simp; try omega)
      · exact beq_eq_false_iff_ne.mpr (Nat.ne_of_gt szk)
  exact codeAny_compStart_dict lf ((Fd.walks A hh).self 0 _ _ _ st₁ lf)
end
end
section
open PySem PySem.W PyProof.Rows PySem.Calls Builtin
set_option Elab.async false
set_option maxRecDepth 100000
set_option pp.deepTerms false
set_option pp.maxSteps 1500
set_option linter.unusedVariables false
section
variable {prog : Program} {w : World} {κ : Type} [DecidableEq κ] {ek : EK prog w κ} {th : SetTh ek}
  {A : Around} {E : Value → Shared → Prop} {s s' s₁ : Shared} {R : Result → Shared → Prop} {x : Addr} {ks kb kl km : List κ} {k : κ} {v v2 : Value} {w0 : List Addr} {name : Str} {id T : String}
  {G : Array GenState} {O : OsState} {g base : Heap} {outer : List Env} {L a r l : Addr} {fl : List (Str × Value)} {news old upd rest foot : List (Addr × Obj)} {ob ob' : Obj} {f : Obj → List (Addr × Obj)} {o o' : Tob} {xs : Array Value} {m : Nat}
inductive HandIs (th : SetTh ek) (h : Heap) (v : Value) (kl : List κ) : Int → List (Addr × Obj) → Prop
  | list (r : Addr) (xs : Array Value) (m : Nat) : v = .ref r → ek.All h xs.toList kl → HandIs th h v kl 0 [(r, lstO xs m)]
  | tuple (r : Addr) (xs : Array Value) (m : Nat) : v = .ref r → ek.All h xs.toList kl → HandIs th h v kl 1 [(r, { cls := .type "tuple", data := .seq xs m })]
  | dict (r : Addr) (od : Obj) (ed : Array DictEntry) (ep : Nat) : v = .ref r → DI ek h r od ed ep kl → HandIs th h v kl 2 [(r, od)]
  | oset (x : Addr) (o : Tob) : v = .ref x → OS th h o kl → HandIs th h v kl 3 (o.ents x)
theorem HandIs.op {h : Heap} {way : Int} {upd : List (Addr × Obj)} (H : HandIs th h v kl way upd) (hu : ∀ p ∈ upd, h.get? p.1 = some p.2) : OpK th h v kl (upd.map (·.1)) := by
  cases H with
  | list r xs m e a => exact .list r xs m e (hu _ (.head _)) a
  | tuple r xs m e a => exact .tuple r xs m e (hu _ (.head _)) a
  | dict r od ed ep e D => exact .dict r od ed ep e D
  | oset x o e O => exact .oset x o e hu O
theorem HandIs.mono {h h' : Heap} {way : Int} {upd : List (Addr × Obj)} (H : HandIs th h v kl way upd) (hu : ∀ p ∈ upd, h'.get? p.1 = some p.2) (tk : TupKept h h') : HandIs th h' v kl way upd := by
  cases H with
  | list r xs m e a => exact .list r xs m e (a.mono tk)
  | tuple r xs m e a => exact .tuple r xs m e (a.mono tk)
  | dict r od ed ep e D => exact .dict r od ed ep e (D.kept (hu _ (.head _)) tk)
  | oset x o e O => exact .oset x o e (O.mono tk)
theorem below10 {kl : List Int} {h : Heap} {vs : List Value} (hr : (ekI prog w).All h vs kl) (nd : kl.Nodup) : kl.length ≤ 12 := EK.small (ek := ekI prog w) nd hr.subset
theorem Wd.over (W : Wd G O g L s fl news) (h : sysModules < g.objs.size) : ∃ b o, sysModules < b ∧ s.heap.get? b = some o := by
  obtain ⟨oL, _, _, hL, _⟩ := W.fr.ns
  exact ⟨L, oL, Nat.lt_of_lt_of_le h W.fr.above, hL⟩
theorem g_tuple (P : Params) : nsIn (KK P) mainGlobals "tuple" = some none := by kernel_rfl
set_option maxHeartbeats 4000000 in
theorem c_handed {way : Int} {tm : Tok} {xs : Array Value} {kl : List Int} {th : SetTh (ekI prog w)} (Gd : Gnd (KK w.params) base) (C : Site 80 A base outer s.heap) (hl : s.heap.get? l = some (lstO xs m)) (hr : (ekI prog w).All s.heap xs.toList kl) (nd : kl.Nodup) (hw : way = 0 ∨ way = 1 ∨ way = 2 ∨ way = 3)
    (h : ∀ s' v upd, Chg s s' [] upd → HandIs th s'.heap v kl way upd → R (.ok (.ret v)) s') :
    codeAny (model prog w) A (.call (.ref 254) ⟨[.int way tm, .ref l], []⟩) R s := by
  have XK : (Mine.hd.heap_39 w.params).In base ∧ PySem.Challenge.rw_eu0034_01 = PySem.Challenge.rw_eu0034_01 := ⟨Gd.inK, rfl⟩
  revert XK
  k_fill
  intro _
  refine' enter (K := Mine.hd.heap_39 w.params) (d := 79) (binds := [("way", .int way tm), ("row", .ref l)]) Gd C [] Own.nil ?ho ?hcd ?hbind ?hloc ?h ?hcell ?c1 ?c2 ?c3
  walk_at "enter"
  intro g L s₁ Rm W I
  have X := I.kin Gd
  have A3 := Rm.ok3 (by decide)
  have hlg := I.hid _ _ hl (by simp)
  have hrg := hr.mono I.tupg0
  have h12 := below10 hr nd
  have hx : xs.size = kl.length := by rw [← Array.length_toList, EK.All.length hr]
  have hz : xs.size ≤ sizeLine := by rw [sizeLine_eq]; omega
  refine wpAny_execs_cons (wpAny_If (wpAny_isTrue_Compare1 (nameX_L W.fr rfl (wpAny_Constant_int (PyProof.Rows.eq_int (wpAny_truthy_bool ?_))))))
  have W1 := W.toks (t := s₁.toks + 1)
  by_cases q0 : way = 0
  · subst q0
    rw [if_pos (by decide)]
    refine wpAny_execs_cons (wpAny_Return_some (slice_all (nameX_L W1.fr rfl ?_)))
    refine ⟨l, xs, m, rfl, W1.base hlg, hz, fun s₄ r F hn e => ?_⟩
    have W2 := W1.fxNew F hn e
    exact h _ _ _ (Chg.of_wd W2 I.hid (.cons .head .nil)) (.list r xs 0 rfl (hrg.mono W2.tg))
  rw [if_neg (by simpa using q0)]
  refine wpAny_execs_nil ?_
  refine wpAny_execs_cons (wpAny_If (wpAny_isTrue_Compare1 (nameX_L W1.fr rfl (wpAny_Constant_int (PyProof.Rows.eq_int (wpAny_truthy_bool ?_))))))
  have W2 := W1.toks (t := s₁.toks + 1 + 1)
  by_cases q1 : way = 1
  · subst q1
    rw [if_pos (by decide)]
    refine wpAny_execs_cons (wpAny_Return_some (Call_ (bName (v := .type "tuple") Gd W2 I.below.stays (g_tuple _) (by kernel_rfl) ?_)))
    refine PyProof.Rows.callWith_type1 (args_cons (nameX_L W2.fr rfl (args_nil ?_)))
    refine tuple_copy (W2.base hlg) hz fun s₄ r F hn e => ?_
    have W3 := W2.fxNew F hn e
    exact h _ _ _ (Chg.of_wd W3 I.hid (.cons .head .nil)) (.tuple r xs 0 rfl (hrg.mono W3.tg))
  rw [if_neg (by simpa using q1)]
  refine wpAny_execs_nil ?_
  refine wpAny_execs_cons (wpAny_Return_some (wpAny_IfExp (wpAny_isTrue_Compare1 (nameX_L W2.fr rfl (wpAny_Constant_int (PyProof.Rows.eq_int (wpAny_truthy_bool ?_)))))))
  have W3 := W2.toks (t := s₁.toks + 1 + 1 + 1)
  by_cases q2 : way = 2
  · subst q2
    rw [if_pos (by decide)]
    have hsys : sysModules < g.objs.size := by
      obtain ⟨p, lo, mg, mb, T⟩ := Gd.top
      exact modules_low (T.keeps I.below.stays).nolimit
    refine dict_ones A3.hand rfl (by decide) rfl (by decide) (by decide) (by decide) (W3.over hsys) (W3.base hlg) (hrg.mono W3.tg) nd (by omega) (fun q => nameX_L W3.fr rfl q) fun s₄ D od ed ep F hn DD => ?_
    have W4 := W3.fxNew F hn DD.at_
    exact h _ _ _ (Chg.of_wd W4 I.hid (.cons .head .nil)) (.dict D od ed ep rfl DD)
  have q3 : way = 3 := by omega
  subst q3
  rw [if_neg (by decide)]
  refine Call_ (kName Gd W3 I.below.stays (g_OrderedSet _) ?_)
  refine callWith_K X (keep225 _) (args_cons (nameX_L W3.fr rfl (args_nil ⟨W3.kin X, wpAny_call ?_⟩)))
  refine c_new_list (th := th) Gd (site_W I.below W3 Rm rfl rfl (by decide)) (W3.base hlg) (hrg.mono W3.tg) (by omega) fun s₄ x' o' ch O => ?_
  rw [addAll_nodup nd] at O
  have W4 := W3.chg (old := []) .nil ch
  exact h _ _ _ (Chg.of_wd W4 I.hid Ext.front) (.oset x' o' rfl O)
end
end
section
open PySem PySem.W PyProof.Rows PySem.Calls Builtin
set_option Elab.async false
set_option maxRecDepth 100000
set_option pp.deepTerms false
set_option pp.maxSteps 1500
set_option linter.unusedVariables false
section
variable {prog : Program} {w : World} {κ : Type} [DecidableEq κ] {ek : EK prog w κ} {th : SetTh ek}
  {A : Around} {E : Value → Shared → Prop} {s s' s₁ : Shared} {R : Result → Shared → Prop} {x : Addr} {ks kb kl km : List κ} {k : κ} {v v2 : Value} {w0 : List Addr} {name : Str} {id T : String}
  {G : Array GenState} {O : OsState} {g base : Heap} {outer : List Env} {L a r l : Addr} {fl : List (Str × Value)} {news old upd rest foot : List (Addr × Obj)} {ob ob' : Obj} {f : Obj → List (Addr × Obj)} {o o' : Tob} {xs : Array Value} {m : Nat}
theorem comp_lst {env : Env} {xn : Str} {px ep' pos : Pos} {iter c : Expr} {scope : Scope} {cl : List (Str × Addr)} {Q : Value → Shared → Prop} (q : κ → Bool)
    (hclos : closureFor scope env = pure cl) (hcell : ∀ y ∈ scope.names, y.2 ≠ .cell) (hkind : scope.kind = .function)
    (hnames : ∀ y ∈ scope.names, y.2 = .local → scope.names.lookup y.1 = some .local) (hx : scope.names.lookup xn = some .local)
    (hdb : (xn == ("__debug__" : Str)) = false) (hh : A.handled = none)
    (hl : s.heap.get? l = some (lstO xs m)) (hr : ek.All s.heap xs.toList kl) (hz : kl.length ≤ 10000)
    (hn : ∀ {Q' : Value → Shared → Prop}, Q' (.ref l) s → wpAny (model prog w) A (eval iter env) Q' E s)
    (hcond : ∀ C s₃ m₃ v k E', s₃.heap.Ns C m₃ → m₃ xn = some v → (∀ b o, s.heap.get? b = some o → s₃.heap.get? b = some o) → ek.is s₃.heap k v →
      wpAny (model prog w) A (isTrue c (compEnvC scope cl C env) (eval c (compEnvC scope cl C env))) (fun ok s₄ => ok = q k ∧ Keeps s₃ s₄) E' s₃)
    (h : ∀ s' D xs m, Fx s s' [] → s.heap.get? D = none → s'.heap.get? D = some (lstO xs m) → ek.All s'.heap xs.toList (kl.filter q) → Q (.ref D) s')
    (hs : ∀ x, foldedSetIterable iter env x = pure x := by intro _; rfl) :
    wpAny (model prog w) A (eval (.ListComp (.Name xn ep') [⟨.Name xn px, iter, [c], 0⟩] scope pos) env) Q E s := by
  refine comp_filter (ek := ek) (kl := kl) (cl := cl) q hclos hcell hkind hnames hx hdb (hn ?_) hh hs
  refine (iterF_list (ek := ek) hl hr).run _ _ _ (Fx.refl _ _) fun s₅ I0 fp wr P St F5 Fd hw hf => ⟨I0, fp, wr, P, St, rfl, Fd, hz, fun b hb => (Fd.noSet b hb).elim fun ob z => Heap.lt_size z.1, ?_, ?_⟩
  · intro C s₆ m₆ v k E' hns hm hkp hisk
    exact hcond C s₆ m₆ v k E' hns hm (fun b ob e => hkp b ob (fun m => (hw b m).elim (fun q => by cases q) fun q => by rw [e] at q; cases q) (F5.keep _ _ e (by simp))) hisk
  · intro s₆ D' xs' m' F6 hD' e6 a6
    refine h s₆ D' xs' m' ⟨fun b ob e _ => F6.keep _ _ (F5.keep _ _ e (by simp)) (fun m => (hw b m).elim (fun q => by cases q) (fun q => by rw [e] at q; cases q)), F6.gens.trans F5.gens, F6.os.trans F5.os⟩ ?_ e6 a6
    cases q : s.heap.get? D' with
    | none => rfl
    | some ob => rw [F5.keep _ _ q (by simp)] at hD'; cases hD'
theorem add_lst {b : Addr} {ys : Array Value} {m2 : Nat} {Q : Value → Shared → Prop} (hl : s.heap.get? l = some (lstO xs m)) (hb : s.heap.get? b = some (lstO ys m2)) (hz : xs.size + ys.size ≤ sizeLine)
    (h : ∀ s' D, Fx s s' [] → s.heap.get? D = none → s'.heap.get? D = some (lstO (xs ++ ys) 0) → Q (.ref D) s') : wpAny (model prog w) A (binaryOp .Add (.ref l) (.ref b)) Q E s := by
  refine PySem.P.add_list hl hb ?_ hz
  exact h _ _ ⟨fun b o e _ => Heap.get?_push_of_some _ e, rfl, rfl⟩ (Heap.get?_none_of_le (Nat.le_refl _)) (Heap.get?_push_size _ rfl)
section
variable (P : Params)
theorem g_once : nsIn (KK P) mainGlobals "_law_once" = some (some (.ref 249)) := by kernel_rfl
theorem keep249 : keepIn (KK P) (.ref 249) = true := by kernel_rfl
end
def plain [DecidableEq κ] (kind : Int) (held row : List κ) : List κ :=
  if kind = 0 then (held ++ row).foldl addK []
  else if kind = 1 then held.filter fun k => decide (k ∈ row)
  else if kind = 2 then held.filter fun k => !decide (k ∈ row)
  else held.filter (fun k => !decide (k ∈ row)) ++ row.filter (fun k => !decide (k ∈ held))
set_option maxHeartbeats 4000000 in
theorem c_plain {kind : Int} {tm : Tok} {r : Addr} {ys : Array Value} {m2 : Nat} (Gd : Gnd (KK w.params) base) (C : Site 62 A base outer s.heap) (hl : s.heap.get? l = some (lstO xs m)) (hr : ek.All s.heap xs.toList kl)
    (hl2 : s.heap.get? r = some (lstO ys m2)) (hr2 : ek.All s.heap ys.toList kb) (hz : kl.length ≤ 5000) (hz2 : kb.length ≤ 5000) (hw : kind = 0 ∨ kind = 1 ∨ kind = 2 ∨ kind = 3)
    (h : ∀ s' D xs' m', Chg s s' [] [(D, lstO xs' m')] → ek.All s'.heap xs'.toList (plain kind kl kb) → R (.ok (.ret (.ref D))) s') :
    codeAny (model prog w) A (.call (.ref 259) ⟨[.int kind tm, .ref l, .ref r], []⟩) R s := by
  have XK : (Mine.hd.heap_39 w.params).In base ∧ PySem.Challenge.rw_eu0034_01 = PySem.Challenge.rw_eu0034_01 := ⟨Gd.inK, rfl⟩
  revert XK
  k_fill
  intro _
  refine' enterCX (K := Mine.hd.heap_39 w.params) (d := 61) (binds := [("kind", .int kind tm), ("held", .ref l), ("row", .ref r)]) (fl := [("kind", .int kind tm)]) (cl := fun L => [("row", L + 2), ("held", L + 1)]) Gd C [] Own.nil ?ho ?hcd ?hbind ?hkind ?hnd ?hcl ?hfl ?h ?c1 ?c2 ?c3
  walk_at "enterC"
  intro g L s₁ cells Rm W I Y
  obtain ⟨co, co2, rfl, hco, hco2⟩ := cells_two Y
  have hco : co.data = .cell (some (.ref l)) := hco
  have hco2 : co2.data = .cell (some (.ref r)) := hco2
  have X := I.kin Gd
  have A3 := Rm.ok3 (by decide)
  have up : ∀ b o, s.heap.get? b = some o → g.get? b = some o := fun b o e => I.hid b o e (by simp)
  have hlg := up _ _ hl
  have hlg2 := up _ _ hl2
  have hrg := hr.mono I.tupg0
  have hrg2 := hr2.mono I.tupg0
  have sz1 : xs.size = kl.length := by rw [← Array.length_toList, EK.All.length hr]
  have sz2 : ys.size = kb.length := by rw [← Array.length_toList, EK.All.length hr2]
  have hzz : xs.size + ys.size ≤ sizeLine := by rw [sizeLine_eq]; omega
  refine wpAny_execs_cons (wpAny_If (wpAny_isTrue_Compare1 (nameX_L W.fr rfl (wpAny_Constant_int (PyProof.Rows.eq_int (wpAny_truthy_bool ?_))))))
  have W1 := W.toks (t := s₁.toks + 1)
  by_cases q0 : kind = 0
  · subst q0
    rw [if_pos (by decide)]
    refine wpAny_execs_cons (wpAny_Return_some (Call_ (kName Gd W1 I.below.stays (g_once _) ?_)))
    refine callWith_K X (keep249 _) (args_cons (wpAny_BinOp (nameX_C W1.nw rfl (.tail _ (.head _)) hco (nameX_C W1.nw rfl (.head _) hco2 ?_))))
    refine add_lst (W1.base hlg) (W1.base hlg2) hzz fun s₂ D F hD e => ?_
    have W2 := W1.fxNew F hD e
    refine args_nil ⟨W2.kin X, wpAny_call ?_⟩
    refine c_once (ek := ek) (kl := kl ++ kb) Gd (site_W I.below W2 Rm rfl rfl (by decide)) e ?_ fun s₃ r' xs' m' ch a => ?_
    · rw [Array.toList_append]
      exact All2.app (hrg.mono W2.tg) (hrg2.mono W2.tg)
    · have W3 := W2.chg (old := []) .nil ch
      exact h _ _ _ _ (Chg.of_wd W3 I.hid (.cons .head .nil)) (by rw [plain, if_pos rfl]; exact a)
  rw [if_neg (by simpa using q0)]
  refine wpAny_execs_nil ?_
  refine wpAny_execs_cons (wpAny_If (wpAny_isTrue_Compare1 (nameX_L W1.fr rfl (wpAny_Constant_int (PyProof.Rows.eq_int (wpAny_truthy_bool ?_))))))
  have W2 := W1.toks (t := s₁.toks + 1 + 1)
  have cond : ∀ {s₂ : Shared}, (∀ b ob, s.heap.get? b = some ob → s₂.heap.get? b = some ob) → s₂.heap.get? r = some (lstO ys m2) ∧ ek.All s₂.heap ys.toList kb ∧ s₂.heap.get? l = some (lstO xs m) ∧ ek.All s₂.heap xs.toList kl := fun k => ⟨k _ _ hl2, hr2.mono (.of k), k _ _ hl, hr.mono (.of k)⟩
  have ups : ∀ {s' : Shared} {fl : List (Str × Value)} {news : List (Addr × Obj)}, Wd s.gens s.os g L s' fl news → ∀ b ob, s.heap.get? b = some ob → s'.heap.get? b = some ob := fun W b ob e => W.keeps _ _ (up _ _ e)
  by_cases q1 : kind = 1
  · subst q1
    rw [if_pos (by decide)]
    refine wpAny_execs_cons (wpAny_Return_some ?_)
    refine comp_lst (ek := ek) (kl := kl) (cl := [("row", L + 2)]) (fun k => decide (k ∈ kb)) rfl (by decide) rfl (by decide) rfl (by decide) Rm.hand (W2.base hlg) (hrg.mono W2.tg) (by omega) (fun q => nameX_C W2.nw rfl (.tail _ (.head _)) hco q) ?_ ?_
    · intro C s₃ m₃ v k E' hns hm kp hisk
      refine wpAny_isTrue_Compare1 (wpAny_Name (wpAny_loadName_local rfl rfl hns hm ?_) rfl)
      refine wpAny_Name (wpAny_loadName_cell rfl rfl rfl ⟨co2, kp _ _ (W2.get (.head _)), hco2⟩ ?_) rfl
      obtain ⟨z1, z2, _, _⟩ := cond fun b ob e => kp b ob (ups W2 b ob e)
      exact inOp_lst (ek := ek) A3 z1 z2 hisk fun s₇ K7 => wpAny_truthy_bool ⟨rfl, K7⟩
    · intro s₄ D xs' m' F hD e a
      have W4 := W2.fxNew F hD e
      exact h _ _ _ _ (Chg.of_wd W4 I.hid (.cons .head .nil)) (by rw [plain, if_neg (by decide), if_pos rfl]; exact a)
  rw [if_neg (by simpa using q1)]
  refine wpAny_execs_nil ?_
  refine wpAny_execs_cons (wpAny_If (wpAny_isTrue_Compare1 (nameX_L W2.fr rfl (wpAny_Constant_int (PyProof.Rows.eq_int (wpAny_truthy_bool ?_))))))
  have W3 := W2.toks (t := s₁.toks + 1 + 1 + 1)
  by_cases q2 : kind = 2
  · subst q2
    rw [if_pos (by decide)]
    refine wpAny_execs_cons (wpAny_Return_some ?_)
    refine comp_lst (ek := ek) (kl := kl) (cl := [("row", L + 2)]) (fun k => !decide (k ∈ kb)) rfl (by decide) rfl (by decide) rfl (by decide) Rm.hand (W3.base hlg) (hrg.mono W3.tg) (by omega) (fun q => nameX_C W3.nw rfl (.tail _ (.head _)) hco q) ?_ ?_
    · intro C s₃ m₃ v k E' hns hm kp hisk
      refine wpAny_isTrue_Compare1 (wpAny_Name (wpAny_loadName_local rfl rfl hns hm ?_) rfl)
      refine wpAny_Name (wpAny_loadName_cell rfl rfl rfl ⟨co2, kp _ _ (W3.get (.head _)), hco2⟩ ?_) rfl
      obtain ⟨z1, z2, _, _⟩ := cond fun b ob e => kp b ob (ups W3 b ob e)
      exact notInOp_lst (ek := ek) A3 z1 z2 hisk fun s₇ K7 => wpAny_truthy_bool ⟨rfl, K7⟩
    · intro s₄ D xs' m' F hD e a
      have W4 := W3.fxNew F hD e
      exact h _ _ _ _ (Chg.of_wd W4 I.hid (.cons .head .nil)) (by rw [plain, if_neg (by decide), if_neg (by decide), if_pos rfl]; exact a)
  have q3 : kind = 3 := by omega
  subst q3
  rw [if_neg (by decide)]
  refine wpAny_execs_nil ?_
  refine wpAny_execs_cons (wpAny_Return_some (wpAny_BinOp ?_))
  refine comp_lst (ek := ek) (kl := kl) (cl := [("row", L + 2)]) (fun k => !decide (k ∈ kb)) rfl (by decide) rfl (by decide) rfl (by decide) Rm.hand (W3.base hlg) (hrg.mono W3.tg) (by omega) (fun q => nameX_C W3.nw rfl (.tail _ (.head _)) hco q) ?_ ?_
  · intro C s₃ m₃ v k E' hns hm kp hisk
    refine wpAny_isTrue_Compare1 (wpAny_Name (wpAny_loadName_local rfl rfl hns hm ?_) rfl)
    refine wpAny_Name (wpAny_loadName_cell rfl rfl rfl ⟨co2, kp _ _ (W3.get (.head _)), hco2⟩ ?_) rfl
    obtain ⟨z1, z2, _, _⟩ := cond fun b ob e => kp b ob (ups W3 b ob e)
    exact notInOp_lst (ek := ek) A3 z1 z2 hisk fun s₇ K7 => wpAny_truthy_bool ⟨rfl, K7⟩
  · intro s₄ D xs' m' F hD e a
    have W4 := W3.fxNew F hD e
    refine comp_lst (ek := ek) (kl := kb) (cl := [("held", L + 1)]) (fun k => !decide (k ∈ kl)) rfl (by decide) rfl (by decide) rfl (by decide) Rm.hand (W4.base hlg2) (hrg2.mono W4.tg) (by omega) (fun q => nameX_C W4.nw rfl (.tail _ (.head _)) hco2 q) ?_ ?_
    · intro C s₃ m₃ v k E' hns hm kp hisk
      refine wpAny_isTrue_Compare1 (wpAny_Name (wpAny_loadName_local rfl rfl hns hm ?_) rfl)
      refine wpAny_Name (wpAny_loadName_cell rfl rfl rfl ⟨co, kp _ _ (W4.get (.tail _ (.tail _ (.head _)))), hco⟩ ?_) rfl
      obtain ⟨_, _, z1, z2⟩ := cond fun b ob e => kp b ob (ups W4 b ob e)
      exact notInOp_lst (ek := ek) A3 z1 z2 hisk fun s₇ K7 => wpAny_truthy_bool ⟨rfl, K7⟩
    · intro s₅ D2 xs2 m2' F5 hD2 e2 a2
      have W5 := W4.fxNew F5 hD2 e2
      have s1' : xs'.size = (kl.filter fun k => !decide (k ∈ kb)).length := by rw [← Array.length_toList, EK.All.length a]
      have s2' : xs2.size = (kb.filter fun k => !decide (k ∈ kl)).length := by rw [← Array.length_toList, EK.All.length a2]
      have f1 := List.length_filter_le (fun k => !decide (k ∈ kb)) kl
      have f2 := List.length_filter_le (fun k => !decide (k ∈ kl)) kb
      refine add_lst (W5.get (a := D) (.tail _ (.head _))) e2 (by rw [sizeLine_eq]; omega) fun s₆ D6 F6 hD6 e6 => ?_
      have W6 := W5.fxNew F6 hD6 e6
      refine h _ _ _ _ (Chg.of_wd W6 I.hid (.cons .head .nil)) ?_
      rw [plain, if_neg (by decide), if_neg (by decide), if_neg (by decide), Array.toList_append]
      exact All2.app (EK.All.mono (nil_tup F6) (EK.All.mono (nil_tup F5) a)) (EK.All.mono (nil_tup F6) a2)
end
end
section
open PySem PySem.W PyProof.Rows PySem.Calls Builtin
set_option Elab.async false
set_option maxRecDepth 100000
set_option pp.deepTerms false
set_option pp.maxSteps 1500
set_option linter.unusedVariables false
section
variable {prog : Program} {w : World} {κ : Type} [DecidableEq κ] {ek : EK prog w κ} {th : SetTh ek}
  {A : Around} {E : Value → Shared → Prop} {s s' s₁ : Shared} {R : Result → Shared → Prop} {x : Addr} {ks kb kl km : List κ} {k : κ} {v v2 : Value} {w0 : List Addr} {name : Str} {id T : String}
  {G : Array GenState} {O : OsState} {g base : Heap} {outer : List Env} {L a r l : Addr} {fl : List (Str × Value)} {news old upd rest foot : List (Addr × Obj)} {ob ob' : Obj} {f : Obj → List (Addr × Obj)} {o o' : Tob} {xs : Array Value} {m : Nat}
theorem Fx.tupNs {c : Addr} {mm : Str → Option Value} (F : Fx s s' [c]) (hn : s.heap.Ns c mm) : TupKept s.heap s'.heap := fun b o eb _ n => by
  by_cases q : b = c
  · obtain ⟨oc, es, ep, e, ed, _⟩ := hn
    rw [q, e] at eb; cases eb
    obtain ⟨ys, j, z⟩ := n
    rw [ed] at z; cases z
  · exact F.keep b o eb (by simpa using q)
theorem comp_WN {env : Env} {elt iter : Expr} {xn : Str} {px pos : Pos} {scope : Scope} {cl : List (Str × Addr)} {Q : Value → Shared → Prop} {as : List Addr} (J : Nat → Shared → List (Addr × Obj) → Array Value → Prop)
    (hclos : closureFor scope env = pure cl) (hcell : ∀ y ∈ scope.names, y.2 ≠ .cell) (hkind : scope.kind = .function)
    (hnames : ∀ y ∈ scope.names, y.2 = .local → scope.names.lookup y.1 = some .local) (hx : scope.names.lookup xn = some .local)
    (hJ : ∀ i s s' nw ys, J i s nw ys → TupKept s.heap s'.heap → J i s' nw ys)
    (h : wpAny (model prog w) A (eval iter env) (fun xv s₁ => wpAny (model prog w) A (pyIter xv) (fun it s₂ => ∃ n I fp wr P St news, n ≤ 10000 ∧ it = .ref I ∧ Walks prog w A I fp wr n P St ∧ St 0 s₂.heap ∧ Wd G O g L s₂ fl news ∧ J 0 s₂ news #[] ∧
      (∀ b ∈ fp, b < s₂.heap.objs.size) ∧ (∀ b ∈ wr, g.get? b = none ∧ b ≠ L ∧ ∀ p ∈ news, p.1 ≠ b) ∧ (∀ i h, St i h → ∀ b ∈ wr, ∃ ob, h.get? b = some ob ∧ ob.cls ≠ .type "tuple") ∧ (∀ a ∈ as, a ∉ fp) ∧
      (∀ i D C v s₃ nw co ys m mm E', i < n → P i v → Wd G O g L s₃ fl ((C, co) :: (D, lstO ys m) :: nw) → s₃.heap.Ns C mm → mm xn = some v → J i s₃ nw ys → (∀ b ∈ wr, ∃ ob, s₃.heap.get? b = some ob) →
        wpAny (model prog w) A (eval elt (compEnvC scope cl C env)) (fun y s₄ => ∃ nw', Wd G O g L s₄ fl ((C, co) :: (D, lstO ys m) :: nw') ∧ Fx s₃ s₄ as ∧ (∀ p ∈ nw', p.1 ∈ nw.map (·.1) ∨ s₃.heap.get? p.1 = none) ∧ J (i + 1) s₄ nw' (ys.push y)) E' s₃) ∧
      (∀ s' D nw ys m, Wd G O g L s' fl ((D, lstO ys m) :: nw) → J n s' nw ys → Q (.ref D) s')) E s₁) E s)
    (hs : ∀ x, foldedSetIterable iter env x = pure x := by intro _; rfl) :
    wpAny (model prog w) A (eval (.ListComp elt [⟨.Name xn px, iter, [], 0⟩] scope pos) env) Q E s := by
  rw [eval_ListComp]
  refine wpAny_comprehension_free (use := none) rfl hs hclos hkind hnames (wpAny_mono h (fun xv s₁ h₁ => wpAny_mono h₁ (fun it s₂ h₂ => ?_) fun _ _ e => e) fun _ _ e => e)
  obtain ⟨n, I, fp, wr, P, St, news, hz, rfl, Wk, st, W, j0, hfp, hwr, hnt, has, turn, fin⟩ := h₂
  refine wpAny_newObj_type (wpAny_newFunctionEnv hcell (by intro y hy; simp at hy) (fun h₁ hns₁ hsb₁ => ?_) hkind)
  dsimp only at hns₁ hsb₁ ⊢
  have free : ∀ a, s₂.heap.objs.size ≤ a → s₂.heap.get? a = none := fun a ha => by
    cases q : s₂.heap.get? a with
    | none => rfl
    | some o => exact absurd (Heap.lt_size q) (Nat.not_lt.mpr ha)
  have W1 := W.push (lstO #[] 0) rfl (t := s₂.toks)
  have eD := Heap.get?_push_size (h := s₂.heap) (o := lstO #[] 0) rfl
  have gone := free _ (Nat.le_refl _)
  have hfD : s₂.heap.objs.size ∉ fp := fun hm => Nat.lt_irrefl _ (hfp _ hm)
  generalize hH2 : s₂.heap.push { cls := .type "list", dict := none, data := .seq ([] : List Value).toArray } = H2 at hns₁ hsb₁ ⊢
  have hC : H2.objs.size = s₂.heap.objs.size + 1 := by rw [← hH2, Heap.size_push]
  have lt2 : s₂.heap.objs.size < H2.objs.size := hC ▸ Nat.lt_succ_self _
  have hfC : H2.objs.size ∉ fp := fun hm => Nat.lt_irrefl _ (Nat.lt_trans (hfp _ hm) lt2)
  have W1 : Wd G O g L { s₂ with heap := H2 } fl ((s₂.heap.objs.size, lstO #[] 0) :: news) := by rw [← hH2]; exact W1
  have eD : H2.get? s₂.heap.objs.size = some (lstO #[] 0) := by rw [← hH2]; exact eD
  have k2 : ∀ b o, s₂.heap.get? b = some o → H2.get? b = some o := fun b o e => hH2 ▸ Heap.get?_push_of_some _ e
  clear hH2
  generalize s₂.heap.objs.size = D at *
  have goneC : H2.get? H2.objs.size = none := Heap.get?_none_of_le (Nat.le_refl _)
  obtain ⟨co, hco⟩ : ∃ co, h₁.get? H2.objs.size = some co := by obtain ⟨o, _, _, e, _⟩ := hns₁; exact ⟨o, e⟩
  have up : ∀ b o, H2.get? b = some o → h₁.get? b = some o := fun b o e => hsb₁.extBut b o (Nat.ne_of_lt (Heap.lt_size e)) (Heap.get?_push_of_some _ e)
  generalize hC0 : H2.objs.size = C at *
  have W2 : Wd G O g L { s₂ with heap := h₁, toks := s₂.toks + ([] : List (Str × Value)).length } fl ((C, co) :: (D, lstO #[] 0) :: news) :=
    W1.fxNew ⟨fun b o e _ => up b o e, rfl, rfl⟩ goneC hco
  have st₁ : St 0 h₁ := Wk.frame _ _ _ st fun b _ o e => up b o (k2 b o e)
  have hCD : C ≠ D := fun q => by rw [q] at goneC; rw [eD] at goneC; cases goneC
  have wrC : ∀ b ∈ wr, C ≠ b ∧ D ≠ b := fun b hb => ⟨fun q => hfC (q ▸ Wk.sub b hb), fun q => hfD (q ▸ Wk.sub b hb)⟩
  have lf : codeAny (model prog w) A (.compLoop (.ListComp elt [⟨.Name xn px, iter, [], 0⟩] scope pos) 0 (.ref I) (.ref D) (compEnvC scope cl C env))
      (compPost (model prog w) A E none Q (.ref D) C) { s₂ with heap := h₁, toks := s₂.toks + ([] : List (Str × Value)).length } := by
    refine codeAny_compLoop_list (fun j s' => ∃ i nw co ys m mm, i + j = n ∧ ys.size = i ∧ St i s'.heap ∧ Wd G O g L s' fl ((C, co) :: (D, lstO ys m) :: nw) ∧ s'.heap.Ns C mm ∧ J i s' nw ys ∧ ∀ b ∈ wr, ∀ p ∈ nw, p.1 ≠ b)
      (fun j s' => ?_) n ⟨0, news, co, #[], 0, _, by omega, rfl, st₁, W2, hns₁, hJ _ _ _ _ _ j0 (.of fun b o e => up b o (k2 b o e)), fun b hb => (hwr b hb).2.2⟩
    rintro ⟨i, nw, co, ys, m, mm, hij, hys, sti, Wi, hns, ji, apart⟩
    have off : ∀ b ∈ wr, g.get? b = none ∧ b ≠ L ∧ ∀ p ∈ ((C, co) :: (D, lstO ys m) :: nw), p.1 ≠ b := fun b hb => ⟨(hwr b hb).1, (hwr b hb).2.1, fun p hp => by
      rcases List.mem_cons.mp hp with rfl | hp
      · exact (wrC b hb).1
      · rcases List.mem_cons.mp hp with rfl | hp
        · exact (wrC b hb).2
        · exact apart b hb p hp⟩
    cases j with
    | zero =>
      have hn : i = n := by omega
      subst hn
      refine Wk.done s' _ _ sti fun h' tk hk => ?_
      have F : Fx s' { s' with heap := h', toks := tk } wr := ⟨fun b o e nb => hk b o nb e, rfl, rfl⟩
      have Wj := Wi.fxw F off
      have jj := hJ _ _ _ _ _ ji (F.tup fun b hb => hnt _ _ sti b hb)
      have nsj : h'.Ns C mm := hns.at' fun o e => hk _ _ (fun q => (wrC _ q).1 rfl) e
      refine ⟨mm, nsj, fun h'' hs'' => ?_⟩
      have Wk' := Wj.sub (news' := (D, lstO ys m) :: nw) (.cons _ (List.Sublist.refl _))
      have F2 : Fx { s' with heap := h', toks := tk } { s' with heap := h'', toks := tk } [C] := ⟨fun b o e nb => (hs''.2 b (by simpa using nb)).trans e, rfl, rfl⟩
      have cn := Wj.nw (C, co) (.head _)
      have cnd := (List.nodup_cons.mp Wj.nd).1
      refine fin _ D nw ys m (Wk'.fxw F2 fun b hb => ?_) (hJ _ _ _ _ _ jj (F2.tupNs nsj))
      rw [List.mem_singleton.mp hb]
      exact ⟨cn.2.2, cn.2.1, fun p hp q => cnd (List.mem_map.mpr ⟨p, hp, q⟩)⟩
    | succ j =>
      refine Wk.item i s' _ _ (by omega) sti fun v h' tk hp st' hk => ?_
      have F : Fx s' { s' with heap := h', toks := tk } wr := ⟨fun b o e nb => hk b o nb e, rfl, rfl⟩
      have Wj := Wi.fxw F off
      have jj := hJ _ _ _ _ _ ji (F.tup fun b hb => hnt _ _ sti b hb)
      have nsj : h'.Ns C mm := hns.at' fun o e => hk _ _ (fun q => (wrC _ q).1 rfl) e
      refine wpAny_assign_Name (wpAny_storeName_local (lookup_relabel_local hx) nsj (fun h2 hn2 hs2 => ?_) (by simp [compEnvC, relabel, hkind]))
      have F2 : Fx { s' with heap := h', toks := tk } { s' with heap := h2, toks := tk + 1 } [C] := ⟨fun b o e nb => (hs2.2 b (show b ≠ C by simpa using nb)).trans e, rfl, rfl⟩
      have hn2 : h2.Ns C (fun y => if y = xn then some v else mm y) := hn2
      obtain ⟨co2, hco2⟩ : ∃ co, h2.get? C = some co := by obtain ⟨o, _, _, e, _⟩ := hn2; exact ⟨o, e⟩
      have W3 := Wj.fx1 (a := C) .head F2 hco2
      have j3 := hJ _ _ _ _ _ jj (F2.tupNs nsj)
      have st3 : St (i + 1) h2 := Wk.frame _ _ _ st' fun b hb o e => F2.keep b o e fun m => hfC (List.mem_singleton.mp m ▸ hb)
      have livew : ∀ b ∈ wr, ∃ ob, h2.get? b = some ob := fun b hb => let ⟨ob, e, _⟩ := hnt _ _ st3 b hb; ⟨ob, e⟩
      refine wpAny_mono (turn i D C v _ nw co2 ys m _ _ (by omega) hp W3 hn2 (if_pos rfl) j3 livew) (fun y s₄ z => ?_) fun _ _ e => e
      obtain ⟨nw', W4, F4, ap, j4⟩ := z
      have st4 : St (i + 1) s₄.heap := Wk.frame _ _ _ st3 fun b hb o e => F4.keep b o e fun m => has b m hb
      refine append_fx (W4.get (a := D) (.tail _ (.head _))) (by rw [sizeLine_eq]; omega) fun s₅ F5 e5 => ?_
      have W5 := W4.fx1 (a := D) (.tail .head) F5 e5
      have T5 := F5.tup1 (W4.get (a := D) (.tail _ (.head _))) (nt_list _ _)
      have ns5 : s₅.heap.Ns C (fun y => if y = xn then some v else mm y) := by
        obtain ⟨o, es, ep, e, r⟩ := hn2
        rw [hco2] at e; cases e
        exact ⟨co2, es, ep, W5.get (.head _), r⟩
      refine ⟨j, by omega, i + 1, nw', co2, ys.push y, m + 1, _, by omega, by simp [hys], Wk.frame _ _ _ st4 fun b hb o e => F5.keep b o e fun m => hfD (List.mem_singleton.mp m ▸ hb), W5, ns5, hJ _ _ _ _ _ j4 T5, fun b hb p hp q => ?_⟩
      rcases ap p hp with z | z
      · obtain ⟨p2, hp2, e2⟩ := List.mem_map.mp z
        exact apart b hb p2 hp2 (e2.trans q)
      · obtain ⟨ob, e⟩ := livew b hb
        rw [q] at z
        rw [show h2.get? b = none from z] at e; cases e
  exact codeAny_compStart_list lf (Wk.self 0 _ _ _ st₁ lf)
theorem comp_W {env : Env} {elt iter : Expr} {xn : Str} {px pos : Pos} {scope : Scope} {cl : List (Str × Addr)} {Q : Value → Shared → Prop} {n : Nat} {as : List Addr} (J : Nat → Shared → List (Addr × Obj) → Array Value → Prop)
    (hclos : closureFor scope env = pure cl) (hcell : ∀ y ∈ scope.names, y.2 ≠ .cell) (hkind : scope.kind = .function)
    (hnames : ∀ y ∈ scope.names, y.2 = .local → scope.names.lookup y.1 = some .local) (hx : scope.names.lookup xn = some .local)
    (hz : n ≤ 10000) (hJ : ∀ i s s' nw ys, J i s nw ys → TupKept s.heap s'.heap → J i s' nw ys)
    (h : wpAny (model prog w) A (eval iter env) (fun xv s₁ => wpAny (model prog w) A (pyIter xv) (fun it s₂ => ∃ I fp wr P St news, it = .ref I ∧ Walks prog w A I fp wr n P St ∧ St 0 s₂.heap ∧ Wd G O g L s₂ fl news ∧ J 0 s₂ news #[] ∧
      (∀ b ∈ fp, b < s₂.heap.objs.size) ∧ (∀ b ∈ wr, g.get? b = none ∧ b ≠ L ∧ ∀ p ∈ news, p.1 ≠ b) ∧ (∀ i h, St i h → ∀ b ∈ wr, ∃ ob, h.get? b = some ob ∧ ob.cls ≠ .type "tuple") ∧ (∀ a ∈ as, a ∉ fp) ∧
      (∀ i D C v s₃ nw co ys m mm E', i < n → P i v → Wd G O g L s₃ fl ((C, co) :: (D, lstO ys m) :: nw) → s₃.heap.Ns C mm → mm xn = some v → J i s₃ nw ys → (∀ b ∈ wr, ∃ ob, s₃.heap.get? b = some ob) →
        wpAny (model prog w) A (eval elt (compEnvC scope cl C env)) (fun y s₄ => ∃ nw', Wd G O g L s₄ fl ((C, co) :: (D, lstO ys m) :: nw') ∧ Fx s₃ s₄ as ∧ (∀ p ∈ nw', p.1 ∈ nw.map (·.1) ∨ s₃.heap.get? p.1 = none) ∧ J (i + 1) s₄ nw' (ys.push y)) E' s₃) ∧
      (∀ s' D nw ys m, Wd G O g L s' fl ((D, lstO ys m) :: nw) → J n s' nw ys → Q (.ref D) s')) E s₁) E s)
    (hs : ∀ x, foldedSetIterable iter env x = pure x := by intro _; rfl) :
    wpAny (model prog w) A (eval (.ListComp elt [⟨.Name xn px, iter, [], 0⟩] scope pos) env) Q E s := by
  refine comp_WN (G := G) (O := O) (g := g) (L := L) (fl := fl) (cl := cl) (as := as) J hclos hcell hkind hnames hx hJ (wpAny_mono h (fun xv s₁ h₁ => wpAny_mono h₁ (fun it s₂ h₂ => ?_) fun _ _ e => e) fun _ _ e => e) hs
  obtain ⟨I, fp, wr, P, St, news, z⟩ := h₂
  exact ⟨n, I, fp, wr, P, St, news, hz, z⟩
end
end
section
open PySem PySem.W PyProof.Rows PySem.Calls Builtin
set_option Elab.async false
set_option maxRecDepth 100000
set_option pp.deepTerms false
set_option pp.maxSteps 1500
set_option linter.unusedVariables false
section
variable {prog : Program} {w : World} {κ : Type} [DecidableEq κ] {ek : EK prog w κ} {th : SetTh ek}
  {A : Around} {E : Value → Shared → Prop} {s s' s₁ : Shared} {R : Result → Shared → Prop} {x : Addr} {ks kb kl km : List κ} {k : κ} {v v2 : Value} {w0 : List Addr} {name : Str} {id T : String}
  {G : Array GenState} {O : OsState} {g base : Heap} {outer : List Env} {L a r l : Addr} {fl : List (Str × Value)} {news old upd rest foot : List (Addr × Obj)} {ob ob' : Obj} {f : Obj → List (Addr × Obj)} {o o' : Tob} {xs : Array Value} {m : Nat}
section
variable (P : Params)
theorem b_or : findIn (KK P) (.ref 225) (PySem.dunder "or") = some (some (.ref 149)) := by kernel_rfl
theorem b_and : findIn (KK P) (.ref 225) (PySem.dunder "and") = some (some (.ref 161)) := by kernel_rfl
theorem b_sub : findIn (KK P) (.ref 225) (PySem.dunder "sub") = some (some (.ref 185)) := by kernel_rfl
theorem b_xor : findIn (KK P) (.ref 225) (PySem.dunder "xor") = some (some (.ref 173)) := by kernel_rfl
theorem b_add : findIn (KK P) (.ref 225) (PySem.dunder "add") = some (some (.ref 114)) := by kernel_rfl
theorem i_or : findIn (KK P) (.ref 225) (dunderI "or") = some (some (.ref 135)) := by kernel_rfl
theorem i_and : findIn (KK P) (.ref 225) (dunderI "and") = some (some (.ref 197)) := by kernel_rfl
theorem i_sub : findIn (KK P) (.ref 225) (dunderI "sub") = some (some (.ref 221)) := by kernel_rfl
theorem i_xor : findIn (KK P) (.ref 225) (dunderI "xor") = some (some (.ref 209)) := by kernel_rfl
theorem fn_149 : isFn (KK P) (.ref 149) = true := by kernel_rfl
theorem fn_161 : isFn (KK P) (.ref 161) = true := by kernel_rfl
theorem fn_185 : isFn (KK P) (.ref 185) = true := by kernel_rfl
theorem fn_173 : isFn (KK P) (.ref 173) = true := by kernel_rfl
theorem fn_114 : isFn (KK P) (.ref 114) = true := by kernel_rfl
theorem fn_135 : isFn (KK P) (.ref 135) = true := by kernel_rfl
theorem fn_197 : isFn (KK P) (.ref 197) = true := by kernel_rfl
theorem fn_221 : isFn (KK P) (.ref 221) = true := by kernel_rfl
theorem fn_209 : isFn (KK P) (.ref 209) = true := by kernel_rfl
theorem first225 : selfFirst (KK P) 225 = true := by kernel_rfl
end
theorem binop_os {op : Operator} {f : Addr} {b : Addr} {bo : Tob} {Q : Value → Shared → Prop} (W : Wd G O g L s fl news) (X : (KK w.params).In g) (H : There s.heap x o) (Hb : There s.heap b bo)
    (hs : findIn (KK w.params) (.ref 225) (PySem.dunder op.info.2) = some (some (.ref f))) (hf : isFn (KK w.params) (.ref f) = true)
    (h : wpAny (model prog w) A (call (.ref f) [.ref x, .ref b]) (PySem.W.CmpBack Q) E s) : wpAny (model prog w) A (binaryOp op (.ref x) (.ref b)) Q E s :=
  binop_K W.fr X H.inst Hb.inst.type (first225 _) hs hf h
theorem inop_os {op : Operator} {f : Addr} {b : Addr} {Q : Value → Shared → Prop} (W : Wd G O g L s fl news) (X : (KK w.params).In g) (H : There s.heap x o)
    (hs : findIn (KK w.params) (.ref 225) (dunderI op.info.2) = some (some (.ref f))) (hf : isFn (KK w.params) (.ref f) = true)
    (h : wpAny (model prog w) A (call (.ref f) [.ref x, .ref b]) (PySem.W.CmpBack Q) E s) : wpAny (model prog w) A (inplaceOp op (.ref x) (.ref b)) Q E s :=
  ksp_inplace W.fr X H.inst (first225 _) hs hf h
theorem plus_tuple {b : Addr} {Q : Value → Shared → Prop} {ob : Obj} (X : (KK w.params).In s.heap) (H : There s.heap x o) (hb : s.heap.get? b = some ob) (hc : ob.cls = .type "tuple")
    (h : wpAny (model prog w) A (call (.ref 114) [.ref x, .ref b]) (PySem.W.CmpBack Q) E s) : wpAny (model prog w) A (binaryOp .Add (.ref x) (.ref b)) Q E s := by
  obtain ⟨cd, rest, hcd, hm⟩ := ksp_first (first225 w.params)
  have one := ksp_try X H.inst (b_add _) (fn_114 _) h
  have L1 : Looks (model prog w) s.heap (typeOf (.ref x)) (.ref 225) := H.inst.type
  have L2 : Looks (model prog w) s.heap (typeOf (.ref b)) (.type "tuple") := hc ▸ (Looks.ld hb).andThen .now
  have L3 : Looks (model prog w) s.heap (fillsNumberSlot (.ref 225) "add") true := fills_K X hcd hm (b_add _)
  have L4 : Looks (model prog w) s.heap (fillsNumberSlot (.type "tuple") "add") false := Looks.of_pure noFill_tuple_add
  unfold binaryOp
  refine wpAny_holding (wpAny_bind ?_)
  unfold binaryOp1
  refine wpAny_bind (L1.here (wpAny_bind (L2.here (wpAny_bind (L3.here ?_)))))
  simp only [show (Value.ref 225 == Value.type "tuple") = false from rfl, Bool.false_eq_true, if_false]
  refine wpAny_bind (L4.here ?_)
  simp only [Bool.and_false, Bool.false_and, Bool.false_eq_true, if_false, if_true]
  refine wpAny_bind (wpAny_pure ?_)
  ksp_lk
  refine wpAny_mono one (fun r s' hr' => ?_) fun _ _ e => e
  obtain ⟨v, rfl, hq⟩ := hr'
  ksp_lk
  exact hq
end
end
section
open PySem PySem.W PyProof.Rows PySem.Calls Builtin
set_option Elab.async false
set_option maxRecDepth 100000
set_option pp.deepTerms false
set_option pp.maxSteps 1500
set_option linter.unusedVariables false
section
variable {prog : Program} {w : World} {κ : Type} [DecidableEq κ] {ek : EK prog w κ} {th : SetTh ek}
  {A : Around} {E : Value → Shared → Prop} {s s' s₁ : Shared} {R : Result → Shared → Prop} {x : Addr} {ks kb kl km : List κ} {k : κ} {v v2 : Value} {w0 : List Addr} {name : Str} {id T : String}
  {G : Array GenState} {O : OsState} {g base : Heap} {outer : List Env} {L a r l : Addr} {fl : List (Str × Value)} {news old upd rest foot : List (Addr × Obj)} {ob ob' : Obj} {f : Obj → List (Addr × Obj)} {o o' : Tob} {xs : Array Value} {m : Nat}
theorem star_lst {D : Addr} {ys : Array Value} {m : Nat} {Q : List Value → Shared → Prop} (W : Wd G O g L s fl news) (hm : (D, lstO ys m) ∈ news) (hz : ys.size ≤ 1000)
    (h : ∀ s', Wd G O g L s' fl news → (∀ b o, s.heap.get? b = some o → s'.heap.get? b = some o) → Q ys.toList s') : StarOf (model prog w) A E (.ref D) Q s := by
  have D0 := W.get hm
  have hT : s.TypeIs (.ref D) "list" := ⟨_, D0, rfl⟩
  unfold StarOf notIterableAtAll
  refine wpAny_bind (wpAny_specialOf hT PySem.F.slot_list_iter.lookup (wpAny_pure ⟨rfl, ?_⟩))
  have z := wpAny_collect_seq (prog := prog) (w := w) (A := A) (E := E) (s := s) (Q := Q) D (.inl rfl) D0 rfl rfl (fun h' hk => h { s with heap := h' } (W.grow hk rfl rfl) hk) (by rw [sizeLine_eq]; omega)
  exact z
theorem callWith_MS2 {env : Env} {pos p : Pos} {q f : Addr} {self : Value} {first : List Value} {e0 e : Expr} {Q : Value → Shared → Prop} {K : Frag} (hf : fnIn K f = true)
    (h : wpAny (model prog w) A (spliced (backTo pos (starEach [e0, .Starred e p] env))) (fun vs s₂ => MethP K q f self s₂.heap ∧ wpAny (model prog w) A (call (.ref q) (first ++ vs)) Q E s₂) E s)
    (he : starEach [e0, .Starred e p] env = (false, eval e0 env) :: starEach [.Starred e p] env := by rfl) (hst : (backTo pos (starEach [.Starred e p] env)).any (·.1) = true := by rfl) :
    wpAny (model prog w) A (callWith pos (.ref q) first (backTo pos (starEach [e0, .Starred e p] env)) []) Q E s := by
  rw [he] at h ⊢
  exact ks_call (P := MethP K q f self) (by show (false || (backTo pos (starEach [.Starred e p] env)).any (·.1)) = true; rw [hst]; rfl) (keeps_M hf) (evalArgs_plain h)
inductive MoreIs (ek : EK prog w κ) (h : Heap) (lm : Addr) : Option (List κ) → Prop
  | no (m : Nat) : h.get? lm = some (lstO #[] m) → MoreIs ek h lm none
  | one (m : Nat) (l1 : Addr) (zs : Array Value) (m1 : Nat) (km : List κ) : h.get? lm = some (lstO #[.ref l1] m) → h.get? l1 = some (lstO zs m1) → ek.All h zs.toList km → km.length ≤ 1000 → MoreIs ek h lm (some km)
theorem MoreIs.up {h h' : Heap} {lm : Addr} {more : Option (List κ)} (x : MoreIs ek h lm more) (k : ∀ b o, h.get? b = some o → h'.get? b = some o) : MoreIs ek h' lm more := by
  cases x with
  | no m e => exact .no m (k _ _ e)
  | one m l1 zs m1 km e e1 a z => exact .one m l1 zs m1 km (k _ _ e) (k _ _ e1) (a.mono (.of k)) z
inductive MoreTo (ek : EK prog w κ) (h : Heap) : Option (List κ) → List Value → List (Addr × Obj) → Prop
  | no : MoreTo ek h none [] []
  | one (r : Addr) (zs : Array Value) (km : List κ) : ek.All h zs.toList km → MoreTo ek h (some km) [.ref r] [(r, lstO zs 0)]
abbrev oneScope : Scope := { kind := .function, names := [(".0", .local), ("one", .local)], isGenerator := false, isCoroutine := false }
theorem hwr1 {I : Addr} (hI : g.get? I = none ∧ I ≠ L ∧ ∀ p ∈ news, p.1 ≠ I) : ∀ b ∈ [I], g.get? b = none ∧ b ≠ L ∧ ∀ p ∈ news, p.1 ≠ b := fun b hb => by rw [List.mem_singleton.mp hb]; exact hI
theorem more_copy {qual : Str} {sc : Scope} {fa : Addr} {cdv : Value} {cl : List (Str × Addr)} {p1 p2 p3 px p4 pos : Pos} {lm : Addr} {more : Option (List κ)} {Q : Value → Shared → Prop} (W : Wd G O g L s fl news) (M : MoreIs ek g lm more) (hh : A.handled = none)
    (hcl : closureFor oneScope (envX qual sc L fa cdv cl) = pure [])
    (hn : ∀ {Q' : Value → Shared → Prop}, Q' (.ref lm) s → wpAny (model prog w) A (eval (.Name "more" p4) (envX qual sc L fa cdv cl)) Q' E s)
    (h : ∀ s' D m ys nw, Wd G O g L s' fl ((D, lstO ys m) :: (nw ++ news)) → ys.size ≤ 1 → TupKept s.heap s'.heap → MoreTo ek s'.heap more ys.toList nw → Q (.ref D) s')
    (hs : ∀ x, foldedSetIterable (.Name "more" p4) (envX qual sc L fa cdv cl) x = pure x := by intro _; rfl) :
    wpAny (model prog w) A (eval (.ListComp (.Subscript (.Name "one" p1) (.Slice none none none p2) p3) [⟨.Name "one" px, .Name "more" p4, [], 0⟩] oneScope pos) (envX qual sc L fa cdv cl)) Q E s := by
  obtain ⟨items, m0, hlm⟩ : ∃ items m0, g.get? lm = some (lstO items m0) := by cases M with
    | no m e => exact ⟨_, _, e⟩
    | one m l1 zs m1 km e _ _ _ => exact ⟨_, _, e⟩
  have hi : items.size ≤ 1 := by cases M with
    | no m e => rw [hlm] at e; cases e; simp
    | one m l1 zs m1 km e _ _ _ => rw [hlm] at e; cases e; simp
  refine comp_W (G := G) (O := O) (g := g) (L := L) (fl := fl) (cl := []) (n := items.size) (as := []) (fun i s' nw ys => TupKept s.heap s'.heap ∧ ((i = 0 ∧ nw = news ∧ ys = #[]) ∨ (i = 1 ∧ ∃ r zs km, ys = #[.ref r] ∧ nw = (r, lstO zs 0) :: news ∧ more = some km ∧ ek.All s'.heap zs.toList km)))
    hcl (by decide) rfl (by decide) rfl (by omega) ?_ (hn ?_) hs
  · rintro i s₁ s₂ nw ys ⟨t, z⟩ t2
    refine ⟨t.trans t2, z.imp id fun ⟨e, r, zs, km, e1, e2, e3, a⟩ => ⟨e, r, zs, km, e1, e2, e3, EK.All.mono t2 a⟩⟩
  have hl' := W.base hlm
  refine wpAny_pyIter_list ⟨_, hl', rfl, _, rfl⟩ ?_
  have F := Fx.pushed s { cls := .type "list_iterator", data := .fields #[.ref lm, .int 0 0] }
  have hne : lm ≠ s.heap.objs.size := Nat.ne_of_lt (Heap.lt_size hl')
  have fr := W.fresh (b := s.heap.objs.size) (Heap.get?_none_of_le (Nat.le_refl _))
  have hit : (s.heap.push { cls := .type "list_iterator", data := .fields #[.ref lm, .int 0 0] }).IsListIter s.heap.objs.size lm 0 := ⟨_, Heap.get?_push_size _ rfl, rfl, rfl⟩
  refine ⟨s.heap.objs.size, [s.heap.objs.size, lm], [s.heap.objs.size], _, _, news, rfl, Walks.list hh _ lm hne items, ⟨hit, ⟨_, F.keep _ _ hl' (by simp), rfl, _, rfl⟩⟩, W.fx0 F, ⟨.of fun b o e => F.keep b o e (by simp), .inl ⟨rfl, rfl, rfl⟩⟩, ?_, hwr1 fr, ?_, (fun a ha => by cases ha), ?_, ?_⟩
  · intro b hb
    show b < (s.heap.push _).objs.size
    rw [Heap.size_push]
    rcases List.mem_cons.mp hb with rfl | hb
    · exact Nat.lt_succ_self _
    · rw [List.mem_singleton.mp hb]; exact Nat.lt_succ_of_lt (Heap.lt_size hl')
  · intro i h st b hb
    rw [List.mem_singleton.mp hb]
    obtain ⟨o, e, c, _⟩ := st.1
    exact ⟨o, e, by rw [c]; decide⟩
  · rintro i D C v s₃ nw co ys m mm E' hlt hp W3 hns hm ⟨t3, z⟩ _
    rcases z with ⟨rfl, rfl, rfl⟩ | ⟨rfl, _⟩
    · cases M with
      | no m e => rw [hlm] at e; cases e; simp at hlt
      | one m l1 zs m1 km e e1 a hz =>
        rw [hlm] at e; cases e
        have hv : v = .ref l1 := by simpa using hp.symm
        subst hv
        refine slice_all (wpAny_Name (wpAny_loadName_local rfl rfl hns hm ?_) rfl)
        have sz : zs.size = km.length := by rw [← Array.length_toList, EK.All.length a]
        refine ⟨l1, zs, m1, rfl, W3.base e1, by rw [sizeLine_eq]; omega, fun s₄ r F4 hr e4 => ?_⟩
        have W4 := W3.fxNew F4 hr e4
        refine ⟨(r, lstO zs 0) :: nw, W4.perm ((List.Perm.cons _ (List.Perm.swap _ _ _)).trans (List.Perm.swap _ _ _)), F4, ?_, t3.trans (nil_tup F4), .inr ⟨rfl, r, zs, km, rfl, rfl, rfl, a.mono W4.tg⟩⟩
        intro p hp
        rcases List.mem_cons.mp hp with rfl | hp
        · exact .inr hr
        · exact .inl (List.mem_map_of_mem hp)
    · omega
  · rintro s' D nw ys m W' ⟨t, z⟩
    rcases z with ⟨e0, q, rfl⟩ | ⟨e1, r, zs, km, rfl, q, rfl, a⟩
    · cases M with
      | no m0 e => exact h s' D m #[] [] (show Wd G O g L s' fl ((D, lstO #[] m) :: ([] ++ news)) by rw [q] at W'; exact W') (by simp) t .no
      | one m l1 zs m1 km e _ _ _ => rw [hlm] at e; cases e; simp at e0
    · exact h s' D m #[.ref r] [(r, lstO zs 0)] (show Wd G O g L s' fl ((D, lstO #[.ref r] m) :: ([(r, lstO zs 0)] ++ news)) by rw [q] at W'; exact W') (by simp) t (.one r zs km a)
theorem call_more {qual : Str} {sc : Scope} {fa : Addr} {cdv : Value} {cl : List (Str × Addr)} {p1 p2 p3 px p4 pos p5 p6 apos ap lpos : Pos} {tn on : Str} {f : Addr} {lm : Addr} {more : Option (List κ)} {Q : Value → Shared → Prop} (W : Wd G O g L s fl news) (X : (KK w.params).In g) (M : MoreIs ek g lm more) (hh : A.handled = none)
    (I : InstAt s.heap x o.obj 225 (some dictO0))
    (hf : findObj (KK w.params) 225 (some dictO0) name = some (.bind (.builtin "function.__get__") (.ref f))) (ht : typeIn (KK w.params) (.ref f) = some (.type "function")) (hfn : fnIn (KK w.params) f = true)
    (hcl : closureFor oneScope (envX qual sc L fa cdv cl) = pure [])
    (hnt : ∀ {Q' : Value → Shared → Prop}, Q' (.ref x) s → wpAny (model prog w) A (eval (.Name tn p5) (envX qual sc L fa cdv cl)) Q' E s)
    (hno : ∀ {s' : Shared} {news' : List (Addr × Obj)} {Q' : Value → Shared → Prop}, Wd G O g L s' fl news' → Q' v s' → wpAny (model prog w) A (eval (.Name on p6) (envX qual sc L fa cdv cl)) Q' E s')
    (hnm : ∀ {s' : Shared} {news' : List (Addr × Obj)} {Q' : Value → Shared → Prop}, Wd G O g L s' fl news' → Q' (.ref lm) s' → wpAny (model prog w) A (eval (.Name "more" p4) (envX qual sc L fa cdv cl)) Q' E s')
    (h : ∀ s' R ws nw ex, Wd G O g L s' fl (nw ++ (ex ++ news)) → TupKept s.heap s'.heap → MoreTo ek s'.heap more ws nw → (∀ u s'', Q u s'' → R (.ok (.ret u)) s'') → codeAny (model prog w) A (.call (.ref f) ⟨.ref x :: v :: ws, []⟩) R s')
    (hs : ∀ x, foldedSetIterable (.Name "more" p4) (envX qual sc L fa cdv cl) x = pure x := by intro _; rfl) :
    wpAny (model prog w) A (eval (.Call (.Attribute (.Name tn p5) name apos) [.Name on p6, .Starred (.ListComp (.Subscript (.Name "one" p1) (.Slice none none none p2) p3) [⟨.Name "one" px, .Name "more" p4, [], 0⟩] oneScope lpos) ap] [] pos) (envX qual sc L fa cdv cl)) Q E s := by
  refine methodCall_star2 (hnt ?_)
  refine get_methodS (o := o) (W.kin X) I hf ht fun s₂ q F2 hq eq => ?_
  have W2 := W.fxNew F2 hq eq
  refine callWith_MS2 (K := KK w.params) (f := f) (self := .ref x) (first := []) hfn (args_cons (hno W2 (items_star ?_)))
  refine more_copy W2 M hh hcl (fun q => hnm W2 q) (fun s₃ D m ys nw W3 hy t3 mt => ?_) hs
  refine star_lst W3 (.head _) (by omega) fun s₄ W4 k4 => args_nil ?_
  refine ⟨⟨W4.get (.tail _ (List.mem_append_right _ (.head _))), W4.kin X⟩, ?_⟩
  refine wpAny_call (method_call (W4.get (.tail _ (List.mem_append_right _ (.head _)))) ?_)
  rw [List.append_nil]
  refine h s₄ _ ys.toList nw [(D, lstO ys m), (q, methodObj (.ref f) (.ref x))] (W4.perm ?_) ((nil_tup F2).trans (t3.trans (.of k4))) ?_ fun u s'' z => z
  · simp only [List.cons_append, List.nil_append]
    exact (List.perm_middle (a := (D, lstO ys m)) (l₁ := nw) (l₂ := (q, methodObj (.ref f) (.ref x)) :: news))
  · generalize ys.toList = ws at mt
    cases mt with
    | no => exact .no
    | one r zs km a => exact .one r zs km (a.mono (.of k4))
end
end
section
open PySem PySem.W PyProof.Rows PySem.Calls Builtin
set_option Elab.async false
set_option maxRecDepth 100000
set_option pp.deepTerms false
set_option pp.maxSteps 1500
set_option linter.unusedVariables false
section
variable {prog : Program} {w : World} {κ : Type} [DecidableEq κ] {ek : EK prog w κ} {th : SetTh ek}
  {A : Around} {E : Value → Shared → Prop} {s s' s₁ : Shared} {R : Result → Shared → Prop} {x : Addr} {ks kb kl km : List κ} {k : κ} {v v2 : Value} {w0 : List Addr} {name : Str} {id T : String}
  {G : Array GenState} {O : OsState} {g base : Heap} {outer : List Env} {L a r l : Addr} {fl : List (Str × Value)} {news old upd rest foot : List (Addr × Obj)} {ob ob' : Obj} {f : Obj → List (Addr × Obj)} {o o' : Tob} {xs : Array Value} {m : Nat}
def doneK (kind : Int) (ks kl : List κ) : Option (List κ) → List κ
  | none => plain kind ks kl
  | some km => plain kind (plain kind ks kl) km
theorem plain0 {ks kl : List κ} (nd : ks.Nodup) : plain 0 ks kl = kl.foldl addK ks := by
  rw [plain, if_pos rfl, List.foldl_append, addAll_nodup nd]
theorem plain1 {ks kl : List κ} : plain 1 ks kl = ks.filter fun k => decide (k ∈ kl) := by rw [plain, if_neg (by decide), if_pos rfl]
theorem plain2 {ks kl : List κ} : plain 2 ks kl = ks.filter fun k => !decide (k ∈ kl) := by rw [plain, if_neg (by decide), if_neg (by decide), if_pos rfl]
theorem plain3 {ks kl : List κ} : plain 3 ks kl = ks.filter (fun k => !decide (k ∈ kl)) ++ kl.filter (fun k => !decide (k ∈ ks)) := by rw [plain, if_neg (by decide), if_neg (by decide), if_neg (by decide)]
theorem done0 {ks kl : List κ} (more : Option (List κ)) (nd : ks.Nodup) : addMany ks (kl :: more.toList) = doneK 0 ks kl more := by
  cases more with
  | none => exact (plain0 nd).symm
  | some km => rw [doneK, plain0 nd, plain0 (nodup_addAll nd)]; rfl
theorem done1 {ks kl : List κ} (more : Option (List κ)) : (ks.filter fun k => decide (∀ l ∈ kl :: more.toList, k ∈ l)) = doneK 1 ks kl more := by
  cases more with
  | none => rw [doneK, plain1]; exact List.filter_congr fun k _ => by simp
  | some km => rw [doneK, plain1, plain1, List.filter_filter]; exact List.filter_congr fun k _ => by simp [Bool.and_comm]
theorem done2 {ks kl : List κ} (more : Option (List κ)) : (ks.filter fun k => decide (∀ l ∈ kl :: more.toList, k ∉ l)) = doneK 2 ks kl more := by
  cases more with
  | none => rw [doneK, plain2]; exact List.filter_congr fun k _ => by simp
  | some km => rw [doneK, plain2, plain2, List.filter_filter]; exact List.filter_congr fun k _ => by simp [Bool.and_comm]
theorem done3 {ks kl : List κ} : ((ks.filter fun k => decide (k ∉ kl)) ++ kl.filter fun k => decide (k ∉ ks)) = doneK 3 ks kl none := by
  rw [doneK, plain3]
  congr 1 <;> exact List.filter_congr fun k _ => by simp
theorem done3' {ks kl : List κ} (n1 : ks.Nodup) (n2 : kl.Nodup) : ((kl.filter fun k => decide (k ∉ ks)).foldl addK (ks.filter fun k => decide (k ∉ kl))) = doneK 3 ks kl none := by
  rw [← done3, addAll_app]
  refine List.nodup_append.mpr ⟨n1.filter _, n2.filter _, fun a ha b hb e => ?_⟩
  subst e
  have h1 := (List.mem_filter.mp ha).1
  have h2 := (List.mem_filter.mp hb).2
  simp [h1] at h2
theorem HandIs.is3 {h : Heap} {way : Int} {hu : List (Addr × Obj)} (H : HandIs th h v kl way hu) (e : way = 3) : ∃ b bo, v = .ref b ∧ OS th h bo kl ∧ hu = bo.ents b := by
  cases H with
  | oset b bo e' O => exact ⟨b, bo, e', O, rfl⟩
  | _ => cases e
theorem HandIs.is1 {h : Heap} {way : Int} {hu : List (Addr × Obj)} (H : HandIs th h v kl way hu) (e : way = 1) : ∃ r xs m, v = .ref r ∧ ek.All h xs.toList kl ∧ hu = [(r, { cls := .type "tuple", data := .seq xs m })] := by
  cases H with
  | tuple r xs m e' a => exact ⟨r, xs, m, e', a, rfl⟩
  | _ => cases e
theorem MoreTo.ops {h : Heap} {more : Option (List κ)} {ws : List Value} {nw : List (Addr × Obj)} {foot : List Addr} (M : MoreTo ek h more ws nw) (hu : ∀ p ∈ nw, h.get? p.1 = some p.2) (hf : ∀ p ∈ nw, p.1 ∉ foot) : Ops th h foot ws more.toList := by
  cases M with
  | no => exact .nil
  | one r zs km a => exact .cons ⟨[r], .list r zs 0 rfl (hu _ (.head _)) a, fun b hb => by rw [List.mem_singleton.mp hb]; exact hf _ (.head _)⟩ .nil
theorem MoreTo.two {h : Heap} {more : Option (List κ)} {ws : List Value} {nw : List (Addr × Obj)} (M : MoreTo ek h more ws nw) : (∃ u, v :: ws = [u]) ∨ ∃ u u2, v :: ws = [u, u2] := by
  cases M with
  | no => exact .inl ⟨_, rfl⟩
  | one r zs km a => exact .inr ⟨_, _, rfl⟩
section
variable (P : Params)
theorem fo_union : findObj (KK P) 225 (some dictO0) "union" = some (.bind (.builtin "function.__get__") (.ref 142)) := by kernel_rfl
theorem fo_inter : findObj (KK P) 225 (some dictO0) "intersection" = some (.bind (.builtin "function.__get__") (.ref 154)) := by kernel_rfl
theorem fo_diff : findObj (KK P) 225 (some dictO0) "difference" = some (.bind (.builtin "function.__get__") (.ref 178)) := by kernel_rfl
theorem fo_iu : findObj (KK P) 225 (some dictO0) "intersection_update" = some (.bind (.builtin "function.__get__") (.ref 190)) := by kernel_rfl
theorem fo_du : findObj (KK P) 225 (some dictO0) "difference_update" = some (.bind (.builtin "function.__get__") (.ref 214)) := by kernel_rfl
theorem fni_142 : fnIn (KK P) 142 = true := by kernel_rfl
theorem fni_154 : fnIn (KK P) 154 = true := by kernel_rfl
theorem fni_178 : fnIn (KK P) 178 = true := by kernel_rfl
theorem fni_190 : fnIn (KK P) 190 = true := by kernel_rfl
theorem fni_214 : fnIn (KK P) 214 = true := by kernel_rfl
theorem ty_142 : typeIn (KK P) (.ref 142) = some (.type "function") := by kernel_rfl
theorem ty_154 : typeIn (KK P) (.ref 154) = some (.type "function") := by kernel_rfl
theorem ty_178 : typeIn (KK P) (.ref 178) = some (.type "function") := by kernel_rfl
theorem ty_190 : typeIn (KK P) (.ref 190) = some (.type "function") := by kernel_rfl
theorem ty_214 : typeIn (KK P) (.ref 214) = some (.type "function") := by kernel_rfl
theorem m_symdiff : findIn (KK P) (.ref 225) "symmetric_difference" = some (some (.ref 166)) := by kernel_rfl
theorem mt_symdiff : typeIn (KK P) (.ref 166) = some (.type "function") := by kernel_rfl
end
set_option maxHeartbeats 8000000 in
theorem c_made {kind way : Int} {t1 t2 : Tok} {lm : Addr} {more : Option (List κ)} {hu : List (Addr × Obj)} (Gd : Gnd (KK w.params) base) (C : Site 72 A base outer s.heap) (H : There s.heap x o) (hO : OS th s.heap o ks)
    (hd : HandIs th s.heap v kl way hu) (hup : ∀ p ∈ hu, s.heap.get? p.1 = some p.2) (M : MoreIs ek s.heap lm more) (nd : kl.Nodup) (hz : kl.length ≤ 10000)
    (hk : kind = 0 ∨ kind = 1 ∨ kind = 2 ∨ kind = 3) (hw : way = 0 ∨ way = 1 ∨ way = 2 ∨ way = 3) (hm : more = none ∨ (kind ≠ 3 ∧ way ≠ 3 ∧ way ≠ 1))
    (h : ∀ s' x' o', Chg s s' [] (o'.ents x') → OS th s'.heap o' (doneK kind ks kl more) → R (.ok (.ret (.ref x'))) s') :
    codeAny (model prog w) A (.call (.ref 264) ⟨[.int kind t1, .int way t2, .ref x, v, .ref lm], []⟩) R s := by
  have XK : (Mine.hd.heap_39 w.params).In base ∧ PySem.Challenge.rw_eu0034_01 = PySem.Challenge.rw_eu0034_01 := ⟨Gd.inK, rfl⟩
  revert XK
  k_fill
  intro _
  refine' enter (K := Mine.hd.heap_39 w.params) (d := 71) (binds := [("kind", .int kind t1), ("way", .int way t2), ("told", .ref x), ("other", v), ("more", .ref lm)]) Gd C [] Own.nil ?ho ?hcd ?hbind ?hloc ?h ?hcell ?c1 ?c2 ?c3
  walk_at "enter"
  intro g L s₁ Rm W I
  have X := I.kin Gd
  have A3 := Rm.ok3 (by decide)
  have hh := Rm.hand
  have up : ∀ b o, s.heap.get? b = some o → g.get? b = some o := fun b o e => I.hid b o e (by simp)
  have Hg : There g x o := H.up up
  have Og := hO.mono (TupKept.of up)
  have hupg : ∀ p ∈ hu, g.get? p.1 = some p.2 := fun p hp => up _ _ (hup p hp)
  have hdg := hd.mono hupg (.of up)
  have og : OpK th g v kl (hu.map (·.1)) := hdg.op hupg
  have Mg := M.up up
  have ndk : ks.Nodup := hO.set.nodup
  have ops : ∀ {s' : Shared} {fl : List (Str × Value)} {news : List (Addr × Obj)}, Wd s.gens s.os g L s' fl news → ∃ as, OpK th s'.heap v kl as ∧ ∀ a ∈ as, a ∉ ([] : List Addr) := fun W => ⟨_, og.now W, fun _ _ m => by cases m⟩
  have fin : ∀ {s' : Shared} {x' : Addr} {o' : Tob} {fl : List (Str × Value)} {nw rest : List (Addr × Obj)}, Wd s.gens s.os g L s' fl (o'.ents x' ++ rest) → OS th s'.heap o' (doneK kind ks kl more) → R (.ok (.ret (.ref x'))) s' := fun W O =>
    h _ _ _ (Chg.of_wd W I.hid (.cons .head (.cons .head (.cons .head .nil)))) O
  refine wpAny_execs_cons (wpAny_If (wpAny_isTrue_Compare1 (nameX_L W.fr rfl (wpAny_Constant_int (PyProof.Rows.eq_int (wpAny_truthy_bool ?_))))))
  have W := W.toks (t := s₁.toks + 1)
  by_cases q0 : kind = 0
  · subst q0
    rw [if_pos (by decide)]
    refine wpAny_execs_cons (wpAny_Return_some (wpAny_IfExp (wpAny_isTrue_Compare1 (nameX_L W.fr rfl (wpAny_Constant_int (PyProof.Rows.eq_int (wpAny_truthy_bool ?_)))))))
    have W := W.toks (t := s₁.toks + 1 + 1)
    by_cases w3 : way = 3
    · rw [if_pos (by simpa using w3)]
      obtain ⟨b, bo, rfl, Ob, rfl⟩ := hdg.is3 w3
      obtain rfl : more = none := hm.resolve_right fun z => z.2.1 w3
      refine wpAny_BinOp (nameX_L W.fr rfl (nameX_L W.fr rfl ?_))
      refine binop_os W X (Hg.now W) (There.now hupg W) (b_or _) (fn_149 _) (wpAny_call ?_)
      refine c_or (th := th) (kl := kl) Gd (site_W I.below W Rm rfl rfl (by decide)) (Hg.now W) (Og.mono W.tg) (.cons (ops W) .nil) fun s₂ x' o' c O' => ?_
      have W2 := W.chg (old := []) .nil c
      exact fin (nw := []) W2 (by rw [← done0 none ndk]; exact O')
    rw [if_neg (by simpa using w3)]
    refine wpAny_IfExp (wpAny_isTrue_Compare1 (nameX_L W.fr rfl (wpAny_Constant_int (PyProof.Rows.eq_int (wpAny_truthy_bool ?_)))))
    have W := W.toks (t := s₁.toks + 1 + 1 + 1)
    by_cases w1 : way = 1
    · rw [if_pos (by simpa using w1)]
      obtain ⟨r, xs, m, rfl, a, rfl⟩ := hdg.is1 w1
      obtain rfl : more = none := hm.resolve_right fun z => z.2.2 w1
      refine wpAny_BinOp (nameX_L W.fr rfl (nameX_L W.fr rfl ?_))
      refine plus_tuple (W.kin X) (Hg.now W) (W.base (hupg _ (.head _))) rfl (wpAny_call ?_)
      refine c_plus (th := th) (kl := kl) Gd (site_W I.below W Rm rfl rfl (by decide)) (Hg.now W) (Og.mono W.tg) (.cons (ops W) .nil) fun s₂ x' o' c O' => ?_
      have W2 := W.chg (old := []) .nil c
      exact fin (nw := []) W2 (by rw [← done0 none ndk]; exact O')
    rw [if_neg (by simpa using w1)]
    refine call_more (o := o) (f := 142) W X Mg hh (Hg.now W).inst (fo_union _) (ty_142 _) (fni_142 _) rfl (fun q => nameX_L W.fr rfl q) (fun W q => nameX_L W.fr rfl q) (fun W q => nameX_L W.fr rfl q) fun s₂ R' ws nw ex W2 t2 mt hR => ?_
    refine c_union (th := th) (vs := v :: ws) (kls := kl :: more.toList) Gd (site_W I.below W2 Rm rfl rfl (by decide)) (Hg.now W2) (Og.mono W2.tg) (.cons (ops W2) (mt.ops (fun p hp => W2.get (List.mem_append_left _ hp)) fun p hp m => by cases m)) mt.two fun s₃ x' o' c O' => ?_
    have W3 := W2.chg (old := []) .nil c
    exact hR _ _ (fin (nw := []) W3 (by rw [← done0 more ndk]; exact O'))
  rw [if_neg (by simpa using q0)]
  refine wpAny_execs_nil ?_
  refine wpAny_execs_cons (wpAny_If (wpAny_isTrue_Compare1 (nameX_L W.fr rfl (wpAny_Constant_int (PyProof.Rows.eq_int (wpAny_truthy_bool ?_))))))
  have W := W.toks (t := s₁.toks + 1 + 1)
  by_cases q1 : kind = 1
  · subst q1
    rw [if_pos (by decide)]
    refine wpAny_execs_cons (wpAny_Return_some (wpAny_IfExp (wpAny_isTrue_Compare1 (nameX_L W.fr rfl (wpAny_Constant_int (PyProof.Rows.eq_int (wpAny_truthy_bool ?_)))))))
    have W := W.toks (t := s₁.toks + 1 + 1 + 1)
    by_cases w3 : way = 3
    · rw [if_pos (by simpa using w3)]
      obtain ⟨b, bo, rfl, Ob, rfl⟩ := hdg.is3 w3
      obtain rfl : more = none := hm.resolve_right fun z => z.2.1 w3
      refine wpAny_BinOp (nameX_L W.fr rfl (nameX_L W.fr rfl ?_))
      refine binop_os W X (Hg.now W) (There.now hupg W) (b_and _) (fn_161 _) (wpAny_call ?_)
      refine c_and (th := th) (kl := kl) Gd (site_W I.below W Rm rfl rfl (by decide)) (Hg.now W) (Og.mono W.tg) (.cons (ops W) .nil) fun s₂ x' o' c O' => ?_
      have W2 := W.chg (old := []) .nil c
      exact fin (nw := []) W2 (by rw [← done1 none]; exact O')
    rw [if_neg (by simpa using w3)]
    refine call_more (o := o) (f := 154) W X Mg hh (Hg.now W).inst (fo_inter _) (ty_154 _) (fni_154 _) rfl (fun q => nameX_L W.fr rfl q) (fun W q => nameX_L W.fr rfl q) (fun W q => nameX_L W.fr rfl q) fun s₂ R' ws nw ex W2 t2 mt hR => ?_
    refine c_inter (th := th) (vs := v :: ws) (kls := kl :: more.toList) Gd (site_W I.below W2 Rm rfl rfl (by decide)) (Hg.now W2) (Og.mono W2.tg) (.cons (ops W2) (mt.ops (fun p hp => W2.get (List.mem_append_left _ hp)) fun p hp m => by cases m)) mt.two fun s₃ x' o' c O' => ?_
    have W3 := W2.chg (old := []) .nil c
    exact hR _ _ (fin (nw := []) W3 (by rw [← done1 more]; exact O'))
  rw [if_neg (by simpa using q1)]
  refine wpAny_execs_nil ?_
  refine wpAny_execs_cons (wpAny_If (wpAny_isTrue_Compare1 (nameX_L W.fr rfl (wpAny_Constant_int (PyProof.Rows.eq_int (wpAny_truthy_bool ?_))))))
  have W := W.toks (t := s₁.toks + 1 + 1 + 1)
  by_cases q2 : kind = 2
  · subst q2
    rw [if_pos (by decide)]
    refine wpAny_execs_cons (wpAny_Return_some (wpAny_IfExp (wpAny_isTrue_Compare1 (nameX_L W.fr rfl (wpAny_Constant_int (PyProof.Rows.eq_int (wpAny_truthy_bool ?_)))))))
    have W := W.toks (t := s₁.toks + 1 + 1 + 1 + 1)
    by_cases w3 : way = 3
    · rw [if_pos (by simpa using w3)]
      obtain ⟨b, bo, rfl, Ob, rfl⟩ := hdg.is3 w3
      obtain rfl : more = none := hm.resolve_right fun z => z.2.1 w3
      refine wpAny_BinOp (nameX_L W.fr rfl (nameX_L W.fr rfl ?_))
      refine binop_os W X (Hg.now W) (There.now hupg W) (b_sub _) (fn_185 _) (wpAny_call ?_)
      refine c_sub (th := th) (kl := kl) Gd (site_W I.below W Rm rfl rfl (by decide)) (Hg.now W) (Og.mono W.tg) (.cons (ops W) .nil) fun s₂ x' o' c O' => ?_
      have W2 := W.chg (old := []) .nil c
      exact fin (nw := []) W2 (by rw [← done2 none]; exact O')
    rw [if_neg (by simpa using w3)]
    refine call_more (o := o) (f := 178) W X Mg hh (Hg.now W).inst (fo_diff _) (ty_178 _) (fni_178 _) rfl (fun q => nameX_L W.fr rfl q) (fun W q => nameX_L W.fr rfl q) (fun W q => nameX_L W.fr rfl q) fun s₂ R' ws nw ex W2 t2 mt hR => ?_
    refine c_diff (th := th) (vs := v :: ws) (kls := kl :: more.toList) Gd (site_W I.below W2 Rm rfl rfl (by decide)) (Hg.now W2) (Og.mono W2.tg) (.cons (ops W2) (mt.ops (fun p hp => W2.get (List.mem_append_left _ hp)) fun p hp m => by cases m)) mt.two fun s₃ x' o' c O' => ?_
    have W3 := W2.chg (old := []) .nil c
    exact hR _ _ (fin (nw := []) W3 (by rw [← done2 more]; exact O'))
  obtain rfl : kind = 3 := by omega
  obtain rfl : more = none := hm.resolve_right fun z => z.1 rfl
  rw [if_neg (by decide)]
  refine wpAny_execs_nil ?_
  refine wpAny_execs_cons (wpAny_Return_some (wpAny_IfExp (wpAny_isTrue_Compare1 (nameX_L W.fr rfl (wpAny_Constant_int (PyProof.Rows.eq_int (wpAny_truthy_bool ?_)))))))
  have W := W.toks (t := s₁.toks + 1 + 1 + 1 + 1)
  by_cases w3 : way = 3
  · rw [if_pos (by simpa using w3)]
    obtain ⟨b, bo, rfl, Ob, rfl⟩ := hdg.is3 w3
    refine wpAny_BinOp (nameX_L W.fr rfl (nameX_L W.fr rfl ?_))
    refine binop_os W X (Hg.now W) (There.now hupg W) (b_xor _) (fn_173 _) (wpAny_call ?_)
    refine c_xor (th := th) (kl := kl) Gd (site_W I.below W Rm rfl rfl (by decide)) (Hg.now W) (Og.mono W.tg) (og.now W) hz fun s₂ x' o' c O' => ?_
    have W2 := W.chg (old := []) .nil c
    exact fin (nw := []) W2 (by rw [← done3' ndk nd]; exact O')
  rw [if_neg (by simpa using w3)]
  refine methodCall_KW (nameX_L W.fr rfl ?_)
  refine method_S (W.kin X) (Hg.now W).inst (m_symdiff _) (mt_symdiff _) ?_
  refine callWith_K X (keep166 _) (args_cons (nameX_L W.fr rfl (args_nil ⟨W.kin X, wpAny_call ?_⟩)))
  refine c_symdiff (th := th) (kl := kl) Gd (site_W I.below W Rm rfl rfl (by decide)) (Hg.now W) (Og.mono W.tg) (og.now W) hz fun s₂ x' o' c O' => ?_
  have W2 := W.chg (old := []) .nil c
  exact fin (nw := []) W2 (by rw [← done3' ndk nd]; exact O')
end
end
section
open PySem PySem.W PyProof.Rows PySem.Calls Builtin
set_option Elab.async false
set_option maxRecDepth 100000
set_option pp.deepTerms false
set_option pp.maxSteps 1500
set_option linter.unusedVariables false
section
variable {prog : Program} {w : World} {κ : Type} [DecidableEq κ] {ek : EK prog w κ} {th : SetTh ek}
  {A : Around} {E : Value → Shared → Prop} {s s' s₁ : Shared} {R : Result → Shared → Prop} {x : Addr} {ks kb kl km : List κ} {k : κ} {v v2 : Value} {w0 : List Addr} {name : Str} {id T : String}
  {G : Array GenState} {O : OsState} {g base : Heap} {outer : List Env} {L a r l : Addr} {fl : List (Str × Value)} {news old upd rest foot : List (Addr × Obj)} {ob ob' : Obj} {f : Obj → List (Addr × Obj)} {o o' : Tob} {xs : Array Value} {m : Nat}
theorem Pick.mid {p : Addr × Obj} {u : List (Addr × Obj)} : ∀ pre : List (Addr × Obj), Pick p (pre ++ p :: u) (pre ++ u)
  | [] => .head
  | q :: pre => .tail (Pick.mid pre)
theorem Ext.back : ∀ {u pre : List (Addr × Obj)}, Ext u (pre ++ u) pre
  | [], pre => by rw [List.append_nil]; exact .nil
  | p :: u, pre => .cons (Pick.mid pre) Ext.back
theorem Ops.fx1 {vs : List Value} {kls : List (List κ)} (H : Ops th s.heap [x] vs kls) {ob : Obj} (F : Fx s s' [x]) (e : s.heap.get? x = some ob) (hc : ob.cls ≠ .type "tuple") : Ops th s'.heap [x] vs kls :=
  All2.imp (fun v kl z => by
    obtain ⟨as, z1, z2⟩ := z
    exact ⟨as, z1.move (fun a ha ob e => F.keep _ _ e fun m => z2 a ha m) (F.tup1 e hc), z2⟩) H
theorem fltA {kls : List (List κ)} {a b : List κ} (ks : List κ) : ((ks.filter fun k => decide (k ∈ a)).filter fun k => decide (k ∈ b)) = ks.filter fun k => decide (∀ kl ∈ [a, b], k ∈ kl) := by
  rw [List.filter_filter]
  refine List.filter_congr fun k _ => ?_
  simp [Bool.and_comm]
theorem fltN {kls : List (List κ)} {a b : List κ} (ks : List κ) : ((ks.filter fun k => decide (k ∉ a)).filter fun k => decide (k ∉ b)) = ks.filter fun k => decide (∀ kl ∈ [a, b], k ∉ kl) := by
  rw [List.filter_filter]
  refine List.filter_congr fun k _ => ?_
  simp [Bool.and_comm]
theorem iu_any {vs : List Value} {kls : List (List κ)} {Q : Value → Shared → Prop} (hA : AOk3 A) (X : (KK w.params).In s.heap) (S : SO th s.heap x o.obj o.es o.n o.t ks) (hops : Ops th s.heap [x] vs kls) (hvs : (∃ v, vs = [v]) ∨ ∃ v v2, vs = [v, v2])
    (h : ∀ s' es n t, Fx s s' [x] → SO th s'.heap x (osetO o.dx es n t o.l) es n t (ks.filter fun k => decide (∀ kl ∈ kls, k ∈ kl)) → Q .none s') :
    wpAny (model prog w) A (call (.builtin "set.intersection_update") (.ref x :: vs)) Q E s := by
  rcases hvs with ⟨v, rfl⟩ | ⟨v, v2, rfl⟩
  · cases hops with
    | cons a b =>
      cases b
      obtain ⟨as, op, _⟩ := a
      refine call_iu1 (th := th) hA X S (op.opd _) (by simp) fun s' es' n' t' F tk S' => h s' es' n' t' F ?_
      simpa using S'
  · cases hops with
    | cons a b =>
      cases b with
      | cons b c =>
        cases c
        obtain ⟨as, op, _⟩ := a
        obtain ⟨bs, op2, z2⟩ := b
        refine call_iu2 (th := th) hA X S (op.opd _) (fun s' F => (op2.up fun b ob e => F.keep _ _ e (by simp)).opd _) fun s' es' n' t' F S' => h s' es' n' t' F ?_
        rwa [fltA (kls := []) ks] at S'
theorem du_any {vs : List Value} {kls : List (List κ)} {Q : Value → Shared → Prop} (hA : AOk3 A) (X : (KK w.params).In s.heap) (hX : ∀ s', Fx s s' [x] → (KK w.params).In s'.heap) (S : SO th s.heap x o.obj o.es o.n o.t ks) (hops : Ops th s.heap [x] vs kls) (hvs : (∃ v, vs = [v]) ∨ ∃ v v2, vs = [v, v2])
    (h : ∀ s' es n t, Fx s s' [x] → SO th s'.heap x (osetO o.dx es n t o.l) es n t (ks.filter fun k => decide (∀ kl ∈ kls, k ∉ kl)) → Q .none s') :
    wpAny (model prog w) A (call (.builtin "set.difference_update") (.ref x :: vs)) Q E s := by
  rcases hvs with ⟨v, rfl⟩ | ⟨v, v2, rfl⟩
  · cases hops with
    | cons a b =>
      cases b
      obtain ⟨as, op, _⟩ := a
      refine call_du1 (th := th) hA X S (op.opd _) fun s' es' n' t' F tk S' => h s' es' n' t' F ?_
      simpa using S'
  · cases hops with
    | cons a b =>
      cases b with
      | cons b c =>
        cases c
        obtain ⟨as, op, _⟩ := a
        obtain ⟨bs, op2, z2⟩ := b
        refine call_du2 (th := th) hA X S (op.opd _) (fun s' F => (op2.move (fun a ha ob e => F.keep _ _ e fun m => z2 a ha m) (F.tup1 S.at_ S.notTuple)).opd _) hX fun s' es' n' t' F S' => h s' es' n' t' F ?_
        rwa [fltN (kls := []) ks] at S'
theorem MoreIs.hide {h h' : Heap} {lm : Addr} {more : Option (List κ)} {ft : List Addr} (M : MoreIs ek h lm more) (h1 : lm ∉ ft) (h2 : ∀ l1 m, h.get? lm = some (lstO #[.ref l1] m) → l1 ∉ ft) (k : ∀ b ob, h.get? b = some ob → b ∉ ft → h'.get? b = some ob) (tk : TupKept h h') : MoreIs ek h' lm more := by
  cases M with
  | no m e => exact .no m (k _ _ e h1)
  | one m l1 zs m1 km e e1 a z => exact .one m l1 zs m1 km (k _ _ e h1) (k _ _ e1 (h2 _ _ e)) (a.mono tk) z
section
variable (P : Params)
theorem m_symupd : findIn (KK P) (.ref 225) "symmetric_difference_update" = some (some (.ref 202)) := by kernel_rfl
theorem mt_symupd : typeIn (KK P) (.ref 202) = some (.type "function") := by kernel_rfl
theorem fn_128 : fnIn (KK P) 128 = true := by kernel_rfl
end
set_option maxHeartbeats 8000000 in
theorem c_turned {kind way : Int} {t1 t2 : Tok} {lm : Addr} {more : Option (List κ)} {hu : List (Addr × Obj)} (Gd : Gnd (KK w.params) base) (C : Site 72 A base outer s.heap) (OW : Own base outer s (o.ents x)) (hO : OS th s.heap o ks)
    (hd : HandIs th s.heap v kl way hu) (hup : ∀ p ∈ hu, s.heap.get? p.1 = some p.2) (hoff : ∀ a ∈ hu.map (·.1), a ∉ (o.ents x).map (·.1)) (M : MoreIs ek s.heap lm more) (hm1 : lm ∉ (o.ents x).map (·.1)) (hm2 : ∀ l1 m, s.heap.get? lm = some (lstO #[.ref l1] m) → l1 ∉ (o.ents x).map (·.1))
    (nd : kl.Nodup) (hz : kl.length ≤ 10000)
    (hk : kind = 0 ∨ kind = 1 ∨ kind = 2 ∨ kind = 3) (hw : way = 0 ∨ way = 1 ∨ way = 2 ∨ way = 3) (hm : more = none ∨ (kind ≠ 3 ∧ way ≠ 3))
    (h : ∀ s' o', Chg s s' ((o.ents x).map (·.1)) (o'.ents x) → OS th s'.heap o' (doneK kind ks kl more) → R (.ok (.ret .none)) s') :
    codeAny (model prog w) A (.call (.ref 269) ⟨[.int kind t1, .int way t2, .ref x, v, .ref lm], []⟩) R s := by
  have XK : (Mine.hd.heap_39 w.params).In base ∧ PySem.Challenge.rw_eu0034_01 = PySem.Challenge.rw_eu0034_01 := ⟨Gd.inK, rfl⟩
  revert XK
  k_fill
  intro _
  refine' enter (K := Mine.hd.heap_39 w.params) (d := 71) (binds := [("kind", .int kind t1), ("way", .int way t2), ("told", .ref x), ("other", v), ("more", .ref lm)]) Gd C (o.ents x) OW ?ho ?hcd ?hbind ?hloc ?h ?hcell ?c1 ?c2 ?c3
  walk_at "enter"
  intro g L s₁ Rm W I
  have X := I.kin Gd
  have A3 := Rm.ok3 (by decide)
  have hh := Rm.hand
  have tgO := I.tupgO OW
  have Og := hO.mono tgO
  have hupg : ∀ p ∈ hu, g.get? p.1 = some p.2 := fun p hp => I.hid _ _ (hup p hp) (hoff _ (List.mem_map_of_mem hp))
  have hdg := hd.mono hupg tgO
  have og : OpK th g v kl (hu.map (·.1)) := hdg.op hupg
  have Mg := M.hide hm1 hm2 I.hid tgO
  have ndk : ks.Nodup := hO.set.nodup
  have gone : ∀ a ∈ (o.ents x).map (·.1), g.get? a = none := fun a ha => by
    obtain ⟨p, hp, rfl⟩ := List.mem_map.mp ha
    exact (W.nw p hp).2.2
  have offg : ∀ a ∈ hu.map (·.1), a ∉ (o.ents x).map (·.1) := hoff
  have ops : ∀ {s' : Shared} {fl : List (Str × Value)} {news : List (Addr × Obj)}, Wd s.gens s.os g L s' fl news → ∃ as, OpK th s'.heap v kl as ∧ ∀ a ∈ as, a ∉ (o.ents x).map (·.1) := fun W => ⟨_, og.now W, offg⟩
  have fin : ∀ {s' : Shared} {o' : Tob} {fl : List (Str × Value)} {rest : List (Addr × Obj)}, Wd s.gens s.os g L s' fl (o'.ents x ++ rest) → OS th s'.heap o' (doneK kind ks kl more) → R (.ok (.ret .none)) s' := fun W O =>
    h _ _ (Chg.of_wd W I.hid (.cons .head (.cons .head (.cons .head .nil)))) O
  have nd0 : ((o.ents x).map (·.1)).Nodup := OW.nd
  have iu : ∀ {s' : Shared} {vs : List Value} {kls : List (List κ)}, OS th s'.heap o ks → There s'.heap x o → Ops th s'.heap [x] vs kls → ((∃ v, vs = [v]) ∨ ∃ v v2, vs = [v, v2]) → ∀ (A' : Around) (s'' : Shared) (E : Value → Shared → Prop) (Q : Value → Shared → Prop), AOk3 A' → (KK w.params).In s''.heap → (∀ b ob, s'.heap.get? b = some ob → s''.heap.get? b = some ob) →
      (∀ s3 es n t, Fx s'' s3 [x] → SO th s3.heap x (osetO o.dx es n t o.l) es n t (ks.filter fun k => decide (∀ kl ∈ kls, k ∈ kl)) → Q .none s3) → wpAny (model prog w) A' (call (.builtin "set.intersection_update") (.ref x :: vs)) Q E s'' := fun O' H' ops' hvs A' s'' E Q hA' X' k q =>
    iu_any (th := th) (o := o) hA' X' ((O'.mono (.of k)).sot (H'.up k)) (ops'.up0 k) hvs q
  have hxK : ∀ {s' : Shared} {fl : List (Str × Value)} {news : List (Addr × Obj)}, Wd s.gens s.os g L s' fl news → ∀ {s2 s3 : Shared}, (∀ b ob, s'.heap.get? b = some ob → s2.heap.get? b = some ob) → Fx s2 s3 [x] → (KK w.params).In s3.heap := fun W s2 s3 k F a ob e => F.keep _ _ (k _ _ (W.base (X a ob e))) fun m => by
    have := gone x (.head _)
    rw [List.mem_singleton.mp m] at e
    rw [X _ _ e] at this; cases this
  have du : ∀ {s' : Shared} {fl : List (Str × Value)} {news : List (Addr × Obj)}, Wd s.gens s.os g L s' fl news → ∀ {vs : List Value} {kls : List (List κ)}, OS th s'.heap o ks → There s'.heap x o → Ops th s'.heap [x] vs kls → ((∃ v, vs = [v]) ∨ ∃ v v2, vs = [v, v2]) → ∀ (A' : Around) (s'' : Shared) (E : Value → Shared → Prop) (Q : Value → Shared → Prop), AOk3 A' → (KK w.params).In s''.heap → (∀ b ob, s'.heap.get? b = some ob → s''.heap.get? b = some ob) →
      (∀ s3 es n t, Fx s'' s3 [x] → SO th s3.heap x (osetO o.dx es n t o.l) es n t (ks.filter fun k => decide (∀ kl ∈ kls, k ∉ kl)) → Q .none s3) → wpAny (model prog w) A' (call (.builtin "set.difference_update") (.ref x :: vs)) Q E s'' := fun W vs kls O' H' ops' hvs A' s'' E Q hA' X' k q =>
    du_any (th := th) (o := o) hA' X' (fun s3 F => hxK W k F) ((O'.mono (.of k)).sot (H'.up k)) (ops'.up0 k) hvs q
  have offx : ∀ {as : List Addr}, (∀ a ∈ as, a ∉ (o.ents x).map (·.1)) → ∀ a ∈ as, a ∉ [x] := fun z a ha m => z a ha (by rw [List.mem_singleton.mp m]; exact .head _)
  have opsx : ∀ {s' : Shared} {fl : List (Str × Value)} {news : List (Addr × Obj)}, Wd s.gens s.os g L s' fl news → ∃ as, OpK th s'.heap v kl as ∧ ∀ a ∈ as, a ∉ [x] := fun W => ⟨_, og.now W, offx offg⟩
  refine wpAny_execs_cons (wpAny_If (wpAny_isTrue_Compare1 (nameX_L W.fr rfl (wpAny_Constant_int (PyProof.Rows.eq_int (wpAny_truthy_bool ?_))))))
  have W := W.toks (t := s₁.toks + 1)
  by_cases w3 : way = 3
  · rw [if_pos (by simpa using w3)]
    obtain ⟨b, bo, rfl, Ob, rfl⟩ := hdg.is3 w3
    obtain rfl : more = none := hm.resolve_right fun z => z.2 w3
    refine wpAny_execs_cons (wpAny_If (wpAny_isTrue_Compare1 (nameX_L W.fr rfl (wpAny_Constant_int (PyProof.Rows.eq_int (wpAny_truthy_bool ?_))))))
    have W := W.toks (t := s₁.toks + 1 + 1)
    by_cases q0 : kind = 0
    · subst q0
      rw [if_pos (by decide)]
      refine wpAny_execs_cons (wpAny_AugAssign_Name (wpAny_loadName_local rfl rfl W.fr.ns rfl (nameX_L W.fr rfl ?_)))
      refine inop_os W X (W.there fun p hp => hp) (i_or _) (fn_135 _) (wpAny_call ?_)
      refine c_ior (th := th) (kl := kl) Gd (site_W I.below W Rm rfl rfl (by decide)) (W.own I.below rfl (fun p hp => hp) nd0) (Og.mono W.tg) (.cons (ops W) .nil) fun s₂ o' c O' => ?_
      have W2 := W.chg (old := o.ents x) (.cons .head (.cons .head (.cons .head .nil))) c
      refine store_W W2 fun s₃ W3 F3 => ?_
      repeat refine wpAny_execs_nil ?_
      exact fin W3 (by rw [← done0 none ndk]; exact OS.mono O' (W2.fxL F3))
    rw [if_neg (by simpa using q0)]
    refine wpAny_execs_cons (wpAny_If (wpAny_isTrue_Compare1 (nameX_L W.fr rfl (wpAny_Constant_int (PyProof.Rows.eq_int (wpAny_truthy_bool ?_))))))
    have W := W.toks (t := s₁.toks + 1 + 1 + 1)
    by_cases q1 : kind = 1
    · subst q1
      rw [if_pos (by decide)]
      refine wpAny_execs_cons (wpAny_AugAssign_Name (wpAny_loadName_local rfl rfl W.fr.ns rfl (nameX_L W.fr rfl ?_)))
      refine inop_os W X (W.there fun p hp => hp) (i_and _) (fn_197 _) (wpAny_call ?_)
      refine c_iand (th := th) (q := fun k => decide (∀ l ∈ kl :: (none : Option (List κ)).toList, k ∈ l)) Gd (site_W I.below W Rm rfl rfl (by decide)) (W.own I.below rfl (fun p hp => hp) nd0) (Og.mono W.tg) (iu (Og.mono W.tg) (W.there fun p hp => hp) (.cons (opsx W) .nil) (.inl ⟨_, rfl⟩)) fun s₂ o' c O' => ?_
      have W2 := W.chg (old := o.ents x) (.cons .head (.cons .head (.cons .head .nil))) c
      refine store_W W2 fun s₃ W3 F3 => ?_
      repeat refine wpAny_execs_nil ?_
      exact fin W3 (by rw [← done1 none]; exact OS.mono O' (W2.fxL F3))
    rw [if_neg (by simpa using q1)]
    refine wpAny_execs_cons (wpAny_If (wpAny_isTrue_Compare1 (nameX_L W.fr rfl (wpAny_Constant_int (PyProof.Rows.eq_int (wpAny_truthy_bool ?_))))))
    have W := W.toks (t := s₁.toks + 1 + 1 + 1 + 1)
    by_cases q2 : kind = 2
    · subst q2
      rw [if_pos (by decide)]
      refine wpAny_execs_cons (wpAny_AugAssign_Name (wpAny_loadName_local rfl rfl W.fr.ns rfl (nameX_L W.fr rfl ?_)))
      refine inop_os W X (W.there fun p hp => hp) (i_sub _) (fn_221 _) (wpAny_call ?_)
      refine c_isub (th := th) (q := fun k => decide (∀ l ∈ kl :: (none : Option (List κ)).toList, k ∉ l)) Gd (site_W I.below W Rm rfl rfl (by decide)) (W.own I.below rfl (fun p hp => hp) nd0) (Og.mono W.tg) (du W (Og.mono W.tg) (W.there fun p hp => hp) (.cons (opsx W) .nil) (.inl ⟨_, rfl⟩)) fun s₂ o' c O' => ?_
      have W2 := W.chg (old := o.ents x) (.cons .head (.cons .head (.cons .head .nil))) c
      refine store_W W2 fun s₃ W3 F3 => ?_
      repeat refine wpAny_execs_nil ?_
      exact fin W3 (by rw [← done2 none]; exact OS.mono O' (W2.fxL F3))
    obtain rfl : kind = 3 := by omega
    rw [if_neg (by decide)]
    refine wpAny_execs_cons (wpAny_AugAssign_Name (wpAny_loadName_local rfl rfl W.fr.ns rfl (nameX_L W.fr rfl ?_)))
    refine inop_os W X (W.there fun p hp => hp) (i_xor _) (fn_209 _) (wpAny_call ?_)
    refine c_ixor (th := th) (kl := kl) Gd (site_W I.below W Rm rfl rfl (by decide)) (W.own I.below rfl (fun p hp => hp) nd0) (Og.mono W.tg) (og.now W) offg nd hz fun s₂ o' c O' => ?_
    have W2 := W.chg (old := o.ents x) (.cons .head (.cons .head (.cons .head .nil))) c
    refine store_W W2 fun s₃ W3 F3 => ?_
    repeat refine wpAny_execs_nil ?_
    exact fin W3 (by rw [← done3]; exact OS.mono O' (W2.fxL F3))
  rw [if_neg (by simpa using w3)]
  refine wpAny_execs_cons (wpAny_If (wpAny_isTrue_Compare1 (nameX_L W.fr rfl (wpAny_Constant_int (PyProof.Rows.eq_int (wpAny_truthy_bool ?_))))))
  have W := W.toks (t := s₁.toks + 1 + 1)
  have mem : ∀ {nw ex : List (Addr × Obj)}, ∀ p ∈ o.ents x, p ∈ nw ++ (ex ++ o.ents x) := fun p hp => List.mem_append_right _ (List.mem_append_right _ hp)
  have ext : ∀ {nw ex : List (Addr × Obj)}, Ext (o.ents x) (nw ++ (ex ++ o.ents x)) (nw ++ ex) := fun {nw ex} => by rw [← List.append_assoc]; exact Ext.back
  have apart : ∀ {s' : Shared} {fl : List (Str × Value)} {nw ex : List (Addr × Obj)}, Wd s.gens s.os g L s' fl (nw ++ (ex ++ o.ents x)) → ∀ p ∈ nw, p.1 ∉ (o.ents x).map (·.1) := fun W p hp m => by
    have z := W.nd
    rw [List.map_append, List.map_append] at z
    exact (List.nodup_append.mp z).2.2 _ (List.mem_map_of_mem hp) _ (List.mem_append_right _ m) rfl
  by_cases q0 : kind = 0
  · subst q0
    rw [if_pos (by decide)]
    refine wpAny_execs_cons (wpAny_Expr_any ?_)
    refine call_more (o := o) (f := 128) W X Mg hh (W.there fun p hp => hp).inst (fo_update _) (ty_update _) (fn_128 _) rfl (fun q => nameX_L W.fr rfl q) (fun W q => nameX_L W.fr rfl q) (fun W q => nameX_L W.fr rfl q) fun s₂ R' ws nw ex W2 t2 mt hR => ?_
    refine c_update (th := th) (vs := v :: ws) (kls := kl :: more.toList) Gd (site_W I.below W2 Rm rfl rfl (by decide)) (W2.own I.below rfl mem nd0) (Og.mono W2.tg) (.cons (ops W2) (mt.ops (fun p hp => W2.get (List.mem_append_left _ hp)) (apart W2))) mt.two fun s₃ o' c O' => ?_
    have W3 := W2.chg (old := o.ents x) ext c
    refine hR _ _ ?_
    repeat refine wpAny_execs_nil ?_
    exact fin W3 (by rw [← done0 more ndk]; exact O')
  rw [if_neg (by simpa using q0)]
  refine wpAny_execs_cons (wpAny_If (wpAny_isTrue_Compare1 (nameX_L W.fr rfl (wpAny_Constant_int (PyProof.Rows.eq_int (wpAny_truthy_bool ?_))))))
  have W := W.toks (t := s₁.toks + 1 + 1 + 1)
  by_cases q1 : kind = 1
  · subst q1
    rw [if_pos (by decide)]
    refine wpAny_execs_cons (wpAny_Expr_any ?_)
    refine call_more (o := o) (f := 190) W X Mg hh (W.there fun p hp => hp).inst (fo_iu _) (ty_190 _) (fni_190 _) rfl (fun q => nameX_L W.fr rfl q) (fun W q => nameX_L W.fr rfl q) (fun W q => nameX_L W.fr rfl q) fun s₂ R' ws nw ex W2 t2 mt hR => ?_
    refine c_iu (th := th) (vs := v :: ws) (q := fun k => decide (∀ l ∈ kl :: more.toList, k ∈ l)) Gd (site_W I.below W2 Rm rfl rfl (by decide)) (W2.own I.below rfl mem nd0) (Og.mono W2.tg) mt.two
      (iu (Og.mono W2.tg) (W2.there mem) (.cons (opsx W2) (mt.ops (fun p hp => W2.get (List.mem_append_left _ hp)) fun p hp m => apart W2 p hp (by rw [List.mem_singleton.mp m]; exact .head _))) mt.two) fun s₃ o' c O' => ?_
    have W3 := W2.chg (old := o.ents x) ext c
    refine hR _ _ ?_
    repeat refine wpAny_execs_nil ?_
    exact fin W3 (by rw [← done1 more]; exact O')
  rw [if_neg (by simpa using q1)]
  refine wpAny_execs_cons (wpAny_If (wpAny_isTrue_Compare1 (nameX_L W.fr rfl (wpAny_Constant_int (PyProof.Rows.eq_int (wpAny_truthy_bool ?_))))))
  have W := W.toks (t := s₁.toks + 1 + 1 + 1 + 1)
  by_cases q2 : kind = 2
  · subst q2
    rw [if_pos (by decide)]
    refine wpAny_execs_cons (wpAny_Expr_any ?_)
    refine call_more (o := o) (f := 214) W X Mg hh (W.there fun p hp => hp).inst (fo_du _) (ty_214 _) (fni_214 _) rfl (fun q => nameX_L W.fr rfl q) (fun W q => nameX_L W.fr rfl q) (fun W q => nameX_L W.fr rfl q) fun s₂ R' ws nw ex W2 t2 mt hR => ?_
    refine c_du (th := th) (vs := v :: ws) (q := fun k => decide (∀ l ∈ kl :: more.toList, k ∉ l)) Gd (site_W I.below W2 Rm rfl rfl (by decide)) (W2.own I.below rfl mem nd0) (Og.mono W2.tg) mt.two
      (du W2 (Og.mono W2.tg) (W2.there mem) (.cons (opsx W2) (mt.ops (fun p hp => W2.get (List.mem_append_left _ hp)) fun p hp m => apart W2 p hp (by rw [List.mem_singleton.mp m]; exact .head _))) mt.two) fun s₃ o' c O' => ?_
    have W3 := W2.chg (old := o.ents x) ext c
    refine hR _ _ ?_
    repeat refine wpAny_execs_nil ?_
    exact fin W3 (by rw [← done2 more]; exact O')
  obtain rfl : kind = 3 := by omega
  obtain rfl : more = none := hm.resolve_right fun z => z.1 rfl
  rw [if_neg (by decide)]
  refine wpAny_execs_cons (wpAny_Expr_any (methodCall_KW (nameX_L W.fr rfl ?_)))
  refine method_S (W.kin X) (W.there fun p hp => hp).inst (m_symupd _) (mt_symupd _) ?_
  refine callWith_K X (keep202 _) (args_cons (nameX_L W.fr rfl (args_nil ⟨W.kin X, wpAny_call ?_⟩)))
  refine c_symupd (th := th) (kl := kl) Gd (site_W I.below W Rm rfl rfl (by decide)) (W.own I.below rfl (fun p hp => hp) nd0) (Og.mono W.tg) (og.now W) offg nd hz fun s₂ o' c O' => ?_
  have W2 := W.chg (old := o.ents x) (.cons .head (.cons .head (.cons .head .nil))) c
  repeat refine wpAny_execs_nil ?_
  exact fin W2 (by rw [← done3]; exact O')
end
end
section
open PySem PySem.W PyProof.Rows PySem.Calls Builtin
set_option Elab.async false
set_option maxRecDepth 100000
set_option pp.deepTerms false
set_option pp.maxSteps 1500
set_option linter.unusedVariables false
section
variable {prog : Program} {w : World} {κ : Type} [DecidableEq κ] {ek : EK prog w κ} {th : SetTh ek}
  {A : Around} {E : Value → Shared → Prop} {s s' s₁ : Shared} {R : Result → Shared → Prop} {x : Addr} {ks kb kl km : List κ} {k : κ} {v v2 : Value} {w0 : List Addr} {name : Str} {id T : String}
  {G : Array GenState} {O : OsState} {g base : Heap} {outer : List Env} {L a r l : Addr} {fl : List (Str × Value)} {news old upd rest foot : List (Addr × Obj)} {ob ob' : Obj} {f : Obj → List (Addr × Obj)} {o o' : Tob} {xs : Array Value} {m : Nat}
section
variable (P : Params)
theorem m_remove : findIn (KK P) (.ref 225) "remove" = some (some (.ref 65)) := by kernel_rfl
theorem mt_remove : typeIn (KK P) (.ref 65) = some (.type "function") := by kernel_rfl
theorem keep65 : keepIn (KK P) (.ref 65) = true := by kernel_rfl
theorem m_pop : findIn (KK P) (.ref 225) "pop" = some (some (.ref 72)) := by kernel_rfl
theorem mt_pop : typeIn (KK P) (.ref 72) = some (.type "function") := by kernel_rfl
theorem keep72 : keepIn (KK P) (.ref 72) = true := by kernel_rfl
end
theorem ChgT.tup {fs : List Addr} {foot : List (Addr × Obj)} (c : ChgT fs s s' (foot.map (·.1)) upd) (hf : ∀ p ∈ foot, s.heap.get? p.1 = some p.2 ∧ p.2.cls ≠ .type "tuple") (hD : KtsDicts fs s.heap) : TupKept s.heap s'.heap := fun b o e hc hd => by
  by_cases q : b ∈ foot.map (·.1)
  · obtain ⟨p, hp, rfl⟩ := List.mem_map.mp q
    obtain ⟨e2, n⟩ := hf p hp
    rw [e] at e2; cases e2; exact absurd hc n
  · by_cases q2 : b ∈ fs
    · obtain ⟨o2, es, n, e2, d2⟩ := hD b q2
      rw [e] at e2; cases e2
      obtain ⟨ys, j, z⟩ := hd
      rw [d2] at z; cases z
    · exact c.keep b o e q q2
set_option maxHeartbeats 8000000 in
theorem c_goes {kind : Int} {t1 : Tok} {p : Program} {lo : List Str} {mean : ExcName → Option Value} {mg mb : Str → Option Value} (Gd : Gnd (KK w.params) base) (TB : Top p lo mean mg mb base) (C : Site 62 A base outer s.heap) (OW : Own base outer s (o.ents x)) (hO : OS th s.heap o ks) (hk : ek.is s.heap k v)
    (hD : KtsDicts (outer.filterMap (·.frame)) s.heap) (hkd : kind = 0 ∨ kind = 1)
    (h : ∀ s' o' u ks', ChgT (outer.filterMap (·.frame)) s s' ((o.ents x).map (·.1)) (o'.ents x) → OS th s'.heap o' ks' → (kind = 0 → ks' = ks.filter (fun y => decide (y ≠ k)) ∧ u = if k ∈ ks then v else .none) →
      (kind = 1 → (ks = [] ∧ ks' = [] ∧ u = .none) ∨ ∃ ks0 k', ks = ks0 ++ [k'] ∧ ks' = ks0 ∧ ek.is s'.heap k' u) → R (.ok (.ret u)) s') :
    codeAny (model prog w) A (.call (.ref 276) ⟨[.ref x, .int kind t1, v], []⟩) R s := by
  have XK : (Mine.hd.heap_39 w.params).In base ∧ PySem.Challenge.rw_eu0034_01 = PySem.Challenge.rw_eu0034_01 := ⟨Gd.inK, rfl⟩
  revert XK
  k_fill
  intro _
  refine' enter (K := Mine.hd.heap_39 w.params) (d := 61) (binds := [("told", .ref x), ("kind", .int kind t1), ("one", v)]) Gd C (o.ents x) OW ?ho ?hcd ?hbind ?hloc ?h ?hcell ?c1 ?c2 ?c3
  walk_at "enter"
  intro g L s₁ Rm W I
  have X := I.kin Gd
  have A3 := Rm.ok3 (by decide)
  have hh := Rm.hand
  have tgO := I.tupgO OW
  have Og := hO.mono tgO
  have hkg := ek.mono tgO hk
  have nd0 : ((o.ents x).map (·.1)).Nodup := OW.nd
  have hDf : ∀ b ∈ outer.filterMap (·.frame), b ∉ (o.ents x).map (·.1) := fun b hb m => off_frames (OW.off b m) hb
  have Dg : KtsDicts (outer.filterMap (·.frame)) g := fun b hb => by
    obtain ⟨ob, es, n, e, d⟩ := hD b hb
    exact ⟨ob, es, n, I.hid b ob e (hDf b hb), d⟩
  have ntO : ∀ p ∈ o.ents x, s.heap.get? p.1 = some p.2 ∧ p.2.cls ≠ .type "tuple" := fun p hp => ⟨OW.at_ p hp, o.nt x p hp⟩
  have W1 := W.toks (t := s₁.toks + 1)
  refine wpAny_execs_cons (wpAny_Try_except (wpAny_execs_cons (wpAny_If (wpAny_isTrue_Compare1 (nameX_L W.fr rfl (wpAny_Constant_int (PyProof.Rows.eq_int (wpAny_truthy_bool ?_))))))))
  by_cases q0 : kind = 0
  · subst q0
    rw [if_pos (by decide)]
    refine wpAny_execs_cons (wpAny_Expr_any (methodCall_KW (nameX_L W1.fr rfl ?_)))
    refine method_S (W1.kin X) (W1.there fun p hp => hp).inst (m_remove _) (mt_remove _) ?_
    refine callWith_K X (keep65 _) (args_cons (nameX_L W1.fr rfl (args_nil ⟨W1.kin X, wpAny_call ?_⟩)))
    by_cases hm : k ∈ ks
    · refine c_remove (th := th) (k := k) Gd (site_W I.below W1 Rm rfl rfl (by decide)) (W1.own I.below rfl (fun p hp => hp) nd0) (Og.mono W1.tg) (ek.mono W1.tg hkg) hm fun s₂ o' c O' => ?_
      have W2 := W1.chg (old := o.ents x) (.cons .head (.cons .head (.cons .head .nil))) c
      refine wpAny_execs_cons (wpAny_Return_some (nameX_L W2.fr rfl ?_))
      exact h s₂ o' v _ ((Chg.of_wd W2 I.hid (.cons .head (.cons .head (.cons .head .nil)))).toT hDf) O' (fun _ => ⟨rfl, (if_pos hm).symm⟩) fun q => by cases q
    · refine c_remove_absent (th := th) (k := k) Gd (site_W I.below W1 Rm rfl rfl (by decide)) (W1.own I.below rfl (fun p hp => hp) nd0) (Og.mono W1.tg) (ek.mono W1.tg hkg) hm fun s₂ e Th => ?_
      refine caught_W (X := "KeyError") (T' := "KeyError") W1 I.below Ext.self Th Gd.inK TB Dg (g_KeyError _) (by kernel_rfl) (by decide) exc_Key exc_KeyT exc_Key2 (fun g' s₃ T B3 W3 gn => ?_) rfl rfl (by decide) (by passes_own)
      refine wpAny_execs_cons (wpAny_Return_some (wpAny_Constant_none ?_))
      have c : ChgT (outer.filterMap (·.frame)) s s₃ ((o.ents x).map (·.1)) (o.ents x) := ChgT.of_wd W3 I.hid T hDf (.cons .head (.cons .head (.cons .head .nil)))
      exact h s₃ o .none _ c (hO.mono (c.tup ntO hD)) (fun _ => ⟨(List.filter_eq_self.mpr fun y hy => by simpa using fun q : y = k => hm (q ▸ hy)).symm, (if_neg hm).symm⟩) fun q => by cases q
  obtain rfl : kind = 1 := by omega
  rw [if_neg (by decide)]
  refine wpAny_execs_nil ?_
  refine wpAny_execs_cons (wpAny_Return_some (methodCall_KW (nameX_L W1.fr rfl ?_)))
  refine method_S (W1.kin X) (W1.there fun p hp => hp).inst (m_pop _) (mt_pop _) ?_
  refine callWith_K0 (W1.kin X) (keep72 _) (wpAny_call ?_)
  by_cases hm : ks = []
  · subst hm
    refine c_pop_empty (th := th) Gd (site_W I.below W1 Rm rfl rfl (by decide)) (W1.own I.below rfl (fun p hp => hp) nd0) (Og.mono W1.tg) fun s₂ e Th => ?_
    refine caught_W (X := "KeyError") (T' := "KeyError") W1 I.below Ext.self Th Gd.inK TB Dg (g_KeyError _) (by kernel_rfl) (by decide) exc_Key exc_KeyT exc_Key2 (fun g' s₃ T B3 W3 gn => ?_) rfl rfl (by decide) (by passes_own)
    refine wpAny_execs_cons (wpAny_Return_some (wpAny_Constant_none ?_))
    have c : ChgT (outer.filterMap (·.frame)) s s₃ ((o.ents x).map (·.1)) (o.ents x) := ChgT.of_wd W3 I.hid T hDf (.cons .head (.cons .head (.cons .head .nil)))
    exact h s₃ o .none [] c (hO.mono (c.tup ntO hD)) (fun q => by cases q) fun _ => .inl ⟨rfl, rfl, rfl⟩
  · obtain ⟨ks0, k', rfl⟩ : ∃ ks0 k', ks = ks0 ++ [k'] := ⟨ks.dropLast, ks.getLast hm, (List.dropLast_concat_getLast hm).symm⟩
    refine c_pop (th := th) (k := k') Gd (site_W I.below W1 Rm rfl rfl (by decide)) (W1.own I.below rfl (fun p hp => hp) nd0) (Og.mono W1.tg) fun s₂ o' u c O' hu => ?_
    have W2 := W1.chg (old := o.ents x) (.cons .head (.cons .head (.cons .head .nil))) c
    exact h s₂ o' u ks0 ((Chg.of_wd W2 I.hid (.cons .head (.cons .head (.cons .head .nil)))).toT hDf) O' (fun q => by cases q) fun _ => .inr ⟨ks0, k', rfl, rfl, hu⟩
end
end
section
open PySem PySem.W PyProof.Rows PySem.Calls Builtin
set_option Elab.async false
set_option maxRecDepth 100000
set_option pp.deepTerms false
set_option pp.maxSteps 1500
set_option linter.unusedVariables false
section
variable {prog : Program} {w : World} {κ : Type} [DecidableEq κ] {ek : EK prog w κ} {th : SetTh ek}
  {A : Around} {E : Value → Shared → Prop} {s s' s₁ : Shared} {R : Result → Shared → Prop} {x : Addr} {ks kb kl km : List κ} {k : κ} {v v2 : Value} {w0 : List Addr} {name : Str} {id T : String}
  {G : Array GenState} {O : OsState} {g base : Heap} {outer : List Env} {L a r l : Addr} {fl : List (Str × Value)} {news old upd rest foot : List (Addr × Obj)} {ob ob' : Obj} {f : Obj → List (Addr × Obj)} {o o' : Tob} {xs : Array Value} {m : Nat}
section
variable (P : Params)
theorem fo_class : findObj (KK P) 225 (some dictO0) "__class__" = some (.bind (.builtin "getset_descriptor.__get__") (.builtin "object.__class__")) := by kernel_rfl
theorem mro_obj : mroIn (KK P) 225 (.type "object") = some true := by kernel_rfl
theorem reads_225 : readsIn (KK P) 225 (.type "type") = true := by kernel_rfl
theorem name_225 : findCls (KK P) (.ref 225) (.type "type") "__name__" = some (.get (.builtin "getset_descriptor.__get__") (.builtin "type.__name__") (.ref 225) (.type "type")) := by kernel_rfl
theorem kept_225 : ((KK P).lookup 225).map (fun o => (o.slots[2]?).join) = some (some (.str "OrderedSet" 196)) := by kernel_rfl
theorem m_repr : findIn (KK P) (.ref 225) "__repr__" = some (some (.ref 121)) := by kernel_rfl
theorem fn_121 : isFn (KK P) (.ref 121) = true := by kernel_rfl
end
theorem get_classS {Q : Value → Shared → Prop} {expr : Bool} {ox : Obj} (X : (KK w.params).In s.heap) (I : InstAt s.heap x ox 225 (some dictO0)) (h : Q (.ref 225) { s with toks := s.toks + 1 }) :
    wpAny (model prog w) A (getAttr (.ref x) "__class__" expr) Q E s :=
  get_bindS X I (fo_class _) fun E' => wpAny_call (class_get (s := { s with toks := s.toks + 1 }) X I (mro_obj _) (handed_on rfl h))
open Builtin.ObjectAttr Builtin.Getset_descriptor in
theorem name_get {tp : Value} (X : (KK w.params).In s.heap) (h : R (.ok (.ret (.str "OrderedSet" 196))) s) :
    codeAny (model prog w) A (.call (.builtin "getset_descriptor.__get__") ⟨[.builtin "type.__name__", .ref 225, tp], []⟩) R s := by
  obtain ⟨o, ho, hs⟩ : ∃ o, (KK w.params).lookup 225 = some o ∧ (o.slots[2]?).join = some (.str "OrderedSet" 196) := by
    have z := kept_225 w.params
    cases q : (KK w.params).lookup 225 with
    | none => rw [q] at z; cases z
    | some o => rw [q] at z; exact ⟨o, rfl, Option.some.inj z⟩
  have ho' := X _ _ ho
  obtain ⟨hh, g, dr, t, os⟩ := s
  have L0 : Looks (model prog w) hh (typeOf (.ref 225)) (.type "type") := looks_typeIn X (by kernel_rfl)
  have L1 : Looks (model prog w) hh (isSubtype (.type "type") (.type "type")) true := Looks.of_pure (by rw [isSubtype_type]; kernel_rfl)
  refine codeAny_call_builtin KF.slot_gs.plain KF.entry_gs (KF.slot_gs.check _ _ _ _ _ _ _ _ ktyn_type (KF.args_gs _ _ _) ?_)
  unfold Builtin.«getset_descriptor.__get__» descrGet
  rw [dga_obj]
  refine wpAny_bind (wpAny_pure ?_)
  unfold descrGetter descrCheckInstance descrNameAndClass isInstance
  simp only [ktyn_owner]
  repeat lk
  refine ⟨Code.quiet_builtin _ (by decide +kernel), codeAny_builtin ktyn_entry ?_⟩
  unfold Builtin.«type.__name__»
  dsimp only
  unfold keptObject slotAt
  refine wpAny_bind (wpAny_bind (wpAny_loadPart ho' ?_))
  rw [hs]
  refine wpAny_pure ?_
  show wpAny _ _ (ret _) _ _ _
  exact wpAny_pure h
theorem get_name {Q : Value → Shared → Prop} {expr : Bool} (X : (KK w.params).In s.heap) (h : Q (.str "OrderedSet" 196) { s with toks := s.toks + 1 }) :
    wpAny (model prog w) A (getAttr (.ref 225) "__name__" expr) Q E s :=
  cls_bind X (reads_225 _) (name_225 _) (wpAny_call (name_get (s := { s with toks := s.toks + 1 }) X (handed_on rfl h)))
theorem all_ints {h : Heap} : ∀ {vs : List Value} {ks : List Int}, (ekI prog w).All h vs ks → ReadsAll h vs (ks.map .int) []
  | _, _, .nil => .nil
  | _, _, .cons (a := v) (b := k) hk r => by
    obtain ⟨t, rfl⟩ := ek_int hk
    exact ReadsAll.cons (.int k t) (all_ints r)
theorem reads_lst {h : Heap} {ks : List Int} (hl : h.get? l = some (lstO xs m)) (hr : (ekI prog w).All h xs.toList ks) : Reads h (.ref l) (.list (ks.map .int)) [l] := .list hl rfl rfl (all_ints hr)
theorem small_ints : ∀ {ks : List Int}, (∀ k ∈ ks, 0 ≤ k ∧ k ≤ 10) → PyData.showableAll (ks.map .int) = true ∧ PyData.leavesShortAll 8 (ks.map .int) = true ∧ PyData.weightAll (ks.map .int) ≤ 5 * ks.length ∧ PyData.depthAll (ks.map .int) = 0
  | [], _ => ⟨rfl, rfl, Nat.le_refl _, rfl⟩
  | k :: ks, h => by
    obtain ⟨a, b, c, d⟩ := small_ints (ks := ks) fun x hx => h x (.tail _ hx)
    obtain ⟨h0, h1⟩ := h k (.head _)
    have z : ∀ n : Nat, n ≤ 10 → PyData.showable (.int (n : Int)) = true ∧ PyData.leavesShort 8 (.int (n : Int)) = true ∧ PyData.weight (.int (n : Int)) ≤ 4 ∧ PyData.depth (.int (n : Int)) = 0 := by decide +kernel
    obtain ⟨n, rfl⟩ := Int.eq_ofNat_of_zero_le h0
    obtain ⟨z1, z2, z3, z4⟩ := z n (by omega)
    refine ⟨?_, ?_, ?_, ?_⟩
    · show (PyData.showable _ && PyData.showableAll _) = true
      rw [z1, a]; rfl
    · show (PyData.leavesShort 8 _ && PyData.leavesShortAll 8 _) = true
      rw [z2, b]; rfl
    · show PyData.weight _ + 1 + PyData.weightAll _ ≤ _
      rw [List.length_cons]; omega
    · show max (PyData.depth _) (PyData.depthAll _) = 0
      rw [z4, d]; rfl
theorem hasDict_ints : ∀ ks : List Int, PyData.hasDictAll (ks.map .int) = false
  | [] => rfl
  | k :: ks => by show (PyData.hasDict (.int k) || PyData.hasDictAll _) = false; rw [hasDict_ints ks]; rfl
theorem kl_small {h : Heap} {vs : List Value} {ks : List Int} (hr : (ekI prog w).All h vs ks) : ∀ k ∈ ks, 0 ≤ k ∧ k ≤ 10 := fun k hk => by
  obtain ⟨n, h1, rfl⟩ := List.mem_map.mp (hr.subset k hk)
  have := List.mem_range.mp h1
  exact ⟨by simp, by simp; omega⟩
theorem shown_small {h : Heap} {vs : List Value} {ks : List Int} (hr : (ekI prog w).All h vs ks) (hz : ks.length ≤ 12) : (PyData.list (ks.map .int)).shown.length ≤ 800 := by
  obtain ⟨a, b, c, d⟩ := small_ints (kl_small hr)
  have := PyData.shown_le 8 (by decide) (.list (ks.map .int)) b
  have e : (PyData.list (ks.map PyData.int)).weight = PyData.weightAll (ks.map .int) := rfl
  rw [e] at this
  omega
abbrev shownL (ks : List Int) : Str := (PyData.list (ks.map .int)).shown
theorem repr_lst {ks : List Int} {Q : Value → Shared → Prop} (hA : AOk3 A) (hg : A.guards = some []) (hl : s.heap.get? l = some (lstO xs m)) (hr : (ekI prog w).All s.heap xs.toList ks) (hz : ks.length ≤ 12)
    (h : ∀ s' u, Fx s s' [] → Q (.str (shownL ks) u) s') : wpAny (model prog w) A (pyReprObj (.ref l)) Q E s := by
  obtain ⟨a, b, c, d⟩ := small_ints (kl_small hr)
  have hd : (PyData.list (ks.map PyData.int)).depth = 1 := by show PyData.depthAll _ + 1 = 1; rw [d]
  have := shown_small hr hz
  exact pyReprObj_of_reads (reads_lst hl hr) a (PyData.noDict_hsm (hasDict_ints ks)) hg (by rw [hd]; have := hA.units; omega) (fun _ _ e => e) (fun h' u tk k => h _ u ⟨fun b o e _ => k b o e, rfl, rfl⟩) (by rw [sizeLine_eq]; omega)
theorem fmt_str {y : Str} {t : Tok} {Q : Value → Shared → Prop} (hz : y.length ≤ 1000) (h : ∀ u k, Q (.str y u) { s with toks := k }) : wpAny (model prog w) A (formatField (.str y t) Str.empty) Q E s :=
  wpAny_formatField_str (h _ _) (h _ _) (by rw [sizeLine_eq]; omega)
theorem conv_str {y : Str} {t : Tok} {Q : Value → Shared → Prop} (hz : y.length ≤ 1000) (h : ∀ u k, Q (.str y u) { s with toks := k }) : wpAny (model prog w) A (convS (.str y t)) Q E s :=
  wpAny_habitSame_str (h _ _) (h _ _) (by rw [sizeLine_eq]; omega)
set_option maxHeartbeats 4000000 in
theorem c_repr {ks : List Int} {th : SetTh (ekI prog w)} (Gd : Gnd (KK w.params) base) (C : Site 55 A base outer s.heap) (hg : A.guards = some []) (H : There s.heap x o) (hO : OS th s.heap o ks)
    (h : ∀ s' u, Fx s s' [] → R (.ok (.ret (.str (("OrderedSet(" : Str) ++ shownL ks ++ (")" : Str)) u))) s') :
    codeAny (model prog w) A (.call (.ref 121) ⟨[.ref x], []⟩) R s := by
  have XK : (Mine.hd.heap_39 w.params).In base ∧ PySem.Challenge.rw_eu0034_01 = PySem.Challenge.rw_eu0034_01 := ⟨Gd.inK, rfl⟩
  revert XK
  k_fill
  intro _
  refine' enter (K := Mine.hd.heap_39 w.params) (d := 54) (binds := [("self", .ref x)]) Gd C [] Own.nil ?ho ?hcd ?hbind ?hloc ?h ?hcell ?c1 ?c2 ?c3
  walk_at "enter"
  intro g L s₁ Rm W I
  have X := I.kin Gd
  have A3 := Rm.ok3 (by decide)
  have up : ∀ b o, s.heap.get? b = some o → g.get? b = some o := fun b o e => I.hid b o e (by simp)
  have Hg : There g x o := H.up up
  have Og := hO.mono (TupKept.of up)
  have hzk : ks.length ≤ 12 := hO.small
  have ssm : (shownL ks).length ≤ 800 := shown_small Og.row hzk
  refine wpAny_execs_cons (wpAny_Return_some (JoinedStr_many (joinParts_cons ?_)))
  refine wpAny_FormattedValue_s (Attribute_any_ (Attribute_Name_ (nameX_L W.fr rfl ?_)))
  refine get_classS (W.kin X) (Hg.now W).inst ?_
  refine get_name (W.kin X) ?_
  refine conv_str (by decide +kernel) fun u1 k1 => fmt_str (by decide +kernel) fun u2 k2 => ?_
  refine ⟨by decide +kernel, ?_⟩
  have W1 := W.toks (t := k2)
  refine joinParts_cons (wpAny_Constant_str ?_)
  refine ⟨by decide +kernel, ?_⟩
  have W2 := W1.toks (t := k2 + 1)
  show wpAny _ _ (joinParts _ (_ :: _)) _ _ _
  refine joinParts_cons ?_
  refine wpAny_FormattedValue_repr (selfList (o := o) (x := x) W2 X (Hg.now W2) rfl ?_)
  have W3 := W2.toks (t := k2 + 1 + 1)
  refine repr_lst (ks := ks) (l := o.l) (xs := o.xs) (m := o.m) A3 hg (Hg.now W3).lst (Og.mono W3.tg).row hzk fun s₂ u3 F3 => ?_
  refine fmt_str (by omega) fun u4 k4 => ?_
  have ez : ((Str.empty ++ ("OrderedSet" : Str)) ++ ("(" : Str)) = ("OrderedSet(" : Str) := by decide +kernel
  rw [ez]
  have e11 : ("OrderedSet(" : Str).length = 11 := by decide +kernel
  have e1 : (")" : Str).length = 1 := by decide +kernel
  refine ⟨by rw [strLen_append, sizeLine_eq]; omega, ?_⟩
  show wpAny _ _ (joinParts _ (_ :: _)) _ _ _
  refine joinParts_cons (wpAny_Constant_str ?_)
  refine ⟨by rw [strLen_append, strLen_append, sizeLine_eq]; omega, ?_⟩
  show wpAny _ _ (joinParts _ []) _ _ _
  refine joinParts_nil ?_ (by rw [strLen_append, strLen_append, sizeLine_eq]; omega)
  have W4 := (W3.fx0 F3).toks (t := k4 + 1 + 1)
  exact h _ _ ⟨fun b o e _ => W4.keeps _ _ (up b o e), W4.gens, W4.os⟩
end
end
section
open PySem PySem.W PyProof.Rows PySem.Calls Builtin
set_option Elab.async false
set_option maxRecDepth 100000
set_option pp.deepTerms false
set_option pp.maxSteps 1500
set_option linter.unusedVariables false
section
variable {prog : Program} {w : World} {κ : Type} [DecidableEq κ] {ek : EK prog w κ} {th : SetTh ek}
  {A : Around} {E : Value → Shared → Prop} {s s' s₁ : Shared} {R : Result → Shared → Prop} {x : Addr} {ks kb kl km : List κ} {k : κ} {v v2 : Value} {w0 : List Addr} {name : Str} {id T : String}
  {G : Array GenState} {O : OsState} {g base : Heap} {outer : List Env} {L a r l : Addr} {fl : List (Str × Value)} {news old upd rest foot : List (Addr × Obj)} {ob ob' : Obj} {f : Obj → List (Addr × Obj)} {o o' : Tob} {xs : Array Value} {m : Nat}
theorem Wd.ext {N' : List (Addr × Obj)} (W : Wd G O g L s fl news) (x : Ext N' news rest) : Wd G O g L s fl N' :=
  (W.perm x.perm.symm).sub (List.sublist_append_left _ _)
theorem slice_genR {env : Env} {value : Expr} {lower upper : Option Expr} {p pos : Pos} {Q : Value → Shared → Prop}
    (h : wpAny (model prog w) A (eval value env) (fun o s₁ => wpAny (model prog w) A (evalPart lower env) (fun vl s₂ => wpAny (model prog w) A (evalPart upper env) (fun vu s₃ =>
      ∃ l xs m lo hi, o = .ref l ∧ s₃.heap.get? l = some (lstO xs m) ∧ xs.size ≤ sizeLine ∧ IsPart vl lo ∧ IsPart vu hi ∧
        ∀ s₄ r, Fx s₃ s₄ [] → s₃.heap.get? r = none → s₄.heap.get? r = some (lstO (slicePick xs lo hi none) 0) → Q (.ref r) s₄) E s₂) E s₁) E s) :
    wpAny (model prog w) A (eval (.Subscript value (.Slice lower upper none p) pos) env) Q E s := by
  refine Subscript_ (wpAny_mono h (fun o s₁ h₁ => wpAny_Slice (wpAny_mono h₁ (fun vl s₂ h₂ => wpAny_mono h₂ (fun vu s₃ h₃ => ?_) fun _ _ e => e) fun _ _ e => e)) fun _ _ e => e)
  obtain ⟨l, xs, m, lo, hi, rfl, hl, hz, pl, pu, hQ⟩ := h₃
  rw [evalPart_none]
  refine wpAny_pure ?_
  have hl' : s₃.heap.IsList l xs := ⟨_, hl, rfl, m, rfl⟩
  have hT := (hl'.push { cls := .type "slice", data := .fields #[vl, vu, .none] }).typeIs (s := { s₃ with heap := s₃.heap.push { cls := .type "slice", data := .fields #[vl, vu, .none] } })
  have fin : wpAny (model prog w) A (operate [.ref s₃.heap.objs.size, .ref l] (getItem (.ref l) (.ref s₃.heap.objs.size))) (fun r s₄ => wpAny (model prog w) A (letTemporaryGo value (.ref l) r >>= fun _ => pure r) Q E s₄) E
      { s₃ with heap := s₃.heap.push { cls := .type "slice", data := .fields #[vl, vu, .none] } } := by
    refine wpAny_operating (wpAny_getItem_list_slice (hl'.push _) (Heap.IsSliceOf.new ..) pl pu .none (by simp) ?_ hz)
    refine wpAny_bind (wpAny_letTemporaryGo (wpAny_pure ?_))
    exact hQ _ _ ⟨fun b o e _ => Heap.get?_push_of_some _ (Heap.get?_push_of_some _ e), rfl, rfl⟩ (Heap.get?_none_of_le (by simp)) (Heap.get?_push_size _ rfl)
  unfold subscriptTail
  refine wpAny_bind ?_
  rw [getitemInPython_of_ne hT.not_modules]
  refine wpAny_bind (wpAny_specialOf hT list_getitem_lookup ?_)
  first
    | exact wpAny_pure (wpAny_bind fin)
    | exact wpAny_bind (wpAny_pure (wpAny_bind fin))
    | exact wpAny_bind fin
section
variable (P : Params)
theorem g_next' : nsIn (KK P) mainGlobals "_law_next" = some (some (.ref 235)) := by kernel_rfl
theorem g_row' : nsIn (KK P) mainGlobals "_law_row" = some (some (.ref 242)) := by kernel_rfl
theorem keep242 : keepIn (KK P) (.ref 242) = true := by kernel_rfl
end
structure Std (A : Around) (base : Heap) (outer : List Env) (g : Heap) (w : World) (env : Env) (L : Addr) : Prop where
  gd : Gnd (KK w.params) base
  below : Below A base outer g
  rm : Room 90 (A.deeper env)
  fr : env.frame = some L
  fn : env.scope.kind = .function
theorem Std.X {env : Env} (D : Std A base outer g w env L) : (KK w.params).In g := D.gd.inK.keeps D.below.stays
theorem Std.site {env : Env} {d : Nat} (D : Std A base outer g w env L) (W : Wd G O g L s fl news) (hd : d ≤ 90) : Site d (A.deeper env) base (env :: outer) s.heap := site_W D.below W D.rm D.fr D.fn hd
structure DrawAt (S l0 : Addr) (vs : List Value) (ns : List Int) (i c : Int) : Prop where
  hi : IntsAre vs ns
  hlen : ns.length ≤ 100
  hne : l0 ≠ S
  h0 : 0 ≤ i ∧ i ≤ ns.length
  hc : 0 ≤ c ∧ c < 2147483647
theorem ev_next {qual : Str} {sc : Scope} {fa : Addr} {cdv : Value} {cl : List (Str × Addr)} {S l0 : Addr} {vs : List Value} {ns : List Int} {i c many : Int} {t1 t2 : Tok} {m m0 kk : Nat} {p1 p2 p3 p4 : Pos} {Q : Value → Shared → Prop}
    (D : Std A base outer g w (envX qual sc L fa cdv cl) L) (W : Wd G O g L s fl ((S, stO l0 i c t1 t2 m) :: rest)) (hl0 : (l0, lstO vs.toArray m0) ∈ rest) (H : DrawAt S l0 vs ns i c) (hm : 0 < many ∧ many ≤ 1000)
    (hn : ∀ {Q' : Value → Shared → Prop}, Q' (.ref S) s → wpAny (model prog w) (A.deeper (envX qual sc L fa cdv cl)) (eval (.Name "state" p2) (envX qual sc L fa cdv cl)) Q' E s)
    (h : ∀ s' i' c' t1' t2' m' r tk, Wd G O g L s' fl ((S, stO l0 i' c' t1' t2' m') :: rest) → Fx s s' [S] → TupKept s.heap s'.heap → DrawAt S l0 vs ns i' c' → 0 ≤ r ∧ r < many → Q (.int r tk) s')
    (hk : sc.kind = .function := by rfl) (hx : (envX qual sc L fa cdv cl).kindOf "_law_next" = some .globalImplicit := by rfl) :
    wpAny (model prog w) (A.deeper (envX qual sc L fa cdv cl)) (eval (.Call (.Name "_law_next" p1) [.Name "state" p2, .Constant (.int many) kk p3] [] p4) (envX qual sc L fa cdv cl)) Q E s := by
  refine Call_ (kName D.gd W D.below.stays (g_next' _) ?_ hk hx)
  refine callWith_K D.X (keep235 _) (args_cons (hn (args_cons (wpAny_Constant_int (args_nil ?_)))))
  have W1 := W.toks (t := s.toks + 1)
  refine ⟨W1.kin D.X, wpAny_call ?_⟩
  have hl : s.heap.IsList l0 vs.toArray := ⟨_, W.get (.tail _ hl0), rfl, _, rfl⟩
  refine c_next (vs := vs) (ns := ns) D.gd (D.site W1 (by decide)) (W1.own (u := [(S, stO l0 i c t1 t2 m)]) D.below D.fr (fun p hp => by rw [List.mem_singleton.mp hp]; exact .head _) (by simp)) hl H.hi H.hlen H.hne H.h0 H.hc hm fun s₂ i' c' t1' t2' m' r tk ch b7 d7 hj => ?_
  have W2 := W1.chg (old := [(S, stO l0 i c t1 t2 m)]) (.cons .head .nil) ch
  have F2 : Fx s s₂ [S] := ch.fx.of_eq rfl rfl rfl
  exact h s₂ i' c' t1' t2' m' r tk W2 F2 (F2.tup1 (W.get (.head _)) (nt_list _ _)) ⟨H.hi, H.hlen, H.hne, b7, d7⟩ hj
theorem ev_many {qual : Str} {sc : Scope} {fa : Addr} {cdv : Value} {cl : List (Str × Addr)} {S l0 : Addr} {vs : List Value} {ns : List Int} {i c many : Int} {t1 t2 : Tok} {m m0 k1 k2 : Nat} {p1 p2 p3 p4 p5 p6 p7 p8 p9 p10 : Pos} {Q : Value → Shared → Prop}
    (D : Std A base outer g w (envX qual sc L fa cdv cl) L) (W : Wd G O g L s fl ((S, stO l0 i c t1 t2 m) :: rest)) (hl0 : (l0, lstO vs.toArray m0) ∈ rest) (H : DrawAt S l0 vs ns i c) (hm : 0 < many ∧ many ≤ 9)
    (hn : ∀ {s' : Shared} {N : List (Addr × Obj)} {Q' : Value → Shared → Prop} {p : Pos}, Wd G O g L s' fl N → (∀ q ∈ rest, q ∈ N) → Q' (.ref S) s' → wpAny (model prog w) (A.deeper (envX qual sc L fa cdv cl)) (eval (.Name "state" p) (envX qual sc L fa cdv cl)) Q' E s')
    (h : ∀ s' i' c' t1' t2' m' r zs kl, Wd G O g L s' fl ((S, stO l0 i' c' t1' t2' m') :: (r, lstO zs 0) :: rest) → Fx s s' [S] → TupKept s.heap s'.heap → DrawAt S l0 vs ns i' c' → (ekI prog w).All s'.heap zs.toList kl → kl.Nodup → kl.length ≤ 9 → (∀ k ∈ kl, k < 9) → Q (.ref r) s')
    (hk : sc.kind = .function := by rfl) (hx : (envX qual sc L fa cdv cl).kindOf "_law_next" = some .globalImplicit := by rfl) (hx2 : (envX qual sc L fa cdv cl).kindOf "_law_row" = some .globalImplicit := by rfl) :
    wpAny (model prog w) (A.deeper (envX qual sc L fa cdv cl)) (eval (.Subscript (.Call (.Name "_law_row" p1) [.Name "state" p2, .Constant (.int 9) k1 p3] [] p4) (.Slice none (some (.Call (.Name "_law_next" p5) [.Name "state" p6, .Constant (.int many) k2 p7] [] p8)) none p9) p10) (envX qual sc L fa cdv cl)) Q E s := by
  refine slice_genR ?_
  refine Call_ (kName D.gd W D.below.stays (g_row' _) ?_ hk hx2)
  refine callWith_K D.X (keep242 _) (args_cons (hn W (fun q hq => .tail _ hq) (args_cons (wpAny_Constant_int (args_nil ?_)))))
  have W1 := W.toks (t := s.toks + 1)
  refine ⟨W1.kin D.X, wpAny_call ?_⟩
  have hl : s.heap.IsList l0 vs.toArray := ⟨_, W.get (.tail _ hl0), rfl, _, rfl⟩
  refine c_row (vs := vs) (ns := ns) D.gd (D.site W1 (by decide)) (W1.own (u := [(S, stO l0 i c t1 t2 m)]) D.below D.fr (fun p hp => by rw [List.mem_singleton.mp hp]; exact .head _) (by simp)) hl H.hi H.hlen H.hne H.h0 H.hc fun s₂ i' c' t1' t2' m' r xs m2 kl ch b7 d7 a pm => ?_
  have W2 := W1.chg (old := [(S, stO l0 i c t1 t2 m)]) (.cons .head .nil) ch
  have F2 : Fx s s₂ [S] := ch.fx.of_eq rfl rfl rfl
  have T2 := F2.tup1 (W.get (.head _)) (nt_list _ _)
  have W2' : Wd G O g L s₂ fl ((S, stO l0 i' c' t1' t2' m') :: (r, lstO xs m2) :: rest) := W2.perm (.swap _ _ _)
  rw [evalPart_none]
  refine wpAny_pure ?_
  show wpAny _ _ (eval _ _) _ _ _
  refine ev_next D W2' (.tail _ hl0) ⟨H.hi, H.hlen, H.hne, b7, d7⟩ (by omega) (fun q => hn W2' (fun q hq => .tail _ (.tail _ hq)) q) (fun s₃ i3 c3 u1 u2 m3 n tn W3 F3 T3 H3 hn3 => ?_) hk hx
  have kn : kl.Nodup := pm.nodup_iff.mpr (by decide)
  have kz : kl.length = 9 := pm.length_eq
  have sx : xs.size = 9 := by rw [← Array.length_toList, EK.All.length a, kz]
  refine ⟨r, xs, m2, none, some n, rfl, W3.get (.tail _ (.head _)), by rw [sizeLine_eq]; omega, .none, .int _ _, fun s₄ r4 F4 hr4 e4 => ?_⟩
  have W4 := W3.fxNew F4 hr4 e4
  obtain ⟨j, rfl⟩ := Int.eq_ofNat_of_zero_le hn3.1
  rw [slicePick_upto'] at e4
  have W4 := W3.fxNew F4 hr4 e4
  have W5 : Wd G O g L s₄ fl ((S, stO l0 i3 c3 u1 u2 m3) :: (r4, lstO (xs.toList.take j).toArray 0) :: rest) := (W4.perm (.swap _ _ _)).sub (.cons_cons _ (.cons_cons _ (.cons _ (.refl _))))
  have a4 := EK.All.mono (nil_tup F4) (EK.All.mono T3 a)
  refine h s₄ i3 c3 u1 u2 m3 r4 _ (kl.take j) W5 ((F2.trans F3).trans (F4.mono fun b hb => by cases hb)) (T2.trans (T3.trans (nil_tup F4))) H3 ?_ (kn.sublist (List.take_sublist _ _)) (by rw [List.length_take]; omega) (fun k hk => ?_)
  · show All2 _ (xs.toList.take j) _
    exact All2.take a4 j
  · have := pm.mem_iff.mp (List.mem_of_mem_take hk)
    simp only [nine, List.mem_cons, List.not_mem_nil, or_false] at this
    omega
end
end
section
open PySem PySem.W PyProof.Rows PySem.Calls Builtin
set_option Elab.async false
set_option maxRecDepth 100000
set_option pp.deepTerms false
set_option pp.maxSteps 1500
set_option linter.unusedVariables false
section
variable {prog : Program} {w : World} {κ : Type} [DecidableEq κ] {ek : EK prog w κ} {th : SetTh ek}
  {A : Around} {E : Value → Shared → Prop} {s s' s₁ : Shared} {R : Result → Shared → Prop} {x : Addr} {ks kb kl km : List κ} {k : κ} {v v2 : Value} {w0 : List Addr} {name : Str} {id T : String}
  {G : Array GenState} {O : OsState} {g base : Heap} {outer : List Env} {L a r l : Addr} {fl : List (Str × Value)} {news old upd rest foot : List (Addr × Obj)} {ob ob' : Obj} {f : Obj → List (Addr × Obj)} {o o' : Tob} {xs : Array Value} {m : Nat}
theorem osI {th : SetTh (ekI prog w)} {h h' : Heap} {ks : List Int} (O : OS th h o ks) : OS th h' o ks := ⟨O.set, O.row⟩
theorem allI {h h' : Heap} {vs : List Value} {ks : List Int} (a : (ekI prog w).All h vs ks) : (ekI prog w).All h' vs ks := a
theorem Site.in1 {d : Nat} (C : Site (d + 1) A base outer s.heap) : Site d A.in1 base outer s.heap :=
  ⟨⟨C.below.stack, C.below.stays, C.below.frames⟩, ⟨by have := C.rm.room; show A.depth + d < _; omega, by have := C.rm.units; show A.units + 1 + _ < _; omega, C.rm.hand⟩⟩
theorem hint_oset {es : Array (Int × Value)} {n : Nat} {t : SetTable} {ob : Obj} (X : (KK w.params).In s.heap) (S : SO th s.heap x ob es n t ks) (hc : ob.cls = .ref 225) : HintF prog w A s (.ref x) := fun s' E Q F h => by
  have X' : (KK w.params).In s'.heap := X.keeps fun b o e => F.keep b o e (by simp)
  have S' : SO th s'.heap x ob es n t ks := S.fx F (nil_tup F) (by simp)
  have L := S'.special X' PySem.F.slot_set_len (k_len _)
  unfold Builtin.List.listLengthHint
  refine wpAny_bind (L.here ?_)
  generalize hid : ("set.__len__" : String) = id0
  wp_delta
  rw [show splitId id0 = some ("set", "__len__") from by subst hid; decide +kernel]
  subst hid
  refine wpAny_bind ((S'.isSet X').here ?_)
  refine wpAny_ite_split (fun hab => absurd hab (by decide)) (fun _ => ?_)
  refine wpAny_ite_split (fun _ => ?_) (fun hab => absurd (by decide +kernel) hab)
  have ty : Looks (model prog w) s'.heap (typeOf (.ref x)) (.ref 225) := hc ▸ (Looks.ld S'.at_).andThen .now
  refine wpAny_bind (ty.here ?_)
  dsimp only
  refine wpAny_bind ?_
  show wpAny _ _ (call (.builtin "len") [.ref x]) _ _ _
  refine len_SO X' S' fun s'' tk K => ?_
  refine wpAny_bind (wpAny_pure ?_)
  exact wpAny_pure (h _ _ (Fx.of_keeps K []))
theorem list_oset {Q : Value → Shared → Prop} (Gd : Gnd (KK w.params) base) (C : Site 70 A base outer s.heap) (H : There s.heap x o) (hO : OS th s.heap o ks)
    (h : ∀ s' r xs m, Fx s s' [] → s.heap.get? r = none → s'.heap.get? r = some (lstO xs m) → ek.All s'.heap xs.toList ks → Q (.ref r) s') : wpAny (model prog w) A (call (.type "list") [.ref x]) Q E s := by
  have X := Gd.inK.keeps C.below.stays
  have C2 : Site 61 A.in1.in1 base outer s.heap := ⟨C.in1.in1.below, C.in1.in1.rm.mono (by decide)⟩
  refine list_iter (ek := ek) (kl := ks) (T := .ref 225) (C.rm.ok3 (by decide)) H.inst.type (by decide) (by decide) (iter_oset (th := th) Gd C2 H hO) (hint_oset (th := th) X (hO.sot H) rfl) (by have := hO.small; omega) h fun q => ?_
  cases q
  exact absurd (Heap.lt_size H.obj) (Nat.lt_irrefl _)
theorem sort_lst {vs : List Value} {ns : List Int} {Q : Value → Shared → Prop} (hl : s.heap.get? l = some (lstO vs.toArray m)) (hi : IntsAre vs ns) (h64 : vs.length < 64)
    (h : ∀ s' r vs' ns' e, Fx s s' [] → s.heap.get? r = none → s'.heap.get? r = some (lstO vs'.toArray e) → IntsAre vs' ns' → ns'.Perm ns → ns'.Pairwise (· ≤ ·) → Q (.ref r) s') : wpAny (model prog w) A (call (.builtin "sorted") [.ref l]) Q E s := by
  refine sorted_ints ⟨_, hl, rfl, m, rfl⟩ hi h64 fun out ns' a1 a2 a3 => ?_
  obtain ⟨e, he⟩ := sortedAll_at s.heap vs out
  exact h _ _ out.toList ns' e ⟨fun b o eb _ => sortedAll_old eb, rfl, rfl⟩ (Heap.get?_none_of_le (Nat.le_succ _)) (by simpa [seqObj] using he) a1 a2 a3
end
end
section
open PySem PySem.W PyProof.Rows PySem.Calls Builtin
set_option Elab.async false
set_option maxRecDepth 100000
set_option pp.deepTerms false
set_option pp.maxSteps 1500
set_option linter.unusedVariables false
section
variable {prog : Program} {w : World} {κ : Type} [DecidableEq κ] {ek : EK prog w κ} {th : SetTh ek}
  {A : Around} {E : Value → Shared → Prop} {s s' s₁ : Shared} {R : Result → Shared → Prop} {x : Addr} {ks kb kl km : List κ} {k : κ} {v v2 : Value} {w0 : List Addr} {name : Str} {id T : String}
  {G : Array GenState} {O : OsState} {g base : Heap} {outer : List Env} {L a r l : Addr} {fl : List (Str × Value)} {news old upd rest foot : List (Addr × Obj)} {ob ob' : Obj} {f : Obj → List (Addr × Obj)} {o o' : Tob} {xs : Array Value} {m : Nat}
section
variable (P : Params)
theorem g_sorted : nsIn (KK P) mainGlobals "sorted" = some none := by kernel_rfl
theorem g_repr : nsIn (KK P) mainGlobals "repr" = some none := by kernel_rfl
end
theorem Wd.ok3 {env : Env} (D : Std A base outer g w env L) : AOk3 (A.deeper env) := D.rm.ok3 (by decide)
theorem ev_list {qual : Str} {sc : Scope} {fa : Addr} {cdv : Value} {cl : List (Str × Addr)} {th : SetTh (ekI prog w)} {ks : List Int} {tn : Str} {p1 p2 p3 : Pos} {Q : Value → Shared → Prop}
    (D : Std A base outer g w (envX qual sc L fa cdv cl) L) (W : Wd G O g L s fl news) (Hm : ∀ p ∈ o.ents x, p ∈ news) (hO : OS th s.heap o ks)
    (hn : ∀ {Q' : Value → Shared → Prop}, Q' (.ref x) s → wpAny (model prog w) (A.deeper (envX qual sc L fa cdv cl)) (eval (.Name tn p2) (envX qual sc L fa cdv cl)) Q' E s)
    (h : ∀ s' r xs m, Wd G O g L s' fl ((r, lstO xs m) :: news) → (ekI prog w).All s'.heap xs.toList ks → Q (.ref r) s')
    (hk : sc.kind = .function := by rfl) (hx : (envX qual sc L fa cdv cl).kindOf "list" = some .globalImplicit := by rfl) :
    wpAny (model prog w) (A.deeper (envX qual sc L fa cdv cl)) (eval (.Call (.Name "list" p1) [.Name tn p2] [] p3) (envX qual sc L fa cdv cl)) Q E s := by
  refine Call_ (bName (v := .type "list") D.gd W D.below.stays (g_list _) (by kernel_rfl) ?_ (hk := hk) (hx' := hx))
  refine PyProof.Rows.callWith_type1 (args_cons (hn (args_nil ?_)))
  refine list_oset (th := th) D.gd (D.site W (by decide)) (W.there Hm) hO fun s₂ r xs m F hr e a => ?_
  exact h s₂ r xs m (W.fxNew F hr e) a
theorem ne_lists {ks kl : List Int} {l2 : Addr} {ys : Array Value} {m2 : Nat} {Q : Value → Shared → Prop} (hA : AOk3 A) (W : Wd G O g L s fl news) (h1 : (l, lstO xs m) ∈ news) (h2 : (l2, lstO ys m2) ∈ news) (a1 : (ekI prog w).All s.heap xs.toList ks) (a2 : (ekI prog w).All s.heap ys.toList kl)
    (h : ∀ s', Wd G O g L s' fl news → Q (.bool (!decide (ks = kl))) s') : wpAny (model prog w) A (compareOp .NotEq (.ref l) (.ref l2)) Q E s := by
  show wpAny _ _ (richCompare .NotEq _ _) _ _ _
  exact lst_ne (ek := ekI prog w) hA (W.get h1) (W.get h2) a1 a2 fun s' K => h s' (W.fx0 (Fx.of_keeps K []))
theorem eq_lists {ks kl : List Int} {l2 : Addr} {ys : Array Value} {m2 : Nat} {Q : Value → Shared → Prop} (hA : AOk3 A) (W : Wd G O g L s fl news) (h1 : (l, lstO xs m) ∈ news) (h2 : (l2, lstO ys m2) ∈ news) (a1 : (ekI prog w).All s.heap xs.toList ks) (a2 : (ekI prog w).All s.heap ys.toList kl)
    (h : ∀ s', Wd G O g L s' fl news → Q (.bool (decide (ks = kl))) s') : wpAny (model prog w) A (compareOp .Eq (.ref l) (.ref l2)) Q E s := by
  show wpAny _ _ (richCompare .Eq _ _) _ _ _
  exact lst_eq (ek := ekI prog w) hA (W.get h1) (W.get h2) a1 a2 fun s' K => h s' (W.fx0 (Fx.of_keeps K []))
abbrev ten : List Int := [0, 1, 2, 3, 4, 5, 6, 7, 8, 9, 10]
theorem sorted_keys {ks ns : List Int} (nd : ks.Nodup) (sm : ∀ k ∈ ks, 0 ≤ k ∧ k ≤ 10) (pm : ns.Perm ks) (pw : ns.Pairwise (· ≤ ·)) : (ten.filter fun k => decide (k ∈ ks)) = ns := by
  have s1 : (ten.filter fun k => decide (k ∈ ks)).Pairwise (· ≤ ·) := (show ten.Pairwise (· ≤ ·) by decide).sublist List.filter_sublist
  have n1 : (ten.filter fun k => decide (k ∈ ks)).Nodup := (show ten.Nodup by decide).filter _
  have p1 : (ten.filter fun k => decide (k ∈ ks)).Perm ns := by
    refine (List.perm_ext_iff_of_nodup n1 (pm.nodup_iff.mpr nd)).mpr fun k => ?_
    rw [pm.mem_iff, List.mem_filter, decide_eq_true_iff]
    refine ⟨fun z => z.2, fun z => ⟨?_, z⟩⟩
    obtain ⟨h0, h1⟩ := sm k z
    have : k = 0 ∨ k = 1 ∨ k = 2 ∨ k = 3 ∨ k = 4 ∨ k = 5 ∨ k = 6 ∨ k = 7 ∨ k = 8 ∨ k = 9 ∨ k = 10 := by omega
    simp only [ten, List.mem_cons, List.not_mem_nil, or_false]
    exact this
  exact p1.eq_of_pairwise (fun a b _ _ h1 h2 => Int.le_antisymm h1 h2) s1 pw
theorem ints_of {h : Heap} : ∀ {vs : List Value} {ks : List Int}, (ekI prog w).All h vs ks → IntsAre vs ks
  | _, _, .nil => .nil
  | _, _, .cons (b := k) hk r => by
    obtain ⟨t, rfl⟩ := ek_int hk
    exact .cons k t (ints_of r)
theorem all_of_ints {h : Heap} : ∀ {vs : List Value} {ks : List Int}, IntsAre vs ks → (∀ k ∈ ks, 0 ≤ k ∧ k ≤ 10) → (ekI prog w).All h vs ks
  | _, _, .nil, _ => .nil
  | _, _, .cons k t r, hk => .cons (is_int (hk k (.head _)).1 (hk k (.head _)).2) (all_of_ints r fun x hx => hk x (.tail _ hx))
theorem ev_sorted {qual : Str} {sc : Scope} {fa : Addr} {cdv : Value} {cl : List (Str × Addr)} {ks : List Int} {tn : Str} {p1 p2 p3 : Pos} {Q : Value → Shared → Prop}
    (D : Std A base outer g w (envX qual sc L fa cdv cl) L) (W : Wd G O g L s fl news) (hm : (l, lstO xs m) ∈ news) (a : (ekI prog w).All s.heap xs.toList ks) (hz : ks.length ≤ 12)
    (hn : ∀ {Q' : Value → Shared → Prop}, Q' (.ref l) s → wpAny (model prog w) (A.deeper (envX qual sc L fa cdv cl)) (eval (.Name tn p2) (envX qual sc L fa cdv cl)) Q' E s)
    (h : ∀ s' r xs m ns, Wd G O g L s' fl ((r, lstO xs m) :: news) → (ekI prog w).All s'.heap xs.toList ns → ns.Perm ks → ns.Pairwise (· ≤ ·) → Q (.ref r) s')
    (hk : sc.kind = .function := by rfl) (hx : (envX qual sc L fa cdv cl).kindOf "sorted" = some .globalImplicit := by rfl) :
    wpAny (model prog w) (A.deeper (envX qual sc L fa cdv cl)) (eval (.Call (.Name "sorted" p1) [.Name tn p2] [] p3) (envX qual sc L fa cdv cl)) Q E s := by
  refine Call_ (bName (v := .builtin "sorted") D.gd W D.below.stays (g_sorted _) (by kernel_rfl) ?_ (hk := hk) (hx' := hx))
  refine PyProof.Rows.callWith_builtin1 (args_cons (hn (args_nil ?_)))
  refine sort_lst (vs := xs.toList) (ns := ks) (m := m) (by simpa using W.get hm) (ints_of a) (by rw [EK.All.length a]; omega) fun s₂ r vs' ns' e F hr e2 i2 pm pw => ?_
  exact h s₂ r vs'.toArray e ns' (W.fxNew F hr e2) (all_of_ints (by simpa using i2) fun k hk => kl_small a k (pm.mem_iff.mp hk)) pm pw
theorem ev_leno {qual : Str} {sc : Scope} {fa : Addr} {cdv : Value} {cl : List (Str × Addr)} {th : SetTh (ekI prog w)} {ks : List Int} {tn : Str} {p1 p2 p3 : Pos} {Q : Value → Shared → Prop}
    (D : Std A base outer g w (envX qual sc L fa cdv cl) L) (W : Wd G O g L s fl news) (Hm : ∀ p ∈ o.ents x, p ∈ news) (hO : OS th s.heap o ks)
    (hn : ∀ {Q' : Value → Shared → Prop}, Q' (.ref x) s → wpAny (model prog w) (A.deeper (envX qual sc L fa cdv cl)) (eval (.Name tn p2) (envX qual sc L fa cdv cl)) Q' E s)
    (h : ∀ s' tk, Wd G O g L s' fl news → Q (.int ks.length tk) s')
    (hk : sc.kind = .function := by rfl) (hx : (envX qual sc L fa cdv cl).kindOf "len" = some .globalImplicit := by rfl) :
    wpAny (model prog w) (A.deeper (envX qual sc L fa cdv cl)) (eval (.Call (.Name "len" p1) [.Name tn p2] [] p3) (envX qual sc L fa cdv cl)) Q E s := by
  refine Call_ (bName (v := .builtin "len") D.gd W D.below.stays (g_len _) (by kernel_rfl) ?_ (hk := hk) (hx' := hx))
  refine PyProof.Rows.callWith_builtin1 (args_cons (hn (args_nil ?_)))
  exact len_SO (th := th) (W.kin D.X) (hO.sot (W.there Hm)) fun s' tk K => h s' tk (W.fx0 (Fx.of_keeps K []))
theorem ev_lenl {qual : Str} {sc : Scope} {fa : Addr} {cdv : Value} {cl : List (Str × Addr)} {ks : List Int} {tn : Str} {p1 p2 p3 : Pos} {Q : Value → Shared → Prop}
    (D : Std A base outer g w (envX qual sc L fa cdv cl) L) (W : Wd G O g L s fl news) (hm : (l, lstO xs m) ∈ news) (a : (ekI prog w).All s.heap xs.toList ks) (hz : ks.length ≤ 10000)
    (hn : ∀ {Q' : Value → Shared → Prop}, Q' (.ref l) s → wpAny (model prog w) (A.deeper (envX qual sc L fa cdv cl)) (eval (.Name tn p2) (envX qual sc L fa cdv cl)) Q' E s)
    (h : ∀ s' tk, Wd G O g L s' fl news → Q (.int ks.length tk) s')
    (hk : sc.kind = .function := by rfl) (hx : (envX qual sc L fa cdv cl).kindOf "len" = some .globalImplicit := by rfl) :
    wpAny (model prog w) (A.deeper (envX qual sc L fa cdv cl)) (eval (.Call (.Name "len" p1) [.Name tn p2] [] p3) (envX qual sc L fa cdv cl)) Q E s := by
  refine Call_ (bName (v := .builtin "len") D.gd W D.below.stays (g_len _) (by kernel_rfl) ?_ (hk := hk) (hx' := hx))
  refine PyProof.Rows.callWith_builtin1 (args_cons (hn (args_nil ?_)))
  have sz : xs.size = ks.length := by rw [← Array.length_toList, EK.All.length a]
  refine Calls.call_len_list ⟨_, W.get hm, rfl, m, rfl⟩ (by omega) ?_
  rw [sz]
  exact h _ _ W.toks
theorem ne_set {qual : Str} {sc : Scope} {fa : Addr} {cdv : Value} {cl : List (Str × Addr)} {th : SetTh (ekI prog w)} {ks : List Int} {tn : Str} {p1 p2 p3 : Pos} {Q : Value → Shared → Prop}
    (D : Std A base outer g w (envX qual sc L fa cdv cl) L) (W : Wd G O g L s fl news) (hm : (l, lstO xs m) ∈ news) (a : (ekI prog w).All s.heap xs.toList ks) (Hm : ∀ p ∈ o.ents x, p ∈ news) (hO : OS th s.heap o ks)
    (hn : ∀ {Q' : Value → Shared → Prop}, Q' (.ref l) s → wpAny (model prog w) (A.deeper (envX qual sc L fa cdv cl)) (eval (.Name tn p2) (envX qual sc L fa cdv cl)) Q' E s)
    (h : ∀ s', Wd G O g L s' fl news → Q (.bool false) s')
    (hk : sc.kind = .function := by rfl) (hx : (envX qual sc L fa cdv cl).kindOf "set" = some .globalImplicit := by rfl) :
    wpAny (model prog w) (A.deeper (envX qual sc L fa cdv cl)) (eval (.Call (.Name "set" p1) [.Name tn p2] [] p3) (envX qual sc L fa cdv cl)) (fun b s' => wpAny (model prog w) (A.deeper (envX qual sc L fa cdv cl)) (compareOp .NotEq (.ref x) b) Q E s') E s := by
  refine Call_ (setName D.gd W D.below.stays ?_ hk hx)
  refine PyProof.Rows.callWith_type1 (args_cons (hn (args_nil ?_)))
  have op : OpK th s.heap (.ref l) ks [l] := .list l xs m rfl (W.get hm) a
  refine set_call (th := th) (kl := ks) (w0 := []) (Wd.ok3 D) (op.opd _) (fun b o' q e' => ?_) fun s₂ r es n t F2 hr S2 => ?_
  · cases q; rw [W.get hm] at e'; cases e'; simp
  have W2 := W.fx0 F2
  rw [addAll_nodup hO.set.nodup] at S2
  show wpAny _ _ (richCompare .NotEq _ _) _ _ _
  refine ne_SO (th := th) (Wd.ok3 D) (W2.kin D.X) ((osI (h' := s₂.heap) hO).sot (W2.there Hm)) S2 rfl rfl fun s₃ F3 => ?_
  rw [decide_eq_true (List.Perm.refl _)]
  exact h s₃ (W2.fx0 F3)
end
end
section
open PySem PySem.W PyProof.Rows PySem.Calls Builtin
set_option Elab.async false
set_option maxRecDepth 100000
set_option pp.deepTerms false
set_option pp.maxSteps 1500
set_option linter.unusedVariables false
section
variable {prog : Program} {w : World} {κ : Type} [DecidableEq κ] {ek : EK prog w κ} {th : SetTh ek}
  {A : Around} {E : Value → Shared → Prop} {s s' s₁ : Shared} {R : Result → Shared → Prop} {x : Addr} {ks kb kl km : List κ} {k : κ} {v v2 : Value} {w0 : List Addr} {name : Str} {id T : String}
  {G : Array GenState} {O : OsState} {g base : Heap} {outer : List Env} {L a r l : Addr} {fl : List (Str × Value)} {news old upd rest foot : List (Addr × Obj)} {ob ob' : Obj} {f : Obj → List (Addr × Obj)} {o o' : Tob} {xs : Array Value} {m : Nat}
theorem cName {y : Str} {v : Value} {Q : Value → Shared → Prop} {qual : Str} {sc sc2 : Scope} {fa C : Addr} {cdv : Value} {cl cl2 : List (Str × Addr)} {np : Pos} (Gd : Gnd (KK w.params) base) (W : Wd G O g L s fl news) (B : base.StaysIn g) (e : nsIn (KK w.params) mainGlobals y = some (some v)) (h : Q v s)
    (hk : sc2.kind = .function := by rfl) (hx' : (compEnvC sc2 cl2 C (envX qual sc L fa cdv cl)).kindOf y = some .globalImplicit := by rfl) (hd : (y == ("__debug__" : Str)) = false := by decide) :
    wpAny (model prog w) A (eval (.Name y np) (compEnvC sc2 cl2 C (envX qual sc L fa cdv cl))) Q E s := by
  obtain ⟨p, lo, mg, mb, T⟩ := Gd.top
  have T' := T.keeps B
  exact Name_function_global (show (relabel sc2 _).kind = _ from hk) hx' (loadGlobal_global (env := compEnvC sc2 cl2 C (envX qual sc L fa cdv cl)) (T'.g.keeps W.fr.keep) (mg_of (Gd.inK.keeps B) T'.g e) h) hd
theorem ev_nextG {env env' : Env} {S l0 : Addr} {vs : List Value} {ns : List Int} {i c many : Int} {t1 t2 : Tok} {m m0 kk : Nat} {p1 p2 p3 p4 : Pos} {Q : Value → Shared → Prop}
    (D : Std A base outer g w env L) (W : Wd G O g L s fl news) (P : Ext [(S, stO l0 i c t1 t2 m)] news rest) (hl0 : (l0, lstO vs.toArray m0) ∈ news) (H : DrawAt S l0 vs ns i c) (hm : 0 < many ∧ many ≤ 1000)
    (hnx : ∀ {Q' : Value → Shared → Prop}, Q' (.ref 235) s → wpAny (model prog w) (A.deeper env) (eval (.Name "_law_next" p1) env') Q' E s)
    (hn : ∀ {Q' : Value → Shared → Prop}, Q' (.ref S) s → wpAny (model prog w) (A.deeper env) (eval (.Name "state" p2) env') Q' E s)
    (h : ∀ s' i' c' t1' t2' m' r tk, Wd G O g L s' fl ((S, stO l0 i' c' t1' t2' m') :: rest) → Fx s s' [S] → DrawAt S l0 vs ns i' c' → 0 ≤ r ∧ r < many → Q (.int r tk) s') :
    wpAny (model prog w) (A.deeper env) (eval (.Call (.Name "_law_next" p1) [.Name "state" p2, .Constant (.int many) kk p3] [] p4) env') Q E s := by
  refine Call_ (hnx ?_)
  refine callWith_K D.X (keep235 _) (args_cons (hn (args_cons (wpAny_Constant_int (args_nil ?_)))))
  have W1 := W.toks (t := s.toks + 1)
  refine ⟨W1.kin D.X, wpAny_call ?_⟩
  have hl : s.heap.IsList l0 vs.toArray := ⟨_, W.get hl0, rfl, _, rfl⟩
  refine c_next (vs := vs) (ns := ns) D.gd (D.site W1 (by decide)) (W1.own (u := [(S, stO l0 i c t1 t2 m)]) D.below D.fr (fun p hp => P.perm.mem_iff.mpr (List.mem_append_left _ hp)) (by simp)) hl H.hi H.hlen H.hne H.h0 H.hc hm fun s₂ i' c' t1' t2' m' r tk ch b7 d7 hj => ?_
  have W2 := W1.chg (old := [(S, stO l0 i c t1 t2 m)]) P ch
  exact h s₂ i' c' t1' t2' m' r tk W2 (ch.fx.of_eq rfl rfl rfl) ⟨H.hi, H.hlen, H.hne, b7, d7⟩ hj
theorem walks_bound {I : Addr} {fp wr : List Addr} {n : Nat} {P : Nat → Value → Prop} {St : Nat → Heap → Prop} (W : Walks prog w A I fp wr n P St) : Walks prog w A I fp wr n (fun i v => i < n ∧ P i v) St where
  sub := W.sub
  frame := W.frame
  item := fun i s Q E hi st hQ => W.item i s Q E hi st fun v h' tk hp => hQ v h' tk ⟨hi, hp⟩
  done := W.done
  self := W.self
theorem feed_ten {I : Addr} (hI : IsRangeIter s.heap I 0 11 1) : Feeding (ekI prog w) s I [I] [I] ten (fun i v => i < 11 ∧ ∃ t, v = .int (0 + i * 1) t) (fun i h => IsRangeIter h I (0 + (i : Nat) * 1) ((11 : Nat) - (i : Nat)) 1) where
  walks := fun A hh => walks_bound (walk_range hh I 0 1 11)
  start := by simpa using hI
  keys := fun i v ⟨hi, t, e⟩ => by
    subst e
    refine ⟨(i : Int), ?_, ?_⟩
    · have : i = 0 ∨ i = 1 ∨ i = 2 ∨ i = 3 ∨ i = 4 ∨ i = 5 ∨ i = 6 ∨ i = 7 ∨ i = 8 ∨ i = 9 ∨ i = 10 := by omega
      rcases this with rfl | rfl | rfl | rfl | rfl | rfl | rfl | rfl | rfl | rfl | rfl <;> rfl
    · rw [show (0 : Int) + (i : Int) * 1 = i by omega]
      exact is_int (by omega) (by omega)
  noSet := fun b hb => by rw [List.mem_singleton.mp hb]; exact ⟨_, hI, fun _ _ _ q => by cases q⟩
  wrNT := fun i h st b hb => by rw [List.mem_singleton.mp hb]; exact ⟨_, st, by show Value.type "range_iterator" ≠ _; decide⟩
abbrev inScope : Scope := { kind := .function, names := [(".0", .local), ("x", .local), ("told", .free)], isGenerator := false, isCoroutine := false }
theorem ev_in11 {qual : Str} {sc : Scope} {fa c : Addr} {cdv : Value} {cl : List (Str × Addr)} {th : SetTh (ekI prog w)} {ks : List Int} {co : Obj} {kk : Nat} {e1 e2 p1 p2 p3 p4 p5 p6 pos : Pos} {Q : Value → Shared → Prop}
    (D : Std A base outer g w (envX qual sc L fa cdv cl) L) (W : Wd G O g L s fl news) (Hm : ∀ p ∈ o.ents x, p ∈ news) (hO : OS th s.heap o ks) (hm : (c, co) ∈ news) (hcd : co.data = .cell (some (.ref x)))
    (hclos : closureFor inScope (envX qual sc L fa cdv cl) = pure [(("told" : Str), c)])
    (h : ∀ s' r xs m, Wd G O g L s' fl ((r, lstO xs m) :: news) → (ekI prog w).All s'.heap xs.toList (ten.filter fun k => decide (k ∈ ks)) → Q (.ref r) s')
    (hct : ∀ C, (compEnvC inScope [("told", c)] C (envX qual sc L fa cdv cl)).kindOf "told" = some .cell := by intro C; rfl)
    (hk : sc.kind = .function := by rfl) (hx : (envX qual sc L fa cdv cl).kindOf "range" = some .globalImplicit := by rfl) :
    wpAny (model prog w) (A.deeper (envX qual sc L fa cdv cl)) (eval (.ListComp (.Name "x" e1) [⟨.Name "x" e2, .Call (.Name "range" p1) [.Constant (.int 11) kk p2] [] p3, [.Compare (.Name "x" p4) [.In] [.Name "told" p5] p6], 0⟩] inScope pos) (envX qual sc L fa cdv cl)) Q E s := by
  refine comp_filter (ek := ekI prog w) (kl := ten) (cl := [("told", c)]) (fun k => decide (k ∈ ks)) hclos (by decide) rfl (by decide) rfl (by decide) ?_ D.rm.hand
  refine Call_ (bName (v := .type "range") D.gd W D.below.stays (g_range _) (by kernel_rfl) ?_ (hk := hk) (hx' := hx))
  refine PyProof.Rows.callWith_type1 (args_cons (wpAny_Constant_int (args_nil ?_)))
  refine range1_iter (n := 11) (by decide +kernel) (by decide +kernel) fun s₂ I F hI hit => ?_
  have F2 : Fx s s₂ [] := F.of_eq rfl rfl rfl
  have hI : s.heap.get? I = none := hI
  have W2 := W.fx0 F2
  refine ⟨I, [I], [I], _, _, rfl, feed_ten hit, by decide, fun b hb => by rw [List.mem_singleton.mp hb]; exact Heap.lt_size hit, ?_, ?_⟩
  · intro C s₃ m₃ v k E' hns hm' hkp hisk
    have kp : ∀ b ob, s.heap.get? b = some ob → s₃.heap.get? b = some ob := fun b ob e => hkp b ob (fun m => by rw [List.mem_singleton.mp m, hI] at e; cases e) (F2.keep _ _ e (by simp))
    refine wpAny_isTrue_Compare1 (wpAny_Name (wpAny_loadName_local rfl rfl hns hm' ?_) rfl)
    refine wpAny_Name (wpAny_loadName_cell rfl (hct C) rfl ⟨co, kp _ _ (W.get hm), hcd⟩ ?_) rfl
    refine inOp_SO (th := th) (Wd.ok3 D) ((W.kin D.X).keeps kp) ((osI (h' := s₃.heap) hO).sot ((W.there Hm).up kp)) hisk fun s₄ K => wpAny_truthy_bool ⟨rfl, K⟩
  · intro s' r xs m F3 hr e3 a
    have hr' : s.heap.get? r = none := by
      cases q : s.heap.get? r with
      | none => rfl
      | some ob => rw [F2.keep _ _ q (by simp)] at hr; cases hr
    refine h s' r xs m (W.fxNew ⟨fun b ob e _ => F3.keep _ _ (F2.keep _ _ e (by simp)) (fun m => by rw [List.mem_singleton.mp m, hI] at e; cases e), F3.gens.trans F2.gens, F3.os.trans F2.os⟩ hr' e3) a
abbrev neScope : Scope := { kind := .function, names := [(".0", .local), ("x", .local), ("one", .free)], isGenerator := false, isCoroutine := false }
theorem ev_ne1 {qual : Str} {sc : Scope} {fa c : Addr} {cdv : Value} {cl : List (Str × Addr)} {ks : List Int} {k1 : Int} {tk : Tok} {co : Obj} {hn : Str} {e1 e2 p1 p4 p5 p6 pos : Pos} {Q : Value → Shared → Prop}
    (D : Std A base outer g w (envX qual sc L fa cdv cl) L) (W : Wd G O g L s fl news) (hl : (l, lstO xs m) ∈ news) (a : (ekI prog w).All s.heap xs.toList ks) (hz : ks.length ≤ 10000) (hm : (c, co) ∈ news) (hcd : co.data = .cell (some (.int k1 tk)))
    (hclos : closureFor neScope (envX qual sc L fa cdv cl) = pure [(("one" : Str), c)])
    (hh : ∀ {Q' : Value → Shared → Prop}, Q' (.ref l) s → wpAny (model prog w) (A.deeper (envX qual sc L fa cdv cl)) (eval (.Name hn p1) (envX qual sc L fa cdv cl)) Q' E s)
    (h : ∀ s' r xs m, Wd G O g L s' fl ((r, lstO xs m) :: news) → (ekI prog w).All s'.heap xs.toList (ks.filter fun k => decide (k ≠ k1)) → Q (.ref r) s')
    (hct : ∀ C, (compEnvC neScope [("one", c)] C (envX qual sc L fa cdv cl)).kindOf "one" = some .cell := by intro C; rfl)
    (hs : ∀ x, foldedSetIterable (.Name hn p1) (envX qual sc L fa cdv cl) x = pure x := by intro _; rfl) :
    wpAny (model prog w) (A.deeper (envX qual sc L fa cdv cl)) (eval (.ListComp (.Name "x" e1) [⟨.Name "x" e2, .Name hn p1, [.Compare (.Name "x" p4) [.NotEq] [.Name "one" p5] p6], 0⟩] neScope pos) (envX qual sc L fa cdv cl)) Q E s := by
  refine comp_lst (ek := ekI prog w) (kl := ks) (cl := [("one", c)]) (fun k => decide (k ≠ k1)) hclos (by decide) rfl (by decide) rfl (by decide) D.rm.hand (W.get hl) a hz hh ?_ ?_ hs
  · intro C s₃ m₃ v k E' hns hm' kp hisk
    obtain ⟨t, rfl⟩ := ek_int hisk
    refine wpAny_isTrue_Compare1 (wpAny_Name (wpAny_loadName_local rfl rfl hns hm' ?_) rfl)
    refine wpAny_Name (wpAny_loadName_cell rfl (hct C) rfl ⟨co, kp _ _ (W.get hm), hcd⟩ ?_) rfl
    refine PySem.P.ne_int (wpAny_truthy_bool ⟨?_, kp_self _⟩)
    by_cases q : k = k1 <;> simp [q]
  · intro s' r xs m F3 hr e3 a
    exact h s' r xs m (W.fxNew F3 hr e3) a
end
end
section
open PySem PySem.W PyProof.Rows PySem.Calls Builtin
set_option Elab.async false
set_option maxRecDepth 100000
set_option pp.deepTerms false
set_option pp.maxSteps 1500
set_option linter.unusedVariables false
section
variable {prog : Program} {w : World} {κ : Type} [DecidableEq κ] {ek : EK prog w κ} {th : SetTh ek}
  {A : Around} {E : Value → Shared → Prop} {s s' s₁ : Shared} {R : Result → Shared → Prop} {x : Addr} {ks kb kl km : List κ} {k : κ} {v v2 : Value} {w0 : List Addr} {name : Str} {id T : String}
  {G : Array GenState} {O : OsState} {g base : Heap} {outer : List Env} {L a r l : Addr} {fl : List (Str × Value)} {news old upd rest foot : List (Addr × Obj)} {ob ob' : Obj} {f : Obj → List (Addr × Obj)} {o o' : Tob} {xs : Array Value} {m : Nat}
section
variable (P : Params)
theorem b_getitem : findIn (KK P) (.ref 225) "__getitem__" = some (some (.ref 100)) := by kernel_rfl
theorem fn_100 : fnIn (KK P) 100 = true := by kernel_rfl
theorem isfn_100 : isFn (KK P) (.ref 100) = true := by kernel_rfl
end
abbrev kScope : Scope := { kind := .function, names := [(".0", .local), ("k", .local), ("told", .free)], isGenerator := false, isCoroutine := false }
theorem small_range : ∀ n : Nat, n ≤ 12 → Builtin.Range.small 0 (n : Int) 1 = true ∧ Builtin.Range.rangeSize 0 (n : Int) 1 = n := by decide +kernel
theorem ev_toldk {qual : Str} {sc : Scope} {fa c : Addr} {cdv : Value} {cl : List (Str × Addr)} {th : SetTh (ekI prog w)} {ks : List Int} {co : Obj} {hn : Str} {e1 e2 e3 p1 p2 p3 p4 p5 p6 pos : Pos} {Q : Value → Shared → Prop}
    (D : Std A base outer g w (envX qual sc L fa cdv cl) L) (W : Wd G O g L s fl news) (Hm : ∀ p ∈ o.ents x, p ∈ news) (hO : OS th s.heap o ks) (hl : (l, lstO xs m) ∈ news) (a : (ekI prog w).All s.heap xs.toList ks) (hm : (c, co) ∈ news) (hcd : co.data = .cell (some (.ref x)))
    (hclos : closureFor kScope (envX qual sc L fa cdv cl) = pure [(("told" : Str), c)])
    (hh : ∀ {Q' : Value → Shared → Prop}, Q' (.ref l) s → wpAny (model prog w) (A.deeper (envX qual sc L fa cdv cl)) (eval (.Name hn p3) (envX qual sc L fa cdv cl)) Q' E s)
    (h : ∀ s' r xs m, Wd G O g L s' fl ((r, lstO xs m) :: news) → (ekI prog w).All s'.heap xs.toList ks → Q (.ref r) s')
    (hct : ∀ C, (compEnvC kScope [("told", c)] C (envX qual sc L fa cdv cl)).kindOf "told" = some .cell := by intro C; rfl)
    (hk : sc.kind = .function := by rfl) (hx : (envX qual sc L fa cdv cl).kindOf "range" = some .globalImplicit := by rfl) (hx2 : (envX qual sc L fa cdv cl).kindOf "len" = some .globalImplicit := by rfl) :
    wpAny (model prog w) (A.deeper (envX qual sc L fa cdv cl)) (eval (.ListComp (.Subscript (.Name "told" e1) (.Name "k" e2) e3) [⟨.Name "k" p1, .Call (.Name "range" p2) [.Call (.Name "len" p4) [.Name hn p3] [] p5] [] p6, [], 0⟩] kScope pos) (envX qual sc L fa cdv cl)) Q E s := by
  have hz := hO.small
  obtain ⟨sm1, sm2⟩ := small_range ks.length hz
  refine comp_W (G := G) (O := O) (g := g) (L := L) (fl := fl) (cl := [("told", c)]) (n := ks.length) (as := []) (fun i s' nw ys => nw = news ∧ (ekI prog w).All s'.heap ys.toList (ks.take i)) hclos (by decide) rfl (by decide) rfl (by omega) (fun i s s' nw ys z _ => z) ?_
  refine Call_ (bName (v := .type "range") D.gd W D.below.stays (g_range _) (by kernel_rfl) ?_ (hk := hk) (hx' := hx))
  refine PyProof.Rows.callWith_type1 (args_cons (ev_lenl D W hl a (by omega) hh (fun s₁ tk W1 => args_nil ?_) hk hx2))
  refine range1_iter (n := ks.length) sm1 sm2 fun s₂ I F hI hit => ?_
  have W2 := W1.fx0 F
  have fr := W1.fresh hI
  have sz : o.xs.size = ks.length := hO.size
  refine ⟨I, [I], [I], _, _, news, rfl, walks_bound (walk_range D.rm.hand I 0 1 ks.length), by simpa using hit, W2, ⟨rfl, .nil⟩, fun b hb => by rw [List.mem_singleton.mp hb]; exact Heap.lt_size hit, hwr1 fr, ?_, (fun a ha => by cases ha), ?_, ?_⟩
  · intro i h st b hb
    rw [List.mem_singleton.mp hb]
    exact ⟨_, st, by show Value.type "range_iterator" ≠ _; decide⟩
  · rintro i D' C v s₃ nw co' ys m mm E' hlt ⟨_, t, rfl⟩ W3 hns hmk ⟨enw, aj⟩ _
    subst enw
    rw [show (0 : Int) + (i : Int) * 1 = i by omega] at hmk
    refine Subscript_ (wpAny_Name (wpAny_loadName_cell rfl (hct C) rfl ⟨co, W3.get (.tail _ (.tail _ hm)), hcd⟩ ?_) rfl)
    refine wpAny_Name (wpAny_loadName_local rfl rfl hns hmk ?_) rfl
    have H3 : There s₃.heap x o := W3.there fun p hp => .tail _ (.tail _ (Hm p hp))
    refine sub_K W3.fr D.X H3.inst (b_getitem _) (fn_100 _) (isfn_100 _) (wpAny_call ?_)
    have C3 := (D.site W3 (d := 61) (by decide)).in1
    have hix : o.xs[i]? = some (o.xs[i]'(by omega)) := Array.getElem?_eq_getElem _
    refine c_getitem (i := i) (v := o.xs[i]'(by omega)) D.gd C3 H3 hix (by omega) fun s₄ ch => ?_
    refine ⟨nw, W3.chg (old := []) .nil ch, ch.fx, fun p hp => .inl (List.mem_map_of_mem hp), rfl, ?_⟩
    have gi : (ekI prog w).is s₄.heap (ks[i]'hlt) (o.xs[i]'(by omega)) := by
      obtain ⟨b, hb, hr⟩ := All2.get hO.row (i := i) (a := o.xs[i]'(by omega)) (by simp [sz, hlt])
      rw [List.getElem?_eq_getElem hlt] at hb; cases hb; exact hr
    rw [Array.toList_push, List.take_succ_eq_append_getElem hlt]
    exact All2.app aj (.cons gi .nil)
  · rintro s' D' nw ys m W' ⟨enw, aj⟩
    subst enw
    rw [List.take_length] at aj
    exact h s' D' ys m W' aj
end
end
section
open PySem PySem.W PyProof.Rows PySem.Calls Builtin
set_option Elab.async false
set_option maxRecDepth 100000
set_option pp.deepTerms false
set_option pp.maxSteps 1500
set_option linter.unusedVariables false
section
variable {prog : Program} {w : World} {κ : Type} [DecidableEq κ] {ek : EK prog w κ} {th : SetTh ek}
  {A : Around} {E : Value → Shared → Prop} {s s' s₁ : Shared} {R : Result → Shared → Prop} {x : Addr} {ks kb kl km : List κ} {k : κ} {v v2 : Value} {w0 : List Addr} {name : Str} {id T : String}
  {G : Array GenState} {O : OsState} {g base : Heap} {outer : List Env} {L a r l : Addr} {fl : List (Str × Value)} {news old upd rest foot : List (Addr × Obj)} {ob ob' : Obj} {f : Obj → List (Addr × Obj)} {o o' : Tob} {xs : Array Value} {m : Nat}
abbrev rowScope : Scope := { kind := .function, names := [(".0", .local), ("_", .local), ("_law_next", .globalImplicit), ("state", .free)], isGenerator := false, isCoroutine := false }
theorem ev_row0 {qual : Str} {sc : Scope} {fa c : Addr} {cdv : Value} {cl : List (Str × Addr)} {S l0 : Addr} {vs : List Value} {ns : List Int} {i c0 : Int} {t1 t2 : Tok} {m m0 k1 k2 : Nat} {co : Obj} {p1 p2 p3 p4 p5 p6 p7 p8 p9 p10 p11 pos : Pos} {Q : Value → Shared → Prop}
    (D : Std A base outer g w (envX qual sc L fa cdv cl) L) (W : Wd G O g L s fl ((S, stO l0 i c0 t1 t2 m) :: rest)) (hl0 : (l0, lstO vs.toArray m0) ∈ rest) (H : DrawAt S l0 vs ns i c0) (hm : (c, co) ∈ rest) (hcd : co.data = .cell (some (.ref S)))
    (hclos : closureFor rowScope (envX qual sc L fa cdv cl) = pure [(("state" : Str), c)])
    (hn : ∀ {Q' : Value → Shared → Prop}, Q' (.ref S) s → wpAny (model prog w) (A.deeper (envX qual sc L fa cdv cl)) (eval (.Name "state" p2) (envX qual sc L fa cdv cl)) Q' E s)
    (h : ∀ s' r xs m2 i' c' t1' t2' m' kl, Wd G O g L s' fl ((r, lstO xs m2) :: (S, stO l0 i' c' t1' t2' m') :: rest) → DrawAt S l0 vs ns i' c' → (ekI prog w).All s'.heap xs.toList kl → kl.length ≤ 6 → (∀ k ∈ kl, k < 9) → Q (.ref r) s')
    (hct : ∀ C, (compEnvC rowScope [("state", c)] C (envX qual sc L fa cdv cl)).kindOf "state" = some .cell := by intro C; rfl)
    (hcn : ∀ C, (compEnvC rowScope [("state", c)] C (envX qual sc L fa cdv cl)).kindOf "_law_next" = some .globalImplicit := by intro C; rfl)
    (hk : sc.kind = .function := by rfl) (hx : (envX qual sc L fa cdv cl).kindOf "range" = some .globalImplicit := by rfl) (hx2 : (envX qual sc L fa cdv cl).kindOf "_law_next" = some .globalImplicit := by rfl) :
    wpAny (model prog w) (A.deeper (envX qual sc L fa cdv cl)) (eval (.ListComp (.Call (.Name "_law_next" p5) [.Name "state" p6, .Constant (.int 9) k1 p7] [] p8) [⟨.Name "_" p9, .Call (.Name "range" p10) [.Call (.Name "_law_next" p1) [.Name "state" p2, .Constant (.int 7) k2 p3] [] p4] [] p11, [], 0⟩] rowScope pos) (envX qual sc L fa cdv cl)) Q E s := by
  refine comp_WN (G := G) (O := O) (g := g) (L := L) (fl := fl) (cl := [("state", c)]) (as := [S]) (fun j s' nw ys => ∃ i' c' t1' t2' m', ∃ kl : List Int, nw = (S, stO l0 i' c' t1' t2' m') :: rest ∧ DrawAt S l0 vs ns i' c' ∧ kl.length = j ∧ (ekI prog w).All s'.heap ys.toList kl ∧ ∀ k ∈ kl, k < 9)
    hclos (by decide) rfl (by decide) rfl (fun i s s' nw ys z _ => z) ?_
  refine Call_ (bName (v := .type "range") D.gd W D.below.stays (g_range _) (by kernel_rfl) ?_ (hk := hk) (hx' := hx))
  refine PyProof.Rows.callWith_type1 (args_cons ?_)
  refine ev_nextG D W (.cons .head .nil) (.tail _ hl0) H (by decide) (fun q => kName D.gd W D.below.stays (g_next' _) q hk hx2) hn fun s₁ i1 c1 u1 u2 m1 r tk W1 F1 H1 hr => args_nil ?_
  obtain ⟨n, rfl⟩ := Int.eq_ofNat_of_zero_le hr.1
  have hn6 : n ≤ 6 := by omega
  obtain ⟨sm1, sm2⟩ := small_range n (by omega)
  refine range1_iter (n := n) sm1 sm2 fun s₂ I F hI hit => ?_
  have W2 := W1.fx0 F
  have fr := W1.fresh hI
  have hSI : S ≠ I := fun q => fr.2.2 _ (.head _) q
  refine ⟨n, I, [I], [I], _, _, _, by omega, rfl, walks_bound (walk_range D.rm.hand I 0 1 n), by simpa using hit, W2, ⟨i1, c1, u1, u2, m1, [], rfl, H1, rfl, .nil, fun _ m => by cases m⟩, fun b hb => by rw [List.mem_singleton.mp hb]; exact Heap.lt_size hit, hwr1 fr, ?_, (fun a ha m => hSI (by rw [← List.mem_singleton.mp ha, ← List.mem_singleton.mp m])), ?_, ?_⟩
  · intro i h st b hb
    rw [List.mem_singleton.mp hb]
    exact ⟨_, st, by show Value.type "range_iterator" ≠ _; decide⟩
  · rintro j D' C v s₃ nw co' ys m3 mm E' hlt ⟨_, t, rfl⟩ W3 hns hmk ⟨i3, c3, u3, v3, n3, kl, rfl, H3, hkl, a3, b3⟩ _
    refine ev_nextG D W3 (.cons (.tail (.tail .head)) .nil) (.tail _ (.tail _ (.tail _ hl0))) H3 (by decide) (fun q => cName D.gd W3 D.below.stays (g_next' _) q rfl (hcn C)) (fun q => wpAny_Name (wpAny_loadName_cell rfl (hct C) rfl ⟨co, W3.get (.tail _ (.tail _ (.tail _ hm))), hcd⟩ q) rfl) fun s₄ i4 c4 u4 v4 n4 r tk W4 F4 H4 hr => ?_
    refine ⟨(S, stO l0 i4 c4 u4 v4 n4) :: rest, W4.perm ((List.Perm.cons _ (List.Perm.swap _ _ _)).trans (List.Perm.swap _ _ _)), F4, fun p hp => .inl ?_, i4, c4, u4, v4, n4, kl ++ [r], rfl, H4, by simp [hkl], ?_, fun k hk => ?_⟩
    · rcases List.mem_cons.mp hp with rfl | hp
      · exact List.mem_cons_self
      · exact List.mem_cons_of_mem _ (List.mem_map_of_mem hp)
    · rw [Array.toList_push]
      exact All2.app a3 (.cons (is_int hr.1 (by omega)) .nil)
    · rcases List.mem_append.mp hk with z | z
      · exact b3 k z
      · rw [List.mem_singleton.mp z]; exact hr.2
  · rintro s' D' nw ys m3 W' ⟨i3, c3, u3, v3, n3, kl, rfl, H3, hkl, a3, b3⟩
    exact h s' D' ys m3 i3 c3 u3 v3 n3 kl W' H3 a3 (by omega) b3
end
end
section
open PySem PySem.W PyProof.Rows PySem.Calls Builtin
set_option Elab.async false
set_option maxRecDepth 100000
set_option pp.deepTerms false
set_option pp.maxSteps 1500
set_option linter.unusedVariables false
section
variable {prog : Program} {w : World} {κ : Type} [DecidableEq κ] {ek : EK prog w κ} {th : SetTh ek}
  {A : Around} {E : Value → Shared → Prop} {s s' s₁ : Shared} {R : Result → Shared → Prop} {x : Addr} {ks kb kl km : List κ} {k : κ} {v v2 : Value} {w0 : List Addr} {name : Str} {id T : String}
  {G : Array GenState} {O : OsState} {g base : Heap} {outer : List Env} {L a r l : Addr} {fl : List (Str × Value)} {news old upd rest foot : List (Addr × Obj)} {ob ob' : Obj} {f : Obj → List (Addr × Obj)} {o o' : Tob} {xs : Array Value} {m : Nat}
theorem for_walkI {env : Env} {I : Addr} {fp wr : List Addr} {n : Nat} {P : Nat → Value → Prop} {St : Nat → Heap → Prop} {y : Str} {px : Pos} {body : List Stmt} (Wk : Walks prog w A I fp wr n P St) (Inv : Nat → Shared → Prop)
    (turn : ∀ i v s' s'', i < n → P i v → Inv i s' → Fx s' s'' wr → St (i + 1) s''.heap → wpAny (model prog w) A (storeName env y v) (fun _ s₂ => wpAny (model prog w) A (execs body env) (fun fl s₃ => match fl with
          | .next | .cont => Inv (i + 1) s₃ ∧ St (i + 1) s₃.heap
          | .brk => R (.ok .next) s₃
          | .ret v => R (.ok (.ret v)) s₃) (notedBy (model prog w) A env fun e s' => R (.error e) s') s₂) (notedBy (model prog w) A env fun e s' => R (.error e) s') s'')
    (fin : ∀ s' s'', Inv n s' → Fx s' s'' wr → R (.ok .next) s'') (start : St 0 s.heap) (h0 : Inv 0 s) : codeAny (model prog w) A (.forLoop (.Name y px) (.ref I) body [] env) R s := by
  refine codeAny_forLoop (fun j s' => ∃ i, i + j = n ∧ St i s'.heap ∧ Inv i s') (fun j s' => ?_) n ⟨0, by omega, start, h0⟩
  rintro ⟨i, hij, st, hi⟩
  cases j with
  | zero =>
    have hn : i = n := by omega
    subst hn
    refine Wk.done s' _ _ st fun h' tk hk => ?_
    exact wpAny_execs_nil (fin _ _ hi ⟨fun b o e nb => hk b o nb e, rfl, rfl⟩)
  | succ j =>
    refine Wk.item i s' _ _ (by omega) st fun v h' tk hp st' hk => ?_
    refine wpAny_assign_Name (wpAny_mono (turn i v _ { s' with heap := h', toks := tk } (by omega) hp hi ⟨fun b o e nb => hk b o nb e, rfl, rfl⟩ st') (fun _ s₂ z => wpAny_mono z (fun f s₃ z => ?_) fun _ _ e => e) fun _ _ e => e)
    cases f with
    | next => exact ⟨j, by omega, i + 1, by omega, z.2, z.1⟩
    | cont => exact ⟨j, by omega, i + 1, by omega, z.2, z.1⟩
    | brk => exact z
    | ret v => exact z
theorem Ext.mid : ∀ {u pre post : List (Addr × Obj)}, Ext u (pre ++ (u ++ post)) (pre ++ post)
  | [], pre, post => .nil
  | p :: u, pre, post => .cons (Pick.mid pre) Ext.mid
def LawText (P : Params) (sc : Scope) (s0 s1 s2 s3 s5 d1 d2 d3 d4 d6 : Stmt) (t it c0 c1 c2 c3 c4 c5 c6 c7 : Expr) (b0 b1 b2 b3 b4 b5 b6 b7 b8 : List Stmt) : Prop :=
  ∃ oc od dV kV doc pm an cdv ct osl params fp p0 p1 p2 p3 p4 p5 p6 p7, (Mine.hd.heap_39 P).lookup 281 = some ⟨oc, od, .func (fnX "law" "law" params [s0, s1, s2, s3,
    .For t it [d1, d2, d3, d4, .If c0 b0 [.If c1 b1 [.If c2 b2 [.If c3 b3 [.If c4 b4 [.If c5 b5 [.If c6 b6 [.If c7 b7 b8 p7] p6] p5] p4] p3] p2] p1] p0, d6] [] fp, s5] sc [] dV kV doc pm an cdv ct), osl⟩
abbrev lawCl (L : Addr) : List (Str × Addr) := [("one", L + 1 + 1 + 1), ("told", L + 1 + 1), ("state", L + 1)]
abbrev lawLed (S I0 l0 L : Addr) (st io lv k1 k2 k3 : Obj) (hd : Addr) (hv : Obj) (rest : List (Addr × Obj)) : List (Addr × Obj) :=
  (S, st) :: (I0, io) :: (l0, lv) :: (L + 1, k1) :: (L + 1 + 1, k2) :: (L + 1 + 1 + 1, k3) :: (hd, hv) :: rest
structure LW {prog : Program} {w : World} (th : SetTh (ekI prog w)) (G : Array GenState) (O : OsState) (g : Heap) (L S l0 I0 : Addr) (lv k1 io k3 st : Obj) (s : Shared) (fl : List (Str × Value)) (k2 : Obj) (x : Addr) (o : Tob) (hd : Addr) (ys : Array Value) (m : Nat) (ks : List Int) (ex : List (Addr × Obj)) : Prop where
  W : Wd G O g L s fl (lawLed S I0 l0 L st io lv k1 k2 k3 hd (lstO ys m) (o.ents x ++ ex))
  os : OS th s.heap o ks
  row : (ekI prog w).All s.heap ys.toList ks
  told : k2.data = .cell (some (.ref x))
  held : fl.lookup ("held" : Str) = some (.ref hd)
  lt : ∀ k ∈ ks, k < 9
section
variable {S l0 I0 : Addr} {lv k1 io k3 st k2 : Obj} {hd : Addr} {ys : Array Value} {ks : List Int} {ex : List (Addr × Obj)} {th : SetTh (ekI prog w)}
theorem LW.nd (H : LW th G O g L S l0 I0 lv k1 io k3 st s fl k2 x o hd ys m ks ex) : ((o.ents x).map (·.1)).Nodup := by
  have z := H.W.nd
  have e : lawLed S I0 l0 L st io lv k1 k2 k3 hd (lstO ys m) (o.ents x ++ ex) = [(S, st), (I0, io), (l0, lv), (L + 1, k1), (L + 1 + 1, k2), (L + 1 + 1 + 1, k3), (hd, lstO ys m)] ++ (o.ents x ++ ex) := rfl
  rw [e, List.map_append, List.map_append] at z
  exact (List.nodup_append.mp (List.nodup_append.mp z).2.1).1
theorem LW.mem (H : LW th G O g L S l0 I0 lv k1 io k3 st s fl k2 x o hd ys m ks ex) : ∀ p ∈ o.ents x, p ∈ lawLed S I0 l0 L st io lv k1 k2 k3 hd (lstO ys m) (o.ents x ++ ex) := fun p hp =>
  .tail _ (.tail _ (.tail _ (.tail _ (.tail _ (.tail _ (.tail _ (List.mem_append_left _ hp)))))))
theorem LW.there (H : LW th G O g L S l0 I0 lv k1 io k3 st s fl k2 x o hd ys m ks ex) : There s.heap x o := H.W.there H.mem
end
section
variable (P : Params)
theorem m_add : findIn (KK P) (.ref 225) "add" = some (some (.ref 58)) := by kernel_rfl
theorem mt_add : typeIn (KK P) (.ref 58) = some (.type "function") := by kernel_rfl
theorem keep58 : keepIn (KK P) (.ref 58) = true := by kernel_rfl
theorem m_insert : findIn (KK P) (.ref 225) "insert" = some (some (.ref 79)) := by kernel_rfl
theorem mt_insert : typeIn (KK P) (.ref 79) = some (.type "function") := by kernel_rfl
theorem keep79 : keepIn (KK P) (.ref 79) = true := by kernel_rfl
theorem m_discard : findIn (KK P) (.ref 225) "discard" = some (some (.ref 86)) := by kernel_rfl
theorem mt_discard : typeIn (KK P) (.ref 86) = some (.type "function") := by kernel_rfl
theorem keep86 : keepIn (KK P) (.ref 86) = true := by kernel_rfl
theorem m_copy : findIn (KK P) (.ref 225) "copy" = some (some (.ref 44)) := by kernel_rfl
theorem mt_copy : typeIn (KK P) (.ref 44) = some (.type "function") := by kernel_rfl
theorem keep44 : keepIn (KK P) (.ref 44) = true := by kernel_rfl
theorem m_clear : findIn (KK P) (.ref 225) "clear" = some (some (.ref 93)) := by kernel_rfl
theorem mt_clear : typeIn (KK P) (.ref 93) = some (.type "function") := by kernel_rfl
theorem keep93 : keepIn (KK P) (.ref 93) = true := by kernel_rfl
end
end
end
local macro_rules | `(tactic| walk_at "pk") => `(tactic| first | exact .head | exact .tail (.head) | exact .tail (.tail (.head)) | exact .tail (.tail (.tail (.head))) | exact .tail (.tail (.tail (.tail (.head)))) | exact .tail (.tail (.tail (.tail (.tail (.head))))) | exact .tail (.tail (.tail (.tail (.tail (.tail (.head)))))) | exact .tail (.tail (.tail (.tail (.tail (.tail (.tail (.head))))))) | exact .tail (.tail (.tail (.tail (.tail (.tail (.tail (.tail (.head)))))))) | exact .tail (.tail (.tail (.tail (.tail (.tail (.tail (.tail (.tail (.head))))))))) | exact .tail (.tail (.tail (.tail (.tail (.tail (.tail (.tail (.tail (.tail (.head)))))))))) | exact .tail (.tail (.tail (.tail (.tail (.tail (.tail (.tail (.tail (.tail (.tail (.head))))))))))) | exact .tail (.tail (.tail (.tail (.tail (.tail (.tail (.tail (.tail (.tail (.tail (.tail (.head)))))))))))))
local macro_rules | `(tactic| walk_at "mm") => `(tactic| first | exact .head _ | exact .tail _ (.head _) | exact .tail _ (.tail _ (.head _)) | exact .tail _ (.tail _ (.tail _ (.head _))) | exact .tail _ (.tail _ (.tail _ (.tail _ (.head _)))) | exact .tail _ (.tail _ (.tail _ (.tail _ (.tail _ (.head _))))) | exact .tail _ (.tail _ (.tail _ (.tail _ (.tail _ (.tail _ (.head _)))))) | exact .tail _ (.tail _ (.tail _ (.tail _ (.tail _ (.tail _ (.tail _ (.head _))))))) | exact .tail _ (.tail _ (.tail _ (.tail _ (.tail _ (.tail _ (.tail _ (.tail _ (.head _)))))))) | exact .tail _ (.tail _ (.tail _ (.tail _ (.tail _ (.tail _ (.tail _ (.tail _ (.tail _ (.head _))))))))) | exact .tail _ (.tail _ (.tail _ (.tail _ (.tail _ (.tail _ (.tail _ (.tail _ (.tail _ (.tail _ (.head _)))))))))) | exact .tail _ (.tail _ (.tail _ (.tail _ (.tail _ (.tail _ (.tail _ (.tail _ (.tail _ (.tail _ (.tail _ (.head _))))))))))) | exact .tail _ (.tail _ (.tail _ (.tail _ (.tail _ (.tail _ (.tail _ (.tail _ (.tail _ (.tail _ (.tail _ (.tail _ (.head _)))))))))))) | exact .tail _ (.tail _ (.tail _ (.tail _ (.tail _ (.tail _ (.tail _ (.tail _ (.tail _ (.tail _ (.tail _ (.tail _ (.tail _ (.head _))))))))))))) | exact .tail _ (.tail _ (.tail _ (.tail _ (.tail _ (.tail _ (.tail _ (.tail _ (.tail _ (.tail _ (.tail _ (.tail _ (.tail _ (.tail _ (.head _)))))))))))))) | exact .tail _ (.tail _ (.tail _ (.tail _ (.tail _ (.tail _ (.tail _ (.tail _ (.tail _ (.tail _ (.tail _ (.tail _ (.tail _ (.tail _ (.tail _ (.head _))))))))))))))) | exact .tail _ (.tail _ (.tail _ (.tail _ (.tail _ (.tail _ (.tail _ (.tail _ (.tail _ (.tail _ (.tail _ (.tail _ (.tail _ (.tail _ (.tail _ (.tail _ (.head _)))))))))))))))))
section
open PySem PySem.W PyProof.Rows PySem.Calls Builtin
set_option Elab.async false
set_option maxRecDepth 100000
set_option pp.deepTerms false
set_option pp.maxSteps 1500
set_option linter.unusedVariables false
section
variable {prog : Program} {w : World} {κ : Type} [DecidableEq κ] {ek : EK prog w κ} {th : SetTh ek}
  {A : Around} {E : Value → Shared → Prop} {s s' s₁ : Shared} {R : Result → Shared → Prop} {x : Addr} {ks kb kl km : List κ} {k : κ} {v v2 : Value} {w0 : List Addr} {name : Str} {id T : String}
  {G : Array GenState} {O : OsState} {g base : Heap} {outer : List Env} {L a r l : Addr} {fl : List (Str × Value)} {news old upd rest foot : List (Addr × Obj)} {ob ob' : Obj} {f : Obj → List (Addr × Obj)} {o o' : Tob} {xs : Array Value} {m : Nat}
section
variable {S l0 I0 fa : Addr} {lv k1 io k3 st k2 : Obj} {hd : Addr} {ys : Array Value} {ks : List Int} {ex : List (Addr × Obj)} {th : SetTh (ekI prog w)} {cdv : Value} {sc : Scope} {s0 s1 s2 s3 s5 d1 d2 d3 d4 d6 : Stmt} {t it c0 c1 c2 c3 c4 c5 c6 c7 : Expr} {b0 b1 b2 b3 b4 b5 b6 b7 b8 : List Stmt} {one : Int} {tk1 : Tok} {Q : Flow → Shared → Prop}
set_option maxHeartbeats 8000000 in
theorem deed0 (T : LawText w.params sc s0 s1 s2 s3 s5 d1 d2 d3 d4 d6 t it c0 c1 c2 c3 c4 c5 c6 c7 b0 b1 b2 b3 b4 b5 b6 b7 b8) (D : Std A base outer g w (envX "law" sc L fa cdv (lawCl L)) L)
    (H : LW th G O g L S l0 I0 lv k1 io k3 st s fl k2 x o hd ys m ks ex) (h3 : k3.data = .cell (some (.int one tk1))) (hone : 0 ≤ one ∧ one < 9)
    (h : ∀ s' fl' k2' x' o' hd' ys' m' ks', LW th G O g L S l0 I0 lv k1 io k3 st s' fl' k2' x' o' hd' ys' m' ks' [] → Q .next s') :
    wpAny (model prog w) (A.deeper (envX "law" sc L fa cdv (lawCl L))) (execs b0 (envX "law" sc L fa cdv (lawCl L))) Q E s := by
  obtain ⟨oc, od, dV, kV, doc, pm, an, cdv', ct, osl, params, fp, p0, p1, p2, p3, p4, p5, p6, p7, ho⟩ := T
  have XK : (Mine.hd.heap_39 w.params) = (Mine.hd.heap_39 w.params) ∧ PySem.Challenge.rw_eu0034_01 = PySem.Challenge.rw_eu0034_01 := ⟨rfl, rfl⟩
  revert XK
  k_fill
  intro _
  have e := (show (Mine.hd.heap_39 w.params).lookup 281 = some _ from by k_is)
  rw [e] at ho
  cases ho
  clear e
  have hh := D.rm.hand
  have W := H.W
  refine wpAny_execs_cons (wpAny_Expr_any (methodCall_KW (nameX_C W.nw rfl (.tail _ (.tail _ (.tail _ (.tail _ (.head _))))) H.told ?_)))
  refine method_S (W.kin D.X) H.there.inst (m_add _) (mt_add _) ?_
  refine callWith_K D.X (keep58 _) (args_cons (nameX_C W.nw rfl (.tail _ (.tail _ (.tail _ (.tail _ (.tail _ (.head _)))))) h3 (args_nil ⟨W.kin D.X, wpAny_call ?_⟩)))
  refine c_add (th := th) (k := one) D.gd (D.site W (by decide)) (W.own D.below D.fr H.mem H.nd) H.os (is_int hone.1 (by omega)) fun s₂ o' c _ O' => ?_
  have W2 := W.chg (old := o.ents x) (Ext.mid (pre := [_, _, _, _, _, _, _])) c
  have a2 := allI (h' := s₂.heap) H.row
  have sz : ys.size = ks.length := by rw [← Array.length_toList, EK.All.length H.row]
  have hz := H.os.small
  refine wpAny_execs_cons (wpAny_Assign_Name (Call_ (kName D.gd W2 D.below.stays (g_once _) ?_)))
  refine callWith_K D.X (keep249 _) (args_cons (wpAny_BinOp (nameX_L W2.fr H.held (List_ (args_cons (nameX_C W2.nw rfl (by walk_at "mm") h3 (args_nil (wpAny_newObj_type ?_))))))))
  have W3 := W2.push (lstO #[.int one tk1] 0) rfl (t := s₂.toks)
  refine add_lst (l := hd) (xs := ys) (m := m) (W3.get (by walk_at "mm")) (W3.get (.head _)) (by rw [sizeLine_eq]; simp; omega) fun s₄ D4 F4 hD4 e4 => ?_
  have W4 := W3.fxNew F4 hD4 e4
  refine args_nil ⟨W4.kin D.X, wpAny_call ?_⟩
  refine c_once (ek := ekI prog w) (kl := ks ++ [one]) D.gd (D.site W4 (by decide)) e4 ?_ fun s₅ r xs' m' ch a5 => ?_
  · rw [Array.toList_append]
    exact All2.app (allI H.row) (.cons (is_int hone.1 (by omega)) .nil)
  have W5 := W4.chg (old := []) .nil ch
  refine store_W W5 fun s₆ W6 F6 => wpAny_execs_nil ?_
  rw [List.foldl_append, addAll_nodup H.os.set.nodup] at a5
  exact h s₆ _ k2 x o' r xs' m' _ ⟨W6.ext (Ext.cons (by walk_at "pk") (Ext.cons (by walk_at "pk") (Ext.cons (by walk_at "pk") (Ext.cons (by walk_at "pk") (Ext.cons (by walk_at "pk") (Ext.cons (by walk_at "pk") (Ext.cons (by walk_at "pk") (Ext.cons (by walk_at "pk") (Ext.cons (by walk_at "pk") (Ext.cons (by walk_at "pk") Ext.nil)))))))))), osI O', allI a5, H.told, rfl, fun k hk => (mem_addK.mp hk).elim (H.lt k) fun q => q ▸ hone.2⟩
end
end
end
section
open PySem PySem.W PyProof.Rows PySem.Calls Builtin
set_option Elab.async false
set_option maxRecDepth 100000
set_option pp.deepTerms false
set_option pp.maxSteps 1500
set_option linter.unusedVariables false
section
variable {prog : Program} {w : World} {κ : Type} [DecidableEq κ] {ek : EK prog w κ} {th : SetTh ek}
  {A : Around} {E : Value → Shared → Prop} {s s' s₁ : Shared} {R : Result → Shared → Prop} {x : Addr} {ks kb kl km : List κ} {k : κ} {v v2 : Value} {w0 : List Addr} {name : Str} {id T : String}
  {G : Array GenState} {O : OsState} {g base : Heap} {outer : List Env} {L a r l : Addr} {fl : List (Str × Value)} {news old upd rest foot : List (Addr × Obj)} {ob ob' : Obj} {f : Obj → List (Addr × Obj)} {o o' : Tob} {xs : Array Value} {m : Nat}
open Classical in
theorem asg_filter {qual : Str} {sc : Scope} {fa : Addr} {cdv : Value} {clE cl : List (Str × Addr)} {xn y : Str} {px py ep' pos spos : Pos} {iter c : Expr} {scope : Scope} {ks : List Int} {Q : Flow → Shared → Prop} (q : Int → Bool)
    (W : Wd G O g L s fl news) (hl : (l, lstO xs m) ∈ news) (a : (ekI prog w).All s.heap xs.toList ks) (hz : ks.length ≤ 10000) (hh : A.handled = none)
    (hsw : swapsWith (.ListComp (.Name xn ep') [⟨.Name xn px, iter, [c], 0⟩] scope pos) (some (.Name y py)) spos.line (envX qual sc L fa cdv clE) = pure true)
    (hclos : closureFor scope (envX qual sc L fa cdv clE) = pure cl) (hcell : ∀ y ∈ scope.names, y.2 ≠ .cell) (hkind : scope.kind = .function)
    (hnames : ∀ y ∈ scope.names, y.2 = .local → scope.names.lookup y.1 = some .local) (hx : scope.names.lookup xn = some .local)
    (hdb : (xn == ("__debug__" : Str)) = false) (hy : (envX qual sc L fa cdv clE).kindOf y = some .local) (hk : sc.kind = .function)
    (hn : ∀ {Q' : Value → Shared → Prop}, Q' (.ref l) s → wpAny (model prog w) A (eval iter (envX qual sc L fa cdv clE)) Q' E s)
    (hcond : ∀ C s₃ m₃ v k E', s₃.heap.Ns C m₃ → m₃ xn = some v → (∀ b o, s.heap.get? b = some o → s₃.heap.get? b = some o) → (ekI prog w).is s₃.heap k v →
      wpAny (model prog w) A (isTrue c (compEnvC scope cl C (envX qual sc L fa cdv clE)) (eval c (compEnvC scope cl C (envX qual sc L fa cdv clE)))) (fun ok s₄ => ok = q k ∧ Keeps s₃ s₄) E' s₃)
    (h : ∀ s' D xs m, Wd G O g L s' ((y, .ref D) :: fl) ((D, lstO xs m) :: news) → (ekI prog w).All s'.heap xs.toList (ks.filter q) → Q .next s')
    (hs : ∀ x, foldedSetIterable iter (envX qual sc L fa cdv clE) x = pure x := by intro _; rfl) :
    wpAny (model prog w) A (exec (.Assign [.Name y py] (.ListComp (.Name xn ep') [⟨.Name xn px, iter, [c], 0⟩] scope pos) spos) (envX qual sc L fa cdv clE)) Q E s := by
  have pq : ∀ {v k}, (ekI prog w).is s.heap k v → decide (∃ k, (ekI prog w).is s.heap k v ∧ q k = true) = q k := fun {v k} hk => by
    cases hq : q k with
    | true => exact decide_eq_true ⟨k, hk, hq⟩
    | false =>
      refine decide_eq_false fun ⟨k', hk', hq'⟩ => ?_
      rw [(ekI prog w).inj hk' hk, hq] at hq'; cases hq'
  refine wpAny_Assign_ListComp_free (fun v => decide (∃ k, (ekI prog w).is s.heap k v ∧ q k = true)) (fun v y => y = v) hsw hclos hcell hkind hnames hx hy (by show (sc.kind == .class || (sc.kind == .module && L != mainGlobals)) = false; rw [hk]; rfl) (hn ?_) hs
  refine (iterF_list (ek := ekI prog w) (W.get hl) a).run _ _ _ (Fx.refl _ _) fun s₂ I fp wr P St F2 Fd hw hf => ?_
  have W2 := W.fx0 F2
  have wrn : ∀ b ∈ wr, s.heap.get? b = none := fun b hb => (hw b hb).elim (fun q => by cases q) id
  have hL : ∃ oL, s.heap.get? L = some oL := by obtain ⟨oL, _, _, hL, _⟩ := W.fr.ns; exact ⟨oL, hL⟩
  have hLw : L ∉ wr := fun m => by obtain ⟨oL, e⟩ := hL; rw [wrn _ m] at e; cases e
  refine ⟨I, fp, wr, ks.length, P, St, (fun y => fl.lookup y), rfl, Fd.walks A hh, by rw [sizeLine_eq]; omega, Fd.start, fun b hb => (Fd.noSet b hb).elim fun ob z => Heap.lt_size z.1, hLw, W2.fr.ns, ⟨?_, ?_⟩, ?_⟩
  · intro C i v s₃ m₃ E' hC hp hns hm hkp htk
    obtain ⟨k, hk1, hk2⟩ := Fd.keys i v hp
    rw [List.forIn_cons]
    refine wpAny_bind ?_
    rw [if_pos rfl]
    refine wpAny_bind (wpAny_mono (hcond C s₃ m₃ v k E' hns hm (fun b ob e => hkp b ob (fun m => by rw [wrn b m] at e; cases e) (F2.keep _ _ e (by simp))) hk2) (fun ok s₄ z => wpAny_pure ?_) fun _ _ z => z)
    dsimp only
    rw [List.forIn_nil]
    exact wpAny_pure ⟨z.1.trans (pq hk2).symm, z.2⟩
  · intro C i v s₃ m₃ E' hC hp hpv hns hm hkp htk
    refine wpAny_Name (wpAny_loadName_local (by show (relabel scope _).kind = _; exact hkind) (lookup_relabel_local hx) hns hm ?_) hdb
    exact ⟨rfl, kp_self _⟩
  · intro D h' tk ys vs hD hlD hpl hlen hP hF hns hkp
    obtain ⟨mm, hpl⟩ := hpl
    have hvs : (ekI prog w).All s.heap vs ks := all2_of_get (by rw [hlen]) fun i v e => Fd.keys i v (hP i v e)
    have hys : ys.toList = vs.filter fun v => decide (∃ k, (ekI prog w).is s.heap k v ∧ q k = true) := paired_eq hF
    have keep : ∀ b ob, b ≠ L → s.heap.get? b = some ob → h'.get? b = some ob := fun b ob nb e => hkp b ob nb (fun m => by rw [wrn b m] at e; cases e) (F2.keep _ _ e (by simp))
    have hDn : s.heap.get? D = none := by
      cases q : s.heap.get? D with
      | none => rfl
      | some ob => rw [F2.keep _ _ q (by simp)] at hD; cases hD
    have fD := W.fresh hDn
    refine h _ D ys mm ⟨⟨?_, fun b ob e => keep b ob (fun z => ?_) (W.keeps _ _ e), W.fr.above⟩, ?_, ?_, F2.gens.trans W.gens, F2.os.trans W.os⟩ ?_
    · have hns' : h'.Ns L (fun z => if z = y then some (.ref D) else fl.lookup z) := hns
      rwa [lookup_push] at hns'
    · rw [z, kts_self W.fr] at e; cases e
    · intro p hp
      rcases List.mem_cons.mp hp with rfl | hp
      · exact ⟨hpl, fD.2.1, fD.1⟩
      · exact ⟨keep _ _ (W.nw p hp).2.1 (W.nw p hp).1, (W.nw p hp).2⟩
    · rw [List.map_cons, List.nodup_cons]
      exact ⟨fun m => by obtain ⟨p, hp, e⟩ := List.mem_map.mp m; exact fD.2.2 p hp e, W.nd⟩
    · rw [hys]
      exact All2.filter hvs fun v k z => pq z
theorem asg_ne1 {qual : Str} {sc : Scope} {fa c : Addr} {cdv : Value} {cl : List (Str × Addr)} {ks : List Int} {k1 : Int} {tk : Tok} {co : Obj} {hn y : Str} {e1 e2 p1 p4 p5 p6 py pos spos : Pos} {Q : Flow → Shared → Prop}
    (D : Std A base outer g w (envX qual sc L fa cdv cl) L) (W : Wd G O g L s fl news) (hl : (l, lstO xs m) ∈ news) (a : (ekI prog w).All s.heap xs.toList ks) (hz : ks.length ≤ 10000) (hm : (c, co) ∈ news) (hcd : co.data = .cell (some (.int k1 tk)))
    (hclos : closureFor neScope (envX qual sc L fa cdv cl) = pure [(("one" : Str), c)])
    (hh : ∀ {Q' : Value → Shared → Prop}, Q' (.ref l) s → wpAny (model prog w) (A.deeper (envX qual sc L fa cdv cl)) (eval (.Name hn p1) (envX qual sc L fa cdv cl)) Q' E s)
    (hsw : swapsWith (.ListComp (.Name "x" e1) [⟨.Name "x" e2, .Name hn p1, [.Compare (.Name "x" p4) [.NotEq] [.Name "one" p5] p6], 0⟩] neScope pos) (some (.Name y py)) spos.line (envX qual sc L fa cdv cl) = pure true)
    (hy : (envX qual sc L fa cdv cl).kindOf y = some .local) (hk : sc.kind = .function)
    (h : ∀ s' r xs m, Wd G O g L s' ((y, .ref r) :: fl) ((r, lstO xs m) :: news) → (ekI prog w).All s'.heap xs.toList (ks.filter fun k => decide (k ≠ k1)) → Q .next s')
    (hct : ∀ C, (compEnvC neScope [("one", c)] C (envX qual sc L fa cdv cl)).kindOf "one" = some .cell := by intro C; rfl)
    (hs : ∀ x, foldedSetIterable (.Name hn p1) (envX qual sc L fa cdv cl) x = pure x := by intro _; rfl) :
    wpAny (model prog w) (A.deeper (envX qual sc L fa cdv cl)) (exec (.Assign [.Name y py] (.ListComp (.Name "x" e1) [⟨.Name "x" e2, .Name hn p1, [.Compare (.Name "x" p4) [.NotEq] [.Name "one" p5] p6], 0⟩] neScope pos) spos) (envX qual sc L fa cdv cl)) Q E s := by
  refine asg_filter (ks := ks) (cl := [("one", c)]) (fun k => decide (k ≠ k1)) W hl a hz D.rm.hand hsw hclos (by decide) rfl (by decide) rfl (by decide) hy hk hh ?_ h hs
  intro C s₃ m₃ v k E' hns hm' kp hisk
  obtain ⟨t, rfl⟩ := ek_int hisk
  refine wpAny_isTrue_Compare1 (wpAny_Name (wpAny_loadName_local rfl rfl hns hm' ?_) rfl)
  refine wpAny_Name (wpAny_loadName_cell rfl (hct C) rfl ⟨co, kp _ _ (W.get hm), hcd⟩ ?_) rfl
  refine PySem.P.ne_int (wpAny_truthy_bool ⟨?_, kp_self _⟩)
  by_cases q : k = k1 <;> simp [q]
end
end
section
open PySem PySem.W PyProof.Rows PySem.Calls Builtin
set_option Elab.async false
set_option maxRecDepth 100000
set_option pp.deepTerms false
set_option pp.maxSteps 1500
set_option linter.unusedVariables false
section
variable {prog : Program} {w : World} {κ : Type} [DecidableEq κ] {ek : EK prog w κ} {th : SetTh ek}
  {A : Around} {E : Value → Shared → Prop} {s s' s₁ : Shared} {R : Result → Shared → Prop} {x : Addr} {ks kb kl km : List κ} {k : κ} {v v2 : Value} {w0 : List Addr} {name : Str} {id T : String}
  {G : Array GenState} {O : OsState} {g base : Heap} {outer : List Env} {L a r l : Addr} {fl : List (Str × Value)} {news old upd rest foot : List (Addr × Obj)} {ob ob' : Obj} {f : Obj → List (Addr × Obj)} {o o' : Tob} {xs : Array Value} {m : Nat}
section
variable {S l0 I0 fa : Addr} {lv k1 io k3 st k2 : Obj} {hd : Addr} {ys : Array Value} {ks : List Int} {ex : List (Addr × Obj)} {th : SetTh (ekI prog w)} {cdv : Value} {sc : Scope} {s0 s1 s2 s3 s5 d1 d2 d3 d4 d6 : Stmt} {t it c0 c1 c2 c3 c4 c5 c6 c7 : Expr} {b0 b1 b2 b3 b4 b5 b6 b7 b8 : List Stmt} {one : Int} {tk1 : Tok} {Q : Flow → Shared → Prop}
set_option maxHeartbeats 8000000 in
theorem deed1 (T : LawText w.params sc s0 s1 s2 s3 s5 d1 d2 d3 d4 d6 t it c0 c1 c2 c3 c4 c5 c6 c7 b0 b1 b2 b3 b4 b5 b6 b7 b8) (D : Std A base outer g w (envX "law" sc L fa cdv (lawCl L)) L)
    (H : LW th G O g L S l0 I0 lv k1 io k3 st s fl k2 x o hd ys m ks ex) (h3 : k3.data = .cell (some (.int one tk1))) (hone : 0 ≤ one ∧ one < 9) {way : Int} {tw : Tok} (hway : 0 ≤ way ∧ way < 4) (hwl : fl.lookup ("way" : Str) = some (.int way tw))
    (h : ∀ s' fl' k2' x' o' hd' ys' m' ks', LW th G O g L S l0 I0 lv k1 io k3 st s' fl' k2' x' o' hd' ys' m' ks' [] → Q .next s') :
    wpAny (model prog w) (A.deeper (envX "law" sc L fa cdv (lawCl L))) (execs b1 (envX "law" sc L fa cdv (lawCl L))) Q E s := by
  obtain ⟨oc, od, dV, kV, doc, pm, an, cdv', ct, osl, params, fp, p0, p1, p2, p3, p4, p5, p6, p7, ho⟩ := T
  have XK : (Mine.hd.heap_39 w.params) = (Mine.hd.heap_39 w.params) ∧ PySem.Challenge.rw_eu0034_01 = PySem.Challenge.rw_eu0034_01 := ⟨rfl, rfl⟩
  revert XK
  k_fill
  intro _
  have e := (show (Mine.hd.heap_39 w.params).lookup 281 = some _ from by k_is)
  rw [e] at ho
  cases ho
  clear e
  have hh := D.rm.hand
  have W := H.W
  have sz : ys.size = ks.length := by rw [← Array.length_toList, EK.All.length H.row]
  have hz := H.os.small
  refine wpAny_execs_cons (wpAny_Expr_any (methodCall_KW (nameX_C W.nw rfl (by walk_at "mm") H.told ?_)))
  refine method_S (W.kin D.X) H.there.inst (m_insert _) (mt_insert _) ?_
  refine callWith_K D.X (keep79 _) (args_cons (nameX_L W.fr hwl (args_cons (nameX_C W.nw rfl (by walk_at "mm") h3 (args_nil ⟨W.kin D.X, wpAny_call ?_⟩)))))
  refine c_insert (th := th) (k := one) D.gd (D.site W (by decide)) (W.own D.below D.fr H.mem H.nd) H.os (is_int hone.1 (by omega)) (by omega) fun s₂ o' c O' => ?_
  have W2 := W.chg (old := o.ents x) (Ext.mid (pre := [_, _, _, _, _, _, _])) c
  refine wpAny_execs_cons (wpAny_Assign_Name (wpAny_IfExp (wpAny_isTrue_Compare1 (nameX_C W2.nw rfl (by walk_at "mm") h3 (nameX_L W2.fr H.held ?_)))))
  refine inOp_lst (ek := ekI prog w) (ks := ks) (xs := ys) (m := m) (Wd.ok3 D) (W2.get (by walk_at "mm")) (allI H.row) (is_int hone.1 (by omega)) fun s₃ K3 => wpAny_truthy_bool ?_
  have W3 := W2.fx0 (Fx.of_keeps K3 [])
  by_cases hm : one ∈ ks
  · rw [if_pos (decide_eq_true hm)]
    rw [if_pos hm] at O'
    refine nameX_L W3.fr H.held ?_
    refine store_W W3 fun s₆ W6 F6 => wpAny_execs_nil ?_
    exact h s₆ _ k2 x o' hd ys m _ ⟨W6.ext (Ext.cons (by walk_at "pk") (Ext.cons (by walk_at "pk") (Ext.cons (by walk_at "pk") (Ext.cons (by walk_at "pk") (Ext.cons (by walk_at "pk") (Ext.cons (by walk_at "pk") (Ext.cons (by walk_at "pk") (Ext.cons (by walk_at "pk") (Ext.cons (by walk_at "pk") (Ext.cons (by walk_at "pk") Ext.nil)))))))))), osI O', allI H.row, H.told, rfl, H.lt⟩
  · rw [if_neg (by simpa using hm)]
    rw [if_neg hm] at O'
    refine wpAny_BinOp (wpAny_BinOp (slice_upto (nameX_L W3.fr H.held (nameX_L W3.fr hwl ?_))))
    refine ⟨hd, ys, m, way, tw, rfl, rfl, hway.1, W3.get (by walk_at "mm"), by rw [sizeLine_eq]; omega, fun s₄ r4 F4 hr4 e4 => ?_⟩
    have W4 := W3.fxNew F4 hr4 e4
    refine List_ (args_cons (nameX_C W4.nw rfl (by walk_at "mm") h3 (args_nil (wpAny_newObj_type ?_))))
    have W5 := W4.push (lstO #[.int one tk1] 0) rfl (t := s₄.toks)
    have q1 : (ys.toList.take way.toNat).toArray.size ≤ 12 := by simp; omega
    refine add_lst (W5.get (.tail _ (.head _))) (W5.get (.head _)) (by rw [sizeLine_eq, show (#[Value.int one tk1]).size = 1 from rfl]; omega) fun s₆ D6 F6 hD6 e6 => ?_
    have W6 := W5.fxNew F6 hD6 e6
    refine slice_from (nameX_L W6.fr H.held (nameX_L W6.fr hwl ?_))
    refine ⟨hd, ys, m, way, tw, rfl, rfl, hway.1, W6.get (by walk_at "mm"), by rw [sizeLine_eq]; omega, fun s₇ r7 F7 hr7 e7 => ?_⟩
    have W7 := W6.fxNew F7 hr7 e7
    have q2 : (ys.toList.drop way.toNat).toArray.size ≤ 12 := by simp; omega
    refine add_lst (W7.get (.tail _ (.head _))) (W7.get (.head _)) (by rw [sizeLine_eq, Array.size_append, show (#[Value.int one tk1]).size = 1 from rfl]; omega) fun s₈ D8 F8 hD8 e8 => ?_
    have W8 := W7.fxNew F8 hD8 e8
    refine store_W W8 fun s₉ W9 F9 => wpAny_execs_nil ?_
    refine h s₉ _ k2 x o' D8 _ 0 (insAt ks way one) ⟨W9.ext (Ext.cons (by walk_at "pk") (Ext.cons (by walk_at "pk") (Ext.cons (by walk_at "pk") (Ext.cons (by walk_at "pk") (Ext.cons (by walk_at "pk") (Ext.cons (by walk_at "pk") (Ext.cons (by walk_at "pk") (Ext.cons (by walk_at "pk") (Ext.cons (by walk_at "pk") (Ext.cons (by walk_at "pk") Ext.nil)))))))))), osI O', ?_, H.told, rfl, fun k hk => ?_⟩
    have e1 : insAt ks way one = (ks.take way.toNat ++ [one]) ++ ks.drop way.toNat := by
      obtain ⟨j, rfl⟩ := Int.eq_ofNat_of_zero_le hway.1
      unfold insAt
      rw [if_neg (by omega), List.append_assoc]
      show List.take (min j ks.length) ks ++ one :: List.drop (min j ks.length) ks = List.take j ks ++ one :: List.drop j ks
      rcases Nat.le_total j ks.length with q | q
      · rw [Nat.min_eq_left q]
      · rw [Nat.min_eq_right q, List.take_of_length_le q, List.drop_of_length_le q, List.take_of_length_le (Nat.le_refl _), List.drop_of_length_le (Nat.le_refl _)]
    · rw [Array.toList_append, Array.toList_append, e1]
      exact All2.app (All2.app (All2.take (allI (h' := s₉.heap) H.row) _) (.cons (is_int hone.1 (by omega)) .nil)) (All2.drop (allI (h' := s₉.heap) H.row) _)
    · unfold insAt at hk
      rcases List.mem_append.mp hk with z | z
      · exact H.lt k (List.mem_of_mem_take z)
      · rcases List.mem_cons.mp z with rfl | z
        · exact hone.2
        · exact H.lt k (List.mem_of_mem_drop z)
set_option maxHeartbeats 8000000 in
theorem deed2 (T : LawText w.params sc s0 s1 s2 s3 s5 d1 d2 d3 d4 d6 t it c0 c1 c2 c3 c4 c5 c6 c7 b0 b1 b2 b3 b4 b5 b6 b7 b8) (D : Std A base outer g w (envX "law" sc L fa cdv (lawCl L)) L)
    (H : LW th G O g L S l0 I0 lv k1 io k3 st s fl k2 x o hd ys m ks ex) (h3 : k3.data = .cell (some (.int one tk1))) (hone : 0 ≤ one ∧ one < 9)
    (h : ∀ s' fl' k2' x' o' hd' ys' m' ks', LW th G O g L S l0 I0 lv k1 io k3 st s' fl' k2' x' o' hd' ys' m' ks' [] → Q .next s') :
    wpAny (model prog w) (A.deeper (envX "law" sc L fa cdv (lawCl L))) (execs b2 (envX "law" sc L fa cdv (lawCl L))) Q E s := by
  obtain ⟨oc, od, dV, kV, doc, pm, an, cdv', ct, osl, params, fp, p0, p1, p2, p3, p4, p5, p6, p7, ho⟩ := T
  have XK : (Mine.hd.heap_39 w.params) = (Mine.hd.heap_39 w.params) ∧ PySem.Challenge.rw_eu0034_01 = PySem.Challenge.rw_eu0034_01 := ⟨rfl, rfl⟩
  revert XK
  k_fill
  intro _
  have e := (show (Mine.hd.heap_39 w.params).lookup 281 = some _ from by k_is)
  rw [e] at ho
  cases ho
  clear e
  have hh := D.rm.hand
  have W := H.W
  have hz := H.os.small
  refine wpAny_execs_cons (wpAny_Expr_any (methodCall_KW (nameX_C W.nw rfl (by walk_at "mm") H.told ?_)))
  refine method_S (W.kin D.X) H.there.inst (m_discard _) (mt_discard _) ?_
  refine callWith_K D.X (keep86 _) (args_cons (nameX_C W.nw rfl (by walk_at "mm") h3 (args_nil ⟨W.kin D.X, wpAny_call ?_⟩)))
  refine c_discard (th := th) (k := one) D.gd (D.site W (by decide)) (W.own D.below D.fr H.mem H.nd) H.os (is_int hone.1 (by omega)) fun s₂ o' c O' => ?_
  have W2 := W.chg (old := o.ents x) (Ext.mid (pre := [_, _, _, _, _, _, _])) c
  refine wpAny_execs_cons ?_
  refine asg_ne1 (l := hd) (xs := ys) (m := m) (c := L + 1 + 1 + 1) (co := k3) D W2 (by walk_at "mm") (allI H.row) (by omega) (by walk_at "mm") h3 rfl (fun q => nameX_L W2.fr H.held q) rfl rfl rfl fun s₃ r xs' m' W3 a3 => wpAny_execs_nil ?_
  exact h s₃ _ k2 x o' r xs' m' _ ⟨W3.ext (Ext.cons (by walk_at "pk") (Ext.cons (by walk_at "pk") (Ext.cons (by walk_at "pk") (Ext.cons (by walk_at "pk") (Ext.cons (by walk_at "pk") (Ext.cons (by walk_at "pk") (Ext.cons (by walk_at "pk") (Ext.cons (by walk_at "pk") (Ext.cons (by walk_at "pk") (Ext.cons (by walk_at "pk") Ext.nil)))))))))), osI O', allI a3, H.told, rfl, fun k hk => H.lt k (List.mem_filter.mp hk).1⟩
set_option maxHeartbeats 8000000 in
theorem deed6 (T : LawText w.params sc s0 s1 s2 s3 s5 d1 d2 d3 d4 d6 t it c0 c1 c2 c3 c4 c5 c6 c7 b0 b1 b2 b3 b4 b5 b6 b7 b8) (D : Std A base outer g w (envX "law" sc L fa cdv (lawCl L)) L)
    (H : LW th G O g L S l0 I0 lv k1 io k3 st s fl k2 x o hd ys m ks ex) (h3 : k3.data = .cell (some (.int one tk1))) (hone : 0 ≤ one ∧ one < 9)
    (h : ∀ s' fl' k2' x' o' hd' ys' m' ks', LW th G O g L S l0 I0 lv k1 io k3 st s' fl' k2' x' o' hd' ys' m' ks' [] → Q .next s') :
    wpAny (model prog w) (A.deeper (envX "law" sc L fa cdv (lawCl L))) (execs b6 (envX "law" sc L fa cdv (lawCl L))) Q E s := by
  obtain ⟨oc, od, dV, kV, doc, pm, an, cdv', ct, osl, params, fp, p0, p1, p2, p3, p4, p5, p6, p7, ho⟩ := T
  have XK : (Mine.hd.heap_39 w.params) = (Mine.hd.heap_39 w.params) ∧ PySem.Challenge.rw_eu0034_01 = PySem.Challenge.rw_eu0034_01 := ⟨rfl, rfl⟩
  revert XK
  k_fill
  intro _
  have e := (show (Mine.hd.heap_39 w.params).lookup 281 = some _ from by k_is)
  rw [e] at ho
  cases ho
  clear e
  have W := H.W
  refine wpAny_execs_cons (wpAny_Expr_any (methodCall_KW (nameX_C W.nw rfl (by walk_at "mm") H.told ?_)))
  refine method_S (W.kin D.X) H.there.inst (m_clear _) (mt_clear _) ?_
  refine callWith_K0 (W.kin D.X) (keep93 _) (wpAny_call ?_)
  refine c_clear (th := th) (ks := ks) D.gd (D.site W (by decide)) (W.own D.below D.fr H.mem H.nd) H.os fun s₂ o' c O' => ?_
  have W2 := W.chg (old := o.ents x) (Ext.mid (pre := [_, _, _, _, _, _, _])) c
  refine wpAny_execs_cons (wpAny_Assign_Name (List_ (args_nil (wpAny_newObj_type ?_))))
  have W3 := W2.push (lstO #[] 0) rfl (t := s₂.toks)
  refine store_W W3 fun s₆ W6 F6 => wpAny_execs_nil ?_
  exact h s₆ _ k2 x o' _ #[] 0 [] ⟨W6.ext (Ext.cons (by walk_at "pk") (Ext.cons (by walk_at "pk") (Ext.cons (by walk_at "pk") (Ext.cons (by walk_at "pk") (Ext.cons (by walk_at "pk") (Ext.cons (by walk_at "pk") (Ext.cons (by walk_at "pk") (Ext.cons (by walk_at "pk") (Ext.cons (by walk_at "pk") (Ext.cons (by walk_at "pk") Ext.nil)))))))))), osI O', .nil, H.told, rfl, fun k hk => by cases hk⟩
end
end
end
section
open PySem PySem.W PyProof.Rows PySem.Calls Builtin
set_option Elab.async false
set_option maxRecDepth 100000
set_option pp.deepTerms false
set_option pp.maxSteps 1500
set_option linter.unusedVariables false
section
variable {prog : Program} {w : World} {κ : Type} [DecidableEq κ] {ek : EK prog w κ} {th : SetTh ek}
  {A : Around} {E : Value → Shared → Prop} {s s' s₁ : Shared} {R : Result → Shared → Prop} {x : Addr} {ks kb kl km : List κ} {k : κ} {v v2 : Value} {w0 : List Addr} {name : Str} {id T : String}
  {G : Array GenState} {O : OsState} {g base : Heap} {outer : List Env} {L a r l : Addr} {fl : List (Str × Value)} {news old upd rest foot : List (Addr × Obj)} {ob ob' : Obj} {f : Obj → List (Addr × Obj)} {o o' : Tob} {xs : Array Value} {m : Nat}
section
variable (P : Params)
theorem g_goes : nsIn (KK P) mainGlobals "_law_goes" = some (some (.ref 276)) := by kernel_rfl
theorem keep276 : keepIn (KK P) (.ref 276) = true := by kernel_rfl
end
theorem frame_dict {env : Env} (W : Wd G O g L s fl news) (hf : env.frame = some L) : KtsDicts ((env :: ([] : List Env)).filterMap (·.frame)) s.heap := fun b hb => by
  have e : (env :: ([] : List Env)).filterMap (·.frame) = [L] := by simp [hf]
  rw [e] at hb
  rw [List.mem_singleton.mp hb]
  obtain ⟨oL, es, ep, hL, hd, _⟩ := W.fr.ns
  exact ⟨oL, es, ep, hL, hd⟩
theorem ne_none {Q : Value → Shared → Prop} (h : Q (.bool false) s) : wpAny (model prog w) A (compareOp .NotEq .none .none) Q E s := by
  show wpAny _ _ (richCompare .NotEq _ _) _ _ _
  exact SeqAt.RcNeAt.none_none prog w E Q h
section
variable {S l0 I0 fa : Addr} {lv k1 io k3 st k2 : Obj} {hd : Addr} {ys : Array Value} {ks : List Int} {ex : List (Addr × Obj)} {th : SetTh (ekI prog w)} {cdv : Value} {sc : Scope} {s0 s1 s2 s3 s5 d1 d2 d3 d4 d6 : Stmt} {t it c0 c1 c2 c3 c4 c5 c6 c7 : Expr} {b0 b1 b2 b3 b4 b5 b6 b7 b8 : List Stmt} {one : Int} {tk1 : Tok} {Q : Flow → Shared → Prop}
set_option maxHeartbeats 8000000 in
theorem deed3 (T : LawText w.params sc s0 s1 s2 s3 s5 d1 d2 d3 d4 d6 t it c0 c1 c2 c3 c4 c5 c6 c7 b0 b1 b2 b3 b4 b5 b6 b7 b8) (D : Std A base outer g w (envX "law" sc L fa cdv (lawCl L)) L)
    (H : LW th G O g L S l0 I0 lv k1 io k3 st s fl k2 x o hd ys m ks ex) (h3 : k3.data = .cell (some (.int one tk1))) (hone : 0 ≤ one ∧ one < 9) (ho0 : outer = []) {p : Program} {lo : List Str} {mean : ExcName → Option Value} {mg mb : Str → Option Value} (TB : Top p lo mean mg mb base)
    (h : ∀ s' fl' k2' x' o' hd' ys' m' ks', LW th G O g L S l0 I0 lv k1 io k3 st s' fl' k2' x' o' hd' ys' m' ks' [] → Q .next s') :
    wpAny (model prog w) (A.deeper (envX "law" sc L fa cdv (lawCl L))) (execs b3 (envX "law" sc L fa cdv (lawCl L))) Q E s := by
  obtain ⟨oc, od, dV, kV, doc, pm, an, cdv', ct, osl, params, fp, p0, p1, p2, p3, p4, p5, p6, p7, ho⟩ := T
  have XK : (Mine.hd.heap_39 w.params) = (Mine.hd.heap_39 w.params) ∧ PySem.Challenge.rw_eu0034_01 = PySem.Challenge.rw_eu0034_01 := ⟨rfl, rfl⟩
  revert XK
  k_fill
  intro _
  have e := (show (Mine.hd.heap_39 w.params).lookup 281 = some _ from by k_is)
  rw [e] at ho
  cases ho
  clear e
  subst ho0
  have hh := D.rm.hand
  have W := H.W
  have hz := H.os.small
  refine wpAny_execs_cons (wpAny_If (wpAny_mono (Q := fun b s₄ => b = false ∧ ∃ o', Wd G O g L s₄ fl (o'.ents x ++ ([(S, st), (I0, io), (l0, lv), (L + 1, k1), (L + 1 + 1, k2), (L + 1 + 1 + 1, k3), (hd, lstO ys m)] ++ ex)) ∧ OS th s₄.heap o' (ks.filter fun y => decide (y ≠ one))) (wpAny_isTrue_Compare1 (Call_ (kName D.gd W D.below.stays (g_goes _) ?test))) (fun b s₄ z => ?tail) fun _ _ z => z))
  case test =>
    refine callWith_K D.X (keep276 _) (args_cons (nameX_C W.nw rfl (by walk_at "mm") H.told (args_cons (wpAny_Constant_int (args_cons ?_)))))
    have W := W.toks (t := s.toks + 1)
    refine nameX_C W.nw rfl (by walk_at "mm") h3 (args_nil ⟨W.kin D.X, wpAny_call ?_⟩)
    refine c_goes (th := th) (k := one) D.gd TB (D.site W (by decide)) (W.own D.below D.fr H.mem H.nd) (osI H.os) (is_int hone.1 (by omega)) (frame_dict W D.fr) (.inl rfl) fun s₂ o' u ks' c O' hu _ => ?_
    obtain ⟨rfl, rfl⟩ := hu rfl
    have c : ChgT [L] _ _ _ _ := c
    have W2 := W.chgT (old := o.ents x) (Ext.mid (pre := [_, _, _, _, _, _, _])) c
    refine wpAny_IfExp (wpAny_isTrue_Compare1 (nameX_C W2.nw rfl (by walk_at "mm") h3 (nameX_L W2.fr H.held ?_)))
    refine inOp_lst (ek := ekI prog w) (ks := ks) (xs := ys) (m := m) (Wd.ok3 D) (W2.get (by walk_at "mm")) (allI H.row) (is_int hone.1 (by omega)) fun s₃ K3 => wpAny_truthy_bool ?_
    have W3 := W2.fx0 (Fx.of_keeps K3 [])
    by_cases hm : one ∈ ks
    · rw [if_pos (decide_eq_true hm), if_pos hm]
      refine nameX_C W3.nw rfl (by walk_at "mm") h3 (PySem.P.ne_int (wpAny_truthy_bool ?_))
      exact ⟨by simp, o', W3, osI O'⟩
    · rw [if_neg (by simpa using hm), if_neg hm]
      refine wpAny_Constant_none (ne_none (wpAny_truthy_bool ?_))
      exact ⟨rfl, o', W3, osI O'⟩
  obtain ⟨rfl, o', W4, O'⟩ := z
  rw [if_neg (by decide)]
  refine wpAny_execs_nil (wpAny_execs_cons ?_)
  refine asg_ne1 (l := hd) (xs := ys) (m := m) (c := L + 1 + 1 + 1) (co := k3) D W4 (by walk_at "mm") (allI H.row) (by omega) (by walk_at "mm") h3 rfl (fun q => nameX_L W4.fr H.held q) rfl rfl rfl fun s₅ r xs' m' W5 a5 => wpAny_execs_nil ?_
  exact h s₅ _ k2 x o' r xs' m' _ ⟨W5.ext (Ext.cons (by walk_at "pk") (Ext.cons (by walk_at "pk") (Ext.cons (by walk_at "pk") (Ext.cons (by walk_at "pk") (Ext.cons (by walk_at "pk") (Ext.cons (by walk_at "pk") (Ext.cons (by walk_at "pk") (Ext.cons (by walk_at "pk") (Ext.cons (by walk_at "pk") (Ext.cons (by walk_at "pk") Ext.nil)))))))))), osI O', allI a5, H.told, rfl, fun k hk => H.lt k (List.mem_filter.mp hk).1⟩
end
end
end
section
open PySem PySem.W PyProof.Rows PySem.Calls Builtin
set_option Elab.async false
set_option maxRecDepth 100000
set_option pp.deepTerms false
set_option pp.maxSteps 1500
set_option linter.unusedVariables false
section
variable {prog : Program} {w : World} {κ : Type} [DecidableEq κ] {ek : EK prog w κ} {th : SetTh ek}
  {A : Around} {E : Value → Shared → Prop} {s s' s₁ : Shared} {R : Result → Shared → Prop} {x : Addr} {ks kb kl km : List κ} {k : κ} {v v2 : Value} {w0 : List Addr} {name : Str} {id T : String}
  {G : Array GenState} {O : OsState} {g base : Heap} {outer : List Env} {L a r l : Addr} {fl : List (Str × Value)} {news old upd rest foot : List (Addr × Obj)} {ob ob' : Obj} {f : Obj → List (Addr × Obj)} {o o' : Tob} {xs : Array Value} {m : Nat}
theorem item_negR {value slice : Expr} {l : Addr} {items : Array Value} {k : Int} {u : Tok} {x : Value} {Q : Value → Shared → Prop} (hl : s.heap.IsList l items)
    (h0 : k < 0) (h1 : -(items.size : Int) ≤ k) (hfit : -(2 ^ 63) ≤ k) (hx : items[(k + items.size).toNat]? = some x) (h : Q x s)
    (hs : subscripted slice false (.ref l) (.int k u) = operate [.ref l, .int k u] (getItem (.ref l) (.int k u)) := by with_unfolding_all rfl) :
    wpAny (model prog w) A (subscriptTail value slice (.ref l) (.int k u)) Q E s :=
  subscriptTail_builtinR hl.typeIs slot_list_getitem.lookup (wpAny_getItem_list_neg (Q := fun r s' => r = x ∧ Q r s') hl h0 h1 hfit hx ⟨rfl, h⟩) hs
section
variable {S l0 I0 fa : Addr} {lv k1 io k3 st k2 : Obj} {hd : Addr} {ys : Array Value} {ks : List Int} {ex : List (Addr × Obj)} {th : SetTh (ekI prog w)} {cdv : Value} {sc : Scope} {s0 s1 s2 s3 s5 d1 d2 d3 d4 d6 : Stmt} {t it c0 c1 c2 c3 c4 c5 c6 c7 : Expr} {b0 b1 b2 b3 b4 b5 b6 b7 b8 : List Stmt} {one : Int} {tk1 : Tok} {Q : Flow → Shared → Prop}
set_option maxHeartbeats 8000000 in
theorem deed4 (T : LawText w.params sc s0 s1 s2 s3 s5 d1 d2 d3 d4 d6 t it c0 c1 c2 c3 c4 c5 c6 c7 b0 b1 b2 b3 b4 b5 b6 b7 b8) (D : Std A base outer g w (envX "law" sc L fa cdv (lawCl L)) L)
    (H : LW th G O g L S l0 I0 lv k1 io k3 st s fl k2 x o hd ys m ks ex) (h3 : k3.data = .cell (some (.int one tk1))) (hone : 0 ≤ one ∧ one < 9) (ho0 : outer = []) {p : Program} {lo : List Str} {mean : ExcName → Option Value} {mg mb : Str → Option Value} (TB : Top p lo mean mg mb base)
    (h : ∀ s' fl' k2' x' o' hd' ys' m' ks', LW th G O g L S l0 I0 lv k1 io k3 st s' fl' k2' x' o' hd' ys' m' ks' [] → Q .next s') :
    wpAny (model prog w) (A.deeper (envX "law" sc L fa cdv (lawCl L))) (execs b4 (envX "law" sc L fa cdv (lawCl L))) Q E s := by
  obtain ⟨oc, od, dV, kV, doc, pm, an, cdv', ct, osl, params, fp, p0, p1, p2, p3, p4, p5, p6, p7, ho⟩ := T
  have XK : (Mine.hd.heap_39 w.params) = (Mine.hd.heap_39 w.params) ∧ PySem.Challenge.rw_eu0034_01 = PySem.Challenge.rw_eu0034_01 := ⟨rfl, rfl⟩
  revert XK
  k_fill
  intro _
  have e := (show (Mine.hd.heap_39 w.params).lookup 281 = some _ from by k_is)
  rw [e] at ho
  cases ho
  clear e
  subst ho0
  have hh := D.rm.hand
  have W := H.W
  have hz := H.os.small
  have sz : ys.size = ks.length := by rw [← Array.length_toList, EK.All.length H.row]
  refine wpAny_execs_cons (wpAny_If (wpAny_mono (Q := fun b s₄ => b = false ∧ ∃ o', Wd G O g L s₄ fl (o'.ents x ++ ([(S, st), (I0, io), (l0, lv), (L + 1, k1), (L + 1 + 1, k2), (L + 1 + 1 + 1, k3), (hd, lstO ys m)] ++ ex)) ∧ OS th s₄.heap o' ks.dropLast) (wpAny_isTrue_Compare1 (Call_ (kName D.gd W D.below.stays (g_goes _) ?test))) (fun b s₄ z => ?tail) fun _ _ z => z))
  case test =>
    refine callWith_K D.X (keep276 _) (args_cons (nameX_C W.nw rfl (by walk_at "mm") H.told (args_cons (wpAny_Constant_int (args_cons ?_)))))
    have W := W.toks (t := s.toks + 1)
    refine nameX_C W.nw rfl (by walk_at "mm") h3 (args_nil ⟨W.kin D.X, wpAny_call ?_⟩)
    refine c_goes (th := th) (k := one) D.gd TB (D.site W (by decide)) (W.own D.below D.fr H.mem H.nd) (osI H.os) (is_int hone.1 (by omega)) (frame_dict W D.fr) (.inr rfl) fun s₂ o' u ks' c O' _ hu => ?_
    have c : ChgT [L] _ _ _ _ := c
    have W2 := W.chgT (old := o.ents x) (Ext.mid (pre := [_, _, _, _, _, _, _])) c
    refine Subscript_ (wpAny_BinOp (nameX_L W2.fr H.held (List_ (args_cons (wpAny_Constant_none (args_nil (wpAny_newObj_type ?_)))))))
    have W3 := W2.push (lstO #[.none] 0) rfl (t := s₂.toks)
    refine add_lst (l := hd) (xs := ys) (m := m) (W3.get (by walk_at "mm")) (W3.get (.head _)) (by rw [sizeLine_eq, show (#[Value.none]).size = 1 from rfl]; omega) fun s₄ D4 F4 hD4 e4 => ?_
    have W4 := W3.fxNew F4 hD4 e4
    refine wpAny_IfExp (wpAny_isTrue_Compare1 (nameX_L W4.fr H.held (List_ (args_nil (wpAny_newObj_type ?_)))))
    have W5 := W4.push (lstO #[] 0) rfl (t := s₄.toks)
    refine eq_lists (ks := ks) (kl := []) (l := hd) (xs := ys) (m := m) (Wd.ok3 D) W5 (by walk_at "mm") (.head _) (allI H.row) .nil fun s₆ W6 => wpAny_truthy_bool ?_
    have sz1 : (ys ++ #[Value.none]).size = ks.length + 1 := by rw [Array.size_append, sz]; rfl
    by_cases hm : ks = []
    · subst hm
      rw [if_pos (by decide)]
      obtain ⟨_, rfl, rfl⟩ : ([] : List Int) = [] ∧ ks' = [] ∧ u = .none := by
        rcases hu rfl with z | ⟨ks0, k', e, _⟩
        · exact z
        · exact absurd e (by simp)
      have ysn : ys = #[] := Array.size_eq_zero_iff.mp sz
      subst ysn
      refine wpAny_UnaryOp (wpAny_Constant_int (PySem.P.neg_int ?_))
      have W7 := W6.toks (t := s₆.toks + 1 + 1)
      refine item_negR (x := .none) ⟨_, W7.get (a := D4) (by walk_at "mm"), rfl, 0, rfl⟩ (by decide) (by decide) (by decide) (by decide) ?_
      refine ne_none (wpAny_truthy_bool ⟨rfl, o', (W7.sub (.cons _ (.cons _ (.cons _ (.refl _))))), osI O'⟩)
    · rw [if_neg (by simpa using hm)]
      obtain ⟨ks0, k', e0, rfl, hk'⟩ : ∃ ks0 k', ks = ks0 ++ [k'] ∧ ks' = ks0 ∧ (ekI prog w).is s₂.heap k' u := by
        rcases hu rfl with ⟨z, _⟩ | z
        · exact absurd z hm
        · exact z
      refine wpAny_BinOp (ev_lenl (l := hd) (xs := ys) (m := m) D W6 (by walk_at "mm") (allI H.row) (by omega) (fun q => nameX_L W6.fr H.held q) fun s₇ tk W7 => ?_)
      refine wpAny_Constant_int (PySem.P.sub_int ?_)
      have W8 := W7.toks (t := s₇.toks + 1 + 1)
      have len1 : 0 < ks.length := List.length_pos_iff.mpr hm
      have hix : ks.length - 1 < ys.size := by omega
      obtain ⟨tu, rfl⟩ := ek_int hk'
      obtain ⟨te, he⟩ : ∃ te, ys[ks.length - 1]'hix = .int k' te := by
        obtain ⟨b, hb, hr⟩ := All2.get H.row (i := ks.length - 1) (a := ys[ks.length - 1]'hix) (by simp [hix])
        rw [e0] at hb
        have : b = k' := by simpa using hb.symm
        rw [this] at hr
        exact ek_int hr
      refine item_listR (items := ys ++ #[Value.none]) (x := .int k' te) ⟨_, W8.get (a := D4) (by walk_at "mm"), rfl, 0, rfl⟩ (by omega) (by omega) ?_ ?_
      · rw [show ((ks.length : Int) - 1).toNat = ks.length - 1 by omega, Array.getElem?_append_left hix, Array.getElem?_eq_getElem hix, he]
      · refine PySem.P.ne_int (wpAny_truthy_bool ⟨by simp, o', (W8.sub (.cons _ (.cons _ (.cons _ (.refl _))))), osI (h := s₂.heap) ?_⟩)
        rw [e0, List.dropLast_concat]
        exact O'
  obtain ⟨rfl, o', W4, O'⟩ := z
  rw [if_neg (by decide)]
  refine wpAny_execs_nil (wpAny_execs_cons (wpAny_Assign_Name (slice_butLast (nameX_L W4.fr H.held (wpAny_UnaryOp (wpAny_Constant_int (PySem.P.neg_int ?_)))))))
  have W5 := W4.toks (t := s₄.toks + 1 + 1)
  refine ⟨hd, ys, m, _, rfl, rfl, W5.get (by walk_at "mm"), by rw [sizeLine_eq]; omega, fun s₆ r F6 hr e6 => ?_⟩
  have W6 := W5.fxNew F6 hr e6
  refine store_W W6 fun s₇ W7 F7 => wpAny_execs_nil ?_
  refine h s₇ _ k2 x o' r _ 0 ks.dropLast ⟨W7.ext (Ext.cons (by walk_at "pk") (Ext.cons (by walk_at "pk") (Ext.cons (by walk_at "pk") (Ext.cons (by walk_at "pk") (Ext.cons (by walk_at "pk") (Ext.cons (by walk_at "pk") (Ext.cons (by walk_at "pk") (Ext.cons (by walk_at "pk") (Ext.cons (by walk_at "pk") (Ext.cons (by walk_at "pk") Ext.nil)))))))))), osI O', ?_, H.told, rfl, fun k hk => H.lt k (List.dropLast_subset _ hk)⟩
  show All2 _ ys.toList.dropLast ks.dropLast
  rw [List.dropLast_eq_take, List.dropLast_eq_take, Array.length_toList, sz]
  exact All2.take (allI (h' := s₇.heap) H.row) _
end
end
end
section
open PySem PySem.W PyProof.Rows PySem.Calls Builtin
set_option Elab.async false
set_option maxRecDepth 100000
set_option pp.deepTerms false
set_option pp.maxSteps 1500
set_option linter.unusedVariables false
section
variable {prog : Program} {w : World} {κ : Type} [DecidableEq κ] {ek : EK prog w κ} {th : SetTh ek}
  {A : Around} {E : Value → Shared → Prop} {s s' s₁ : Shared} {R : Result → Shared → Prop} {x : Addr} {ks kb kl km : List κ} {k : κ} {v v2 : Value} {w0 : List Addr} {name : Str} {id T : String}
  {G : Array GenState} {O : OsState} {g base : Heap} {outer : List Env} {L a r l : Addr} {fl : List (Str × Value)} {news old upd rest foot : List (Addr × Obj)} {ob ob' : Obj} {f : Obj → List (Addr × Obj)} {o o' : Tob} {xs : Array Value} {m : Nat}
theorem repr_call_lst {ks : List Int} {Q : Value → Shared → Prop} (hA : AOk3 A) (hg : A.guards = some []) (hl : s.heap.get? l = some (lstO xs m)) (hr : (ekI prog w).All s.heap xs.toList ks) (hz : ks.length ≤ 12)
    (h : ∀ s' u, Fx s s' [] → Q (.str (shownL ks) u) s') : wpAny (model prog w) A (call (.builtin "repr") [.ref l]) Q E s := by
  obtain ⟨a, b, c, d⟩ := small_ints (kl_small hr)
  have hd : (PyData.list (ks.map PyData.int)).depth = 1 := by show PyData.depthAll _ + 1 = 1; rw [d]
  have := shown_small hr hz
  exact repr_of_reads' (reads_lst hl hr) a (PyData.noDict_hsm (hasDict_ints ks)) hg (by rw [hd]; have := hA.units; omega) (fun _ _ e => e) (fun h' u tk k => h _ u ⟨fun b o e _ => k b o e, rfl, rfl⟩) (by rw [sizeLine_eq]; omega)
section
variable {S l0 I0 fa : Addr} {lv k1 io k3 st k2 : Obj} {hd : Addr} {ys : Array Value} {ks : List Int} {ex : List (Addr × Obj)} {th : SetTh (ekI prog w)} {cdv : Value} {sc : Scope} {s0 s1 s2 s3 s5 d1 d2 d3 d4 d6 : Stmt} {t it c0 c1 c2 c3 c4 c5 c6 c7 : Expr} {b0 b1 b2 b3 b4 b5 b6 b7 b8 : List Stmt} {one : Int} {tk1 : Tok} {Q : Flow → Shared → Prop}
set_option maxHeartbeats 8000000 in
theorem deed5 (T : LawText w.params sc s0 s1 s2 s3 s5 d1 d2 d3 d4 d6 t it c0 c1 c2 c3 c4 c5 c6 c7 b0 b1 b2 b3 b4 b5 b6 b7 b8) (D : Std A base outer g w (envX "law" sc L fa cdv (lawCl L)) L)
    (H : LW th G O g L S l0 I0 lv k1 io k3 st s fl k2 x o hd ys m ks ex) (h3 : k3.data = .cell (some (.int one tk1))) (hone : 0 ≤ one ∧ one < 9) (hg : A.guards = some [])
    (h : ∀ s' fl' k2' x' o' hd' ys' m' ks', LW th G O g L S l0 I0 lv k1 io k3 st s' fl' k2' x' o' hd' ys' m' ks' [] → Q .next s') :
    wpAny (model prog w) (A.deeper (envX "law" sc L fa cdv (lawCl L))) (execs b5 (envX "law" sc L fa cdv (lawCl L))) Q E s := by
  obtain ⟨oc, od, dV, kV, doc, pm, an, cdv', ct, osl, params, fp, p0, p1, p2, p3, p4, p5, p6, p7, ho⟩ := T
  have XK : (Mine.hd.heap_39 w.params) = (Mine.hd.heap_39 w.params) ∧ PySem.Challenge.rw_eu0034_01 = PySem.Challenge.rw_eu0034_01 := ⟨rfl, rfl⟩
  revert XK
  k_fill
  intro _
  have e := (show (Mine.hd.heap_39 w.params).lookup 281 = some _ from by k_is)
  rw [e] at ho
  cases ho
  clear e
  have W := H.W
  have hz := H.os.small
  have sz : ys.size = ks.length := by rw [← Array.length_toList, EK.All.length H.row]
  refine wpAny_execs_cons (wpAny_Assign_Name (methodCall_KW (nameX_C W.nw rfl (by walk_at "mm") H.told ?_)))
  refine method_S (W.kin D.X) H.there.inst (m_copy _) (mt_copy _) ?_
  refine callWith_K0 (W.kin D.X) (keep44 _) (wpAny_call ?_)
  refine c_copy (th := th) (ks := ks) D.gd (D.site W (by decide)) H.there H.os fun s₂ x' o' c O' => ?_
  have W2 := W.chg (old := []) .nil c
  refine store_W W2 fun s₃ W3 F3 => ?_
  have H3 : There s₃.heap x' o' := W3.there fun p hp => List.mem_append_left _ hp
  refine wpAny_execs_cons (wpAny_Expr_any (methodCall_KW (nameX_L W3.fr rfl ?_)))
  refine method_S (W3.kin D.X) H3.inst (m_add _) (mt_add _) ?_
  refine callWith_K D.X (keep58 _) (args_cons (wpAny_Constant_int (args_nil ?_)))
  have W3 := W3.toks (t := s₃.toks + 1)
  refine ⟨W3.kin D.X, wpAny_call ?_⟩
  have ndx : ((o'.ents x').map (·.1)).Nodup := by
    have z := W3.nd
    rw [List.map_append] at z
    exact (List.nodup_append.mp z).1
  refine c_add (th := th) (ks := ks) (k := 10) D.gd (D.site W3 (by decide)) (W3.own D.below D.fr (fun p hp => List.mem_append_left _ hp) ndx) (osI O') (is_int (by decide) (by decide)) fun s₄ o₄ c₄ _ O₄ => ?_
  have W4 := W3.chg (old := o'.ents x') Ext.front c₄
  have n10 : (10 : Int) ∉ ks := fun q => absurd (H.lt _ q) (by decide)
  rw [show addK ks 10 = ks ++ [10] from if_neg n10] at O₄
  refine wpAny_execs_cons (wpAny_If (isTrue_or (wpAny_isTrue_Compare1 ?_)))
  refine ev_list (th := th) (ks := ks ++ [10]) (x := x') (o := o₄) D W4 (fun p hp => List.mem_append_left _ hp) O₄ (fun q => nameX_L W4.fr rfl q) fun s₅ r5 xs5 m5 W5 a5 => ?_
  have held5 : (("other", Value.ref x') :: fl : List (Str × Value)).lookup ("held" : Str) = some (.ref hd) := (lk_skip (by decide)).trans H.held
  refine wpAny_BinOp (nameX_L W5.fr held5 (List_ (args_cons (wpAny_Constant_int (args_nil (wpAny_newObj_type ?_))))))
  have W6 := W5.push (lstO #[.int 10 s₅.toks] 0) rfl (t := s₅.toks + 1)
  refine add_lst (l := hd) (xs := ys) (m := m) (W6.get (by walk_at "mm")) (W6.get (.head _)) (by rw [sizeLine_eq, show (#[Value.int 10 s₅.toks]).size = 1 from rfl]; omega) fun s₇ D7 F7 hD7 e7 => ?_
  have W7 := W6.fxNew F7 hD7 e7
  have a7 : (ekI prog w).All s₇.heap (ys ++ #[Value.int 10 s₅.toks]).toList (ks ++ [10]) := by
    rw [Array.toList_append]
    exact All2.app (allI (h' := s₇.heap) H.row) (.cons (is_int (by decide) (by decide)) .nil)
  refine ne_lists (ks := ks ++ [10]) (kl := ks ++ [10]) (l := r5) (xs := xs5) (m := m5) (Wd.ok3 D) W7 (by walk_at "mm") (.head _) (allI a5) a7 fun s₈ W8 => wpAny_truthy_bool ?_
  rw [if_neg (by simp)]
  refine isTrue_or (wpAny_isTrue_Compare1 (Call_ (bName (v := .builtin "repr") D.gd W8 D.below.stays (g_repr _) (by kernel_rfl) ?_)))
  refine PyProof.Rows.callWith_builtin1 (args_cons (nameX_C W8.nw rfl (by walk_at "mm") H.told (args_nil ?_)))
  have H8 : There s₈.heap x o := W8.there fun p hp => .tail _ (.tail _ (.tail _ (List.mem_append_right _ (H.mem p hp))))
  refine repr_K (by have := D.rm.units; show _ + 1 < _; omega) W8.fr D.X H8.inst (m_repr _) (fn_121 _) (wpAny_call ?_)
  refine c_repr (th := th) (ks := ks) D.gd (D.site W8 (d := 56) (by decide)).in1 hg H8 (osI H.os) fun s₉ u9 F9 => ?_
  have W9 := W8.fx0 F9
  refine wpAny_BinOp (wpAny_BinOp (wpAny_Constant_str (Call_ (bName (v := .builtin "repr") D.gd W9.toks D.below.stays (g_repr _) (by kernel_rfl) ?_))))
  have W10 := W9.toks (t := s₉.toks + 1)
  refine PyProof.Rows.callWith_builtin1 (args_cons (nameX_L W10.fr held5 (args_nil ?_)))
  refine repr_call_lst (ks := ks) (l := hd) (xs := ys) (m := m) (Wd.ok3 D) hg (W10.get (by walk_at "mm")) (allI H.row) hz fun s₁₁ u11 F11 => ?_
  have ssm : (shownL ks).length ≤ 800 := shown_small H.row hz
  have e11 : ("OrderedSet(" : Str).length = 11 := by decide +kernel
  have e1 : (")" : Str).length = 1 := by decide +kernel
  refine PyProof.Rows.add_str (fun t' k12 => ?_) (by rw [sizeLine_eq]; omega)
  refine wpAny_Constant_str (PyProof.Rows.add_str (fun t13 k13 => ?_) (by rw [strLen_append, sizeLine_eq]; omega))
  refine PyProof.Rows.ne_str (wpAny_truthy_bool ?_)
  have W12 := (W10.fx0 F11).toks (t := k13)
  rw [if_neg (by simp)]
  refine isTrue_or_nil ?_
  rw [if_neg (by decide)]
  refine wpAny_execs_nil (wpAny_execs_nil ?_)
  exact h _ _ k2 x o hd ys m ks ⟨W12.ext (Ext.cons (by walk_at "pk") (Ext.cons (by walk_at "pk") (Ext.cons (by walk_at "pk") (Ext.cons (by walk_at "pk") (Ext.cons (by walk_at "pk") (Ext.cons (by walk_at "pk") (Ext.cons (by walk_at "pk") (Ext.cons (by walk_at "pk") (Ext.cons (by walk_at "pk") (Ext.cons (by walk_at "pk") Ext.nil)))))))))), osI H.os, allI H.row, H.told, held5, H.lt⟩
end
end
end
section
open PySem PySem.W PyProof.Rows PySem.Calls Builtin
set_option Elab.async false
set_option maxRecDepth 100000
set_option pp.deepTerms false
set_option pp.maxSteps 1500
set_option linter.unusedVariables false
section
variable {prog : Program} {w : World} {κ : Type} [DecidableEq κ] {ek : EK prog w κ} {th : SetTh ek}
  {A : Around} {E : Value → Shared → Prop} {s s' s₁ : Shared} {R : Result → Shared → Prop} {x : Addr} {ks kb kl km : List κ} {k : κ} {v v2 : Value} {w0 : List Addr} {name : Str} {id T : String}
  {G : Array GenState} {O : OsState} {g base : Heap} {outer : List Env} {L a r l : Addr} {fl : List (Str × Value)} {news old upd rest foot : List (Addr × Obj)} {ob ob' : Obj} {f : Obj → List (Addr × Obj)} {o o' : Tob} {xs : Array Value} {m : Nat}
theorem lst_eq_len {l2 : Addr} {ys : Array Value} {m2 : Nat} {Q : Value → Shared → Prop} (hA : AOk3 A) (hl : s.heap.get? l = some (lstO xs m)) (hl2 : s.heap.get? l2 = some (lstO ys m2)) (hz : xs.size ≠ ys.size)
    (h : ∀ s', Keeps s s' → Q (.bool false) s') : wpAny (model prog w) A (compareOp .Eq (.ref l) (.ref l2)) Q E s := by
  show wpAny _ _ (richCompare .Eq _ _) _ _ _
  have hT : s.TypeIs (.ref l) "list" := ⟨_, hl, rfl⟩
  have hT2 : s.TypeIs (.ref l2) "list" := ⟨_, hl2, rfl⟩
  refine wpAny_richCompare_same_room hT hT2 PySem.F.slot_list_eq (wpAny_call ?_) (by have := hA.units; omega)
  refine codeAny_call_builtin PySem.F.slot_list_eq.plain PySem.F.entry_list_eq (PySem.F.slot_list_eq.check _ _ _ _ _ _ _ _ hT (PySem.F.args_list_eq_2 _ _) ?_)
  obtain ⟨hp, g, d, tk, os⟩ := s
  have f3 := AutoSeq1.sub_list_list
  have hne : (xs.size != ys.size) = true := by simpa using hz
  wp_walk using wpAny_loadPart' hl, wpAny_loadPart' hl2
  exact ⟨by simp, h _ (kp_self _)⟩
inductive MoreE (prog : Program) (w : World) (ex : List (Addr × Obj)) (lm : Addr) : Option (List Int) → Prop
  | no (m : Nat) : (lm, lstO #[] m) ∈ ex → MoreE prog w ex lm none
  | one (m : Nat) (l1 : Addr) (zs : Array Value) (m1 : Nat) (km : List Int) : (lm, lstO #[.ref l1] m) ∈ ex → (l1, lstO zs m1) ∈ ex → (∀ h : Heap, (ekI prog w).All h zs.toList km) → km.Nodup → (∀ k ∈ km, k < 9) → MoreE prog w ex lm (some km)
theorem MoreE.is {ex : List (Addr × Obj)} {lm : Addr} {more : Option (List Int)} (M : MoreE prog w ex lm more) {h : Heap} (hh : ∀ p ∈ ex, h.get? p.1 = some p.2) : MoreIs (ekI prog w) h lm more := by
  cases M with
  | no m e => exact .no m (hh _ e)
  | one m l1 zs m1 km e e1 a nd lt => exact .one m l1 zs m1 km (hh _ e) (hh _ e1) (a h) (by have := below10 (a h) nd; omega)
theorem mem_plain {kind : Int} {ks kl : List Int} {k : Int} (h : k ∈ plain kind ks kl) : k ∈ ks ∨ k ∈ kl := by
  unfold plain at h
  split at h
  · rw [mem_addAll] at h
    rcases h with h | h
    · cases h
    · exact List.mem_append.mp h
  · split at h
    · exact .inl (List.mem_filter.mp h).1
    · split at h
      · exact .inl (List.mem_filter.mp h).1
      · rcases List.mem_append.mp h with h | h
        · exact .inl (List.mem_filter.mp h).1
        · exact .inr (List.mem_filter.mp h).1
theorem nodup_plain {kind : Int} {ks kl : List Int} (n1 : ks.Nodup) (n2 : kl.Nodup) : (plain kind ks kl).Nodup := by
  unfold plain
  split
  · exact nodup_addAll List.nodup_nil
  · split
    · exact n1.filter _
    · split
      · exact n1.filter _
      · refine List.nodup_append.mpr ⟨n1.filter _, n2.filter _, fun a ha b hb e => ?_⟩
        subst e
        have h1 := (List.mem_filter.mp ha).1
        have h2 := (List.mem_filter.mp hb).2
        simp [h1] at h2
section
variable (P : Params)
theorem g_made : nsIn (KK P) mainGlobals "_law_made" = some (some (.ref 264)) := by kernel_rfl
theorem keep264 : keepIn (KK P) (.ref 264) = true := by kernel_rfl
theorem g_handed : nsIn (KK P) mainGlobals "_law_handed" = some (some (.ref 254)) := by kernel_rfl
theorem keep254 : keepIn (KK P) (.ref 254) = true := by kernel_rfl
theorem g_plain : nsIn (KK P) mainGlobals "_law_plain" = some (some (.ref 259)) := by kernel_rfl
theorem keep259 : keepIn (KK P) (.ref 259) = true := by kernel_rfl
theorem g_turned : nsIn (KK P) mainGlobals "_law_turned" = some (some (.ref 269)) := by kernel_rfl
theorem keep269 : keepIn (KK P) (.ref 269) = true := by kernel_rfl
end
theorem ev_again {qual : Str} {sc : Scope} {fa : Addr} {cdv : Value} {cl : List (Str × Addr)} {kind : Int} {tk : Tok} {lm : Addr} {more : Option (List Int)} {ex : List (Addr × Obj)} {ks kl : List Int} {y : Str} {kk : Nat} {p1 p2 p3 p4 p5 p6 p7 p8 p9 p10 p11 pos : Pos} {Q : Value → Shared → Prop}
    (D : Std A base outer g w (envX qual sc L fa cdv cl) L) (W : Wd G O g L s fl ((l, lstO xs m) :: news)) (hex : ∀ p ∈ ex, p ∈ news) (M : MoreE prog w ex lm more) (a : (ekI prog w).All s.heap xs.toList (plain kind ks kl)) (n1 : ks.Nodup) (n2 : kl.Nodup)
    (hk : kind = 0 ∨ kind = 1 ∨ kind = 2 ∨ kind = 3) (hmo : fl.lookup ("more" : Str) = some (.ref lm)) (hkl : fl.lookup ("kind" : Str) = some (.int kind tk)) (hyl : fl.lookup y = some (.ref l)) (hyk : (envX qual sc L fa cdv cl).kindOf y = some .local) (hyd : (y == ("__debug__" : Str)) = false)
    (hkm : (envX qual sc L fa cdv cl).kindOf "more" = some .local) (hkk : (envX qual sc L fa cdv cl).kindOf "kind" = some .local) (hkp : (envX qual sc L fa cdv cl).kindOf "_law_plain" = some .globalImplicit) (hsk : sc.kind = .function)
    (h : ∀ s' r xs' m' pre, Wd G O g L s' fl ((r, lstO xs' m') :: (pre ++ news)) → (ekI prog w).All s'.heap xs'.toList (doneK kind ks kl more) → Q (.ref r) s') :
    wpAny (model prog w) (A.deeper (envX qual sc L fa cdv cl)) (eval (.IfExp (.Compare (.Name "more" p1) [.Eq] [.List [] p2] p3) (.Name y p4) (.Call (.Name "_law_plain" p5) [.Name "kind" p6, .Name y p7, .Subscript (.Name "more" p8) (.Constant (.int 0) kk p9) p10] [] p11) pos) (envX qual sc L fa cdv cl)) Q E s := by
  refine wpAny_IfExp (wpAny_isTrue_Compare1 (nameX_L W.fr hmo (List_ (args_nil (wpAny_newObj_type ?_))) hsk hkm))
  have W1 := W.push (lstO #[] 0) rfl (t := s.toks)
  cases M with
  | no m0 e0 =>
    refine eq_lists (ks := []) (kl := []) (l := lm) (xs := #[]) (m := m0) (Wd.ok3 D) W1 (.tail _ (.tail _ (hex _ e0))) (.head _) .nil .nil fun s₂ W2 => wpAny_truthy_bool ?_
    rw [if_pos (by decide)]
    exact nameX_L W2.fr hyl (h s₂ l xs m [_] (W2.perm (.swap _ _ _)) (allI a)) hsk hyk hyd
  | one m0 l1 zs m1 km e0 e1 am nd lt =>
    refine lst_eq_len (l := lm) (xs := #[.ref l1]) (m := m0) (ys := #[]) (m2 := 0) (Wd.ok3 D) (W1.get (.tail _ (.tail _ (hex _ e0)))) (W1.get (.head _)) (by simp) fun s₂ K2 => wpAny_truthy_bool ?_
    have W2 := W1.fx0 (Fx.of_keeps K2 [])
    rw [if_neg (by decide)]
    refine Call_ (kName D.gd W2 D.below.stays (g_plain _) ?_ hsk hkp)
    refine callWith_K D.X (keep259 _) (args_cons (nameX_L W2.fr hkl (args_cons (nameX_L W2.fr hyl (args_cons (Subscript_ (nameX_L W2.fr hmo (wpAny_Constant_int ?_) hsk hkm)) ) hsk hyk hyd)) hsk hkk))
    have W3 := W2.toks (t := s₂.toks + 1)
    refine item_listR (items := #[.ref l1]) (x := .ref l1) ⟨_, W3.get (.tail _ (.tail _ (hex _ e0))), rfl, m0, rfl⟩ (by decide) (by decide) rfl ?_
    refine args_nil ⟨W3.kin D.X, wpAny_call ?_⟩
    have z1 := below10 a (nodup_plain n1 n2)
    have z2 := below10 (am s.heap) nd
    refine c_plain (ek := ekI prog w) (kl := plain kind ks kl) (kb := km) D.gd (D.site W3 (by decide)) (W3.get (.tail _ (.head _))) (allI a) (W3.get (.tail _ (.tail _ (hex _ e1)))) (am _) (by omega) (by omega) hk fun s₄ D4 xs' m' ch a4 => ?_
    have W4 := W3.chg (old := []) .nil ch
    exact h s₄ D4 xs' m' [_, _] W4 a4
end
end
section
open PySem PySem.W PyProof.Rows PySem.Calls Builtin
set_option Elab.async false
set_option maxRecDepth 100000
set_option pp.deepTerms false
set_option pp.maxSteps 1500
set_option linter.unusedVariables false
section
variable {prog : Program} {w : World} {κ : Type} [DecidableEq κ] {ek : EK prog w κ} {th : SetTh ek}
  {A : Around} {E : Value → Shared → Prop} {s s' s₁ : Shared} {R : Result → Shared → Prop} {x : Addr} {ks kb kl km : List κ} {k : κ} {v v2 : Value} {w0 : List Addr} {name : Str} {id T : String}
  {G : Array GenState} {O : OsState} {g base : Heap} {outer : List Env} {L a r l : Addr} {fl : List (Str × Value)} {news old upd rest foot : List (Addr × Obj)} {ob ob' : Obj} {f : Obj → List (Addr × Obj)} {o o' : Tob} {xs : Array Value} {m : Nat}
theorem lt_done {kind : Int} {ks kl : List Int} {more : Option (List Int)} {ex : List (Addr × Obj)} {lm : Addr} (M : MoreE prog w ex lm more) (h1 : ∀ k ∈ ks, k < 9) (h2 : ∀ k ∈ kl, k < 9) : ∀ k ∈ doneK kind ks kl more, k < 9 := fun k hk => by
  cases M with
  | no m e => exact (mem_plain hk).elim (h1 k) (h2 k)
  | one m l1 zs m1 km e e1 a nd lt => exact (mem_plain hk).elim (fun z => (mem_plain z).elim (h1 k) (h2 k)) (lt k)
section
variable {S l0 I0 fa : Addr} {lv k1 io k3 st k2 : Obj} {hd : Addr} {ys : Array Value} {ks : List Int} {ex : List (Addr × Obj)} {th : SetTh (ekI prog w)} {cdv : Value} {sc : Scope} {s0 s1 s2 s3 s5 d1 d2 d3 d4 d6 : Stmt} {t it c0 c1 c2 c3 c4 c5 c6 c7 : Expr} {b0 b1 b2 b3 b4 b5 b6 b7 b8 : List Stmt} {one : Int} {tk1 : Tok} {Q : Flow → Shared → Prop}
set_option maxHeartbeats 8000000 in
theorem deed7 (T : LawText w.params sc s0 s1 s2 s3 s5 d1 d2 d3 d4 d6 t it c0 c1 c2 c3 c4 c5 c6 c7 b0 b1 b2 b3 b4 b5 b6 b7 b8) (D : Std A base outer g w (envX "law" sc L fa cdv (lawCl L)) L)
    (H : LW th G O g L S l0 I0 lv k1 io k3 st s fl k2 x o hd ys m ks ex) (h3 : k3.data = .cell (some (.int one tk1))) (hone : 0 ≤ one ∧ one < 9) {kind way : Int} {tk tw : Tok} {mn lm : Addr} {zs : Array Value} {mz : Nat} {kl : List Int} {more : Option (List Int)}
    (hkl : fl.lookup ("kind" : Str) = some (.int kind tk)) (hwl : fl.lookup ("way" : Str) = some (.int way tw)) (hmn : fl.lookup ("many" : Str) = some (.ref mn)) (hmo : fl.lookup ("more" : Str) = some (.ref lm))
    (hk : kind = 0 ∨ kind = 1 ∨ kind = 2 ∨ kind = 3) (hw : way = 0 ∨ way = 1 ∨ way = 2 ∨ way = 3) (hmw : more = none ∨ (kind ≠ 3 ∧ way ≠ 3 ∧ way ≠ 1))
    (hme : (mn, lstO zs mz) ∈ ex) (am : ∀ h : Heap, (ekI prog w).All h zs.toList kl) (ndm : kl.Nodup) (ltm : ∀ k ∈ kl, k < 9) (M : MoreE prog w ex lm more)
    (h : ∀ s' fl' k2' x' o' hd' ys' m' ks', LW th G O g L S l0 I0 lv k1 io k3 st s' fl' k2' x' o' hd' ys' m' ks' [] → Q .next s') :
    wpAny (model prog w) (A.deeper (envX "law" sc L fa cdv (lawCl L))) (execs b7 (envX "law" sc L fa cdv (lawCl L))) Q E s := by
  obtain ⟨oc, od, dV, kV, doc, pm, an, cdv', ct, osl, params, fp, p0, p1, p2, p3, p4, p5, p6, p7, ho⟩ := T
  have XK : (Mine.hd.heap_39 w.params) = (Mine.hd.heap_39 w.params) ∧ PySem.Challenge.rw_eu0034_01 = PySem.Challenge.rw_eu0034_01 := ⟨rfl, rfl⟩
  revert XK
  k_fill
  intro _
  have e := (show (Mine.hd.heap_39 w.params).lookup 281 = some _ from by k_is)
  rw [e] at ho
  cases ho
  clear e
  have W := H.W
  have hz := H.os.small
  have ndk : ks.Nodup := H.os.set.nodup
  have sz : ys.size = ks.length := by rw [← Array.length_toList, EK.All.length H.row]
  have hh := D.rm.hand
  have exm : ∀ p ∈ ex, p ∈ lawLed S I0 l0 L st io lv k1 k2 k3 hd (lstO ys m) (o.ents x ++ ex) := fun p hp => .tail _ (.tail _ (.tail _ (.tail _ (.tail _ (.tail _ (.tail _ (List.mem_append_right _ hp)))))))
  have z1 := below10 (am s.heap) ndm
  refine wpAny_execs_cons (assign_pair_sw hh (Call_ (kName D.gd W D.below.stays (g_made _) ?_)))
  refine callWith_K D.X (keep264 _) (args_cons (nameX_L W.fr hkl (args_cons (nameX_L W.fr hwl (args_cons (nameX_C W.nw rfl (by walk_at "mm") H.told (args_cons ?_)))))))
  refine Call_ (kName D.gd W D.below.stays (g_handed _) ?_)
  refine callWith_K D.X (keep254 _) (args_cons (nameX_L W.fr hwl (args_cons (nameX_L W.fr hmn (args_nil ⟨W.kin D.X, wpAny_call ?_⟩)))))
  refine c_handed (th := th) (kl := kl) D.gd (D.site W (by decide)) (W.get (exm _ hme)) (am _) ndm hw fun s₂ v hu ch hd2 => ?_
  have W2 := W.chg (old := []) .nil ch
  have up2 : ∀ p ∈ lawLed S I0 l0 L st io lv k1 k2 k3 hd (lstO ys m) (o.ents x ++ ex), p ∈ hu ++ lawLed S I0 l0 L st io lv k1 k2 k3 hd (lstO ys m) (o.ents x ++ ex) := fun p hp => List.mem_append_right _ hp
  refine args_cons (nameX_L W2.fr hmo (args_nil ⟨W2.kin D.X, wpAny_call ?_⟩))
  refine c_made (th := th) (ks := ks) (kl := kl) (more := more) D.gd (D.site W2 (by decide)) (W2.there fun p hp => up2 p (H.mem p hp)) (osI H.os) hd2 (fun p hp => W2.get (List.mem_append_left _ hp)) (M.is fun p hp => W2.get (up2 _ (exm p hp))) ndm (by omega) hk hw hmw fun s₃ x' o' c3 O3 => ?_
  have W3a := W2.chg (old := []) .nil c3
  have W3 : Wd G O g L s₃ fl (o'.ents x' ++ lawLed S I0 l0 L st io lv k1 k2 k3 hd (lstO ys m) (o.ents x ++ ex)) := W3a.sub ((List.sublist_append_right _ _).append_left _)
  clear W3a
  have up3 : ∀ p ∈ lawLed S I0 l0 L st io lv k1 k2 k3 hd (lstO ys m) (o.ents x ++ ex), p ∈ o'.ents x' ++ lawLed S I0 l0 L st io lv k1 k2 k3 hd (lstO ys m) (o.ents x ++ ex) := fun p hp => List.mem_append_right _ hp
  refine Call_ (kName D.gd W3 D.below.stays (g_plain _) ?_)
  refine callWith_K D.X (keep259 _) (args_cons (nameX_L W3.fr hkl (args_cons (nameX_L W3.fr H.held (args_cons (nameX_L W3.fr hmn (args_nil ⟨W3.kin D.X, wpAny_call ?_⟩)))))))
  refine c_plain (ek := ekI prog w) (kl := ks) (kb := kl) D.gd (D.site W3 (by decide)) (l := hd) (xs := ys) (m := m) (W3.get (by walk_at "mm")) (allI H.row) (W3.get (up3 _ (exm _ hme))) (am _) (by omega) (by omega) hk fun s₄ D4 xs4 m4 c4 a4 => ?_
  have W4 := W3.chg (old := []) .nil c4
  intro s₅ F5
  have W5 := W4.fx0 F5
  refine store_W W5 fun s₆ W6 F6 => ?_
  refine store_W W6 fun s₇ W7 F7 => ?_
  refine wpAny_execs_cons (wpAny_Assign_Name ?_)
  refine ev_again (l := D4) (xs := xs4) (m := m4) (ks := ks) (kl := kl) D W7 (ex := ex) (fun p hp => up3 _ (exm p hp)) M (allI a4) ndk ndm hk ((lk_skip (by decide)).trans ((lk_skip (by decide)).trans hmo)) ((lk_skip (by decide)).trans ((lk_skip (by decide)).trans hkl)) ((lk_skip (by decide)).trans rfl) rfl (by decide) rfl rfl rfl rfl fun s₈ r8 xs8 m8 pre W8 a8 => ?_
  refine store_W W8 fun s₉ W9 F9 => ?_
  have held9 : (("due", Value.ref r8) :: ("other", Value.ref x') :: ("due", Value.ref D4) :: fl : List (Str × Value)).lookup ("held" : Str) = some (.ref hd) := (lk_skip (by decide)).trans ((lk_skip (by decide)).trans ((lk_skip (by decide)).trans H.held))
  have up9 : ∀ p ∈ o'.ents x' ++ lawLed S I0 l0 L st io lv k1 k2 k3 hd (lstO ys m) (o.ents x ++ ex), p ∈ (r8, lstO xs8 m8) :: (pre ++ (o'.ents x' ++ lawLed S I0 l0 L st io lv k1 k2 k3 hd (lstO ys m) (o.ents x ++ ex))) := fun p hp => .tail _ (List.mem_append_right _ hp)
  have hO9 : ∀ p ∈ o'.ents x', p ∈ _ := fun p hp => up9 _ (List.mem_append_left _ hp)
  have hT9 : ∀ p ∈ o.ents x, p ∈ _ := fun p hp => up9 _ (up3 _ (H.mem p hp))
  have hL9 : ∀ p ∈ lawLed S I0 l0 L st io lv k1 k2 k3 hd (lstO ys m) (o.ents x ++ ex), p ∈ _ := fun p hp => up9 _ (up3 _ hp)
  refine wpAny_execs_cons (wpAny_If (isTrue_or (wpAny_isTrue_Compare1 ?_)))
  refine ev_list (th := th) (ks := doneK kind ks kl more) (x := x') (o := o') D W9 hO9 (osI O3) (fun q => nameX_L W9.fr ((lk_skip (by decide)).trans rfl) q) fun s₁₀ r10 xs10 m10 W10 a10 => ?_
  refine nameX_L W10.fr rfl ?_
  refine ne_lists (ks := doneK kind ks kl more) (kl := doneK kind ks kl more) (l := r10) (l2 := r8) (Wd.ok3 D) W10 (.head _) (.tail _ (.head _)) a10 (allI a8) fun s₁₁ W11 => wpAny_truthy_bool ?_
  rw [if_neg (by simp)]
  refine isTrue_or (wpAny_isTrue_Compare1 ?_)
  refine ev_list (th := th) (ks := ks) (x := x) (o := o) D W11 (fun p hp => .tail _ (hT9 p hp)) (osI H.os) (fun q => nameX_C W11.nw rfl (.tail _ (hL9 _ (by walk_at "mm"))) H.told q) fun s₁₂ r12 xs12 m12 W12 a12 => ?_
  refine nameX_L W12.fr held9 ?_
  refine ne_lists (ks := ks) (kl := ks) (l := r12) (l2 := hd) (ys := ys) (m2 := m) (Wd.ok3 D) W12 (.head _) (.tail _ (.tail _ (hL9 _ (by walk_at "mm")))) a12 (allI H.row) fun s₁₃ W13 => wpAny_truthy_bool ?_
  rw [if_neg (by simp)]
  refine isTrue_or_nil ?_
  rw [if_neg (by decide)]
  refine wpAny_execs_nil ?_
  refine wpAny_execs_cons (assign_pair hh (nameX_L W13.fr ((lk_skip (by decide)).trans rfl) ?_))
  refine ev_list (th := th) (ks := doneK kind ks kl more) (x := x') (o := o') D W13 (fun p hp => .tail _ (.tail _ (hO9 p hp))) (osI O3) (fun q => nameX_L W13.fr ((lk_skip (by decide)).trans rfl) q) fun s₁₄ r14 xs14 m14 W14 a14 => ?_
  intro s₁₅ F15
  have W15 := W14.fx0 F15
  have W15' : Wd G O g L s₁₅ _ ((r14, lstO xs14 m14) :: (o'.ents x' ++ lawLed S I0 l0 L st io lv k1 k2 k3 hd (lstO ys m) (o.ents x ++ ex))) := W15.sub (.cons_cons _ (.cons _ (.cons _ (.cons _ (List.sublist_append_right pre _)))))
  refine wpAny_assign_Name (store_C W15' (.tail (.tail (.tail (.tail (.tail (.tail (.tail (.tail .head)))))))) rfl H.told fun s₁₆ k2' W16 F16 hk2 => ?_)
  refine wpAny_assign_Name (store_W W16 fun s₁₇ W17 F17 => ?_)
  refine wpAny_execs_nil ?_
  exact h s₁₇ _ k2' x' o' r14 xs14 m14 (doneK kind ks kl more) ⟨W17.ext (Ext.cons (by walk_at "pk") (Ext.cons (by walk_at "pk") (Ext.cons (by walk_at "pk") (Ext.cons (by walk_at "pk") (Ext.cons (by walk_at "pk") (Ext.cons (by walk_at "pk") (Ext.cons (by walk_at "pk") (Ext.cons (by walk_at "pk") (Ext.cons (by walk_at "pk") (Ext.cons (by walk_at "pk") Ext.nil)))))))))), osI O3, allI a14, hk2, rfl, lt_done M H.lt ltm⟩
end
end
end
section
open PySem PySem.W PyProof.Rows PySem.Calls Builtin
set_option Elab.async false
set_option maxRecDepth 100000
set_option pp.deepTerms false
set_option pp.maxSteps 1500
set_option linter.unusedVariables false
section
variable {prog : Program} {w : World} {κ : Type} [DecidableEq κ] {ek : EK prog w κ} {th : SetTh ek}
  {A : Around} {E : Value → Shared → Prop} {s s' s₁ : Shared} {R : Result → Shared → Prop} {x : Addr} {ks kb kl km : List κ} {k : κ} {v v2 : Value} {w0 : List Addr} {name : Str} {id T : String}
  {G : Array GenState} {O : OsState} {g base : Heap} {outer : List Env} {L a r l : Addr} {fl : List (Str × Value)} {news old upd rest foot : List (Addr × Obj)} {ob ob' : Obj} {f : Obj → List (Addr × Obj)} {o o' : Tob} {xs : Array Value} {m : Nat}
section
variable {S l0 I0 fa : Addr} {lv k1 io k3 st k2 : Obj} {hd : Addr} {ys : Array Value} {ks : List Int} {ex : List (Addr × Obj)} {th : SetTh (ekI prog w)} {cdv : Value} {sc : Scope} {s0 s1 s2 s3 s5 d1 d2 d3 d4 d6 : Stmt} {t it c0 c1 c2 c3 c4 c5 c6 c7 : Expr} {b0 b1 b2 b3 b4 b5 b6 b7 b8 : List Stmt} {one : Int} {tk1 : Tok} {Q : Flow → Shared → Prop}
set_option maxHeartbeats 8000000 in
theorem deed8 (T : LawText w.params sc s0 s1 s2 s3 s5 d1 d2 d3 d4 d6 t it c0 c1 c2 c3 c4 c5 c6 c7 b0 b1 b2 b3 b4 b5 b6 b7 b8) (D : Std A base outer g w (envX "law" sc L fa cdv (lawCl L)) L)
    (H : LW th G O g L S l0 I0 lv k1 io k3 st s fl k2 x o hd ys m ks ex) (h3 : k3.data = .cell (some (.int one tk1))) (hone : 0 ≤ one ∧ one < 9) {kind way : Int} {tk tw : Tok} {mn lm : Addr} {zs : Array Value} {mz : Nat} {kl : List Int} {more : Option (List Int)}
    (hkl : fl.lookup ("kind" : Str) = some (.int kind tk)) (hwl : fl.lookup ("way" : Str) = some (.int way tw)) (hmn : fl.lookup ("many" : Str) = some (.ref mn)) (hmo : fl.lookup ("more" : Str) = some (.ref lm))
    (hk : kind = 0 ∨ kind = 1 ∨ kind = 2 ∨ kind = 3) (hw : way = 0 ∨ way = 1 ∨ way = 2 ∨ way = 3) (hmw : more = none ∨ (kind ≠ 3 ∧ way ≠ 3 ∧ way ≠ 1))
    (hme : (mn, lstO zs mz) ∈ ex) (am : ∀ h : Heap, (ekI prog w).All h zs.toList kl) (ndm : kl.Nodup) (ltm : ∀ k ∈ kl, k < 9) (M : MoreE prog w ex lm more)
    (h : ∀ s' fl' k2' x' o' hd' ys' m' ks', LW th G O g L S l0 I0 lv k1 io k3 st s' fl' k2' x' o' hd' ys' m' ks' [] → Q .next s') :
    wpAny (model prog w) (A.deeper (envX "law" sc L fa cdv (lawCl L))) (execs b8 (envX "law" sc L fa cdv (lawCl L))) Q E s := by
  obtain ⟨oc, od, dV, kV, doc, pm, an, cdv', ct, osl, params, fp, p0, p1, p2, p3, p4, p5, p6, p7, ho⟩ := T
  have XK : (Mine.hd.heap_39 w.params) = (Mine.hd.heap_39 w.params) ∧ PySem.Challenge.rw_eu0034_01 = PySem.Challenge.rw_eu0034_01 := ⟨rfl, rfl⟩
  revert XK
  k_fill
  intro _
  have e := (show (Mine.hd.heap_39 w.params).lookup 281 = some _ from by k_is)
  rw [e] at ho
  cases ho
  clear e
  have W := H.W
  have hz := H.os.small
  have ndk : ks.Nodup := H.os.set.nodup
  have sz : ys.size = ks.length := by rw [← Array.length_toList, EK.All.length H.row]
  have exm : ∀ p ∈ ex, p ∈ lawLed S I0 l0 L st io lv k1 k2 k3 hd (lstO ys m) (o.ents x ++ ex) := fun p hp => .tail _ (.tail _ (.tail _ (.tail _ (.tail _ (.tail _ (.tail _ (List.mem_append_right _ hp)))))))
  have z1 := below10 (am s.heap) ndm
  have exo : ∀ p ∈ ex, p.1 ∉ (o.ents x).map (·.1) := fun p hp q => by
    have z := W.nd
    have e : lawLed S I0 l0 L st io lv k1 k2 k3 hd (lstO ys m) (o.ents x ++ ex) = [(S, st), (I0, io), (l0, lv), (L + 1, k1), (L + 1 + 1, k2), (L + 1 + 1 + 1, k3), (hd, lstO ys m)] ++ (o.ents x ++ ex) := rfl
    rw [e, List.map_append, List.map_append] at z
    exact (List.nodup_append.mp (List.nodup_append.mp z).2.1).2.2 _ q _ (List.mem_map_of_mem hp) rfl
  refine wpAny_execs_cons (wpAny_Expr_any (Call_ (kName D.gd W D.below.stays (g_turned _) ?_)))
  refine callWith_K D.X (keep269 _) (args_cons (nameX_L W.fr hkl (args_cons (nameX_L W.fr hwl (args_cons (nameX_C W.nw rfl (by walk_at "mm") H.told (args_cons ?_)))))))
  refine Call_ (kName D.gd W D.below.stays (g_handed _) ?_)
  refine callWith_K D.X (keep254 _) (args_cons (nameX_L W.fr hwl (args_cons (nameX_L W.fr hmn (args_nil ⟨W.kin D.X, wpAny_call ?_⟩)))))
  refine c_handed (th := th) (kl := kl) D.gd (D.site W (by decide)) (W.get (exm _ hme)) (am _) ndm hw fun s₂ v hu ch hd2 => ?_
  have W2 := W.chg (old := []) .nil ch
  have up2 : ∀ p ∈ lawLed S I0 l0 L st io lv k1 k2 k3 hd (lstO ys m) (o.ents x ++ ex), p ∈ hu ++ lawLed S I0 l0 L st io lv k1 k2 k3 hd (lstO ys m) (o.ents x ++ ex) := fun p hp => List.mem_append_right _ hp
  have huo : ∀ a ∈ hu.map (·.1), a ∉ (o.ents x).map (·.1) := fun a ha q => by
    have z := W2.nd
    rw [List.map_append] at z
    obtain ⟨p, hp, e⟩ := List.mem_map.mp q
    exact (List.nodup_append.mp z).2.2 _ ha _ (List.mem_map_of_mem (H.mem p hp)) e.symm
  refine args_cons (nameX_L W2.fr hmo (args_nil ⟨W2.kin D.X, wpAny_call ?_⟩))
  have M2 : MoreIs (ekI prog w) s₂.heap lm more := M.is fun p hp => W2.get (up2 _ (exm p hp))
  have hm1 : lm ∉ (o.ents x).map (·.1) := by
    cases M with
    | no m e => exact exo _ e
    | one m l1 zs m1 km e e1 a nd lt => exact exo _ e
  have hm2 : ∀ l1 m, s₂.heap.get? lm = some (lstO #[.ref l1] m) → l1 ∉ (o.ents x).map (·.1) := fun l1 m q => by
    cases M with
    | no m e => rw [W2.get (up2 _ (exm _ e))] at q; cases q
    | one m l1' zs m1 km e e1 a nd lt => rw [W2.get (up2 _ (exm _ e))] at q; cases q; exact exo _ e1
  refine c_turned (th := th) (ks := ks) (kl := kl) (more := more) D.gd (D.site W2 (by decide)) (W2.own D.below D.fr (fun p hp => up2 p (H.mem p hp)) H.nd) (osI H.os) hd2 (fun p hp => W2.get (List.mem_append_left _ hp)) huo M2 hm1 hm2 ndm (by omega) hk hw (hmw.imp id fun z => ⟨z.1, z.2.1⟩) fun s₃ o' c3 O3 => ?_
  have W2' : Wd G O g L s₂ fl ((hu ++ [(S, st), (I0, io), (l0, lv), (L + 1, k1), (L + 1 + 1, k2), (L + 1 + 1 + 1, k3), (hd, lstO ys m)]) ++ (o.ents x ++ ex)) := by rw [List.append_assoc]; exact W2
  have W3a := W2'.chg (old := o.ents x) Ext.mid c3
  have W3 : Wd G O g L s₃ fl (o'.ents x ++ ([(S, st), (I0, io), (l0, lv), (L + 1, k1), (L + 1 + 1, k2), (L + 1 + 1 + 1, k3), (hd, lstO ys m)] ++ ex)) := W3a.sub (((List.sublist_append_right _ _).append_right ex).append_left _)
  clear W3a W2'
  have exm3 : ∀ p ∈ ex, p ∈ o'.ents x ++ ([(S, st), (I0, io), (l0, lv), (L + 1, k1), (L + 1 + 1, k2), (L + 1 + 1 + 1, k3), (hd, lstO ys m)] ++ ex) := fun p hp => List.mem_append_right _ (List.mem_append_right _ hp)
  refine wpAny_execs_cons (wpAny_Assign_Name (Call_ (kName D.gd W3 D.below.stays (g_plain _) ?_)))
  refine callWith_K D.X (keep259 _) (args_cons (nameX_L W3.fr hkl (args_cons (nameX_L W3.fr H.held (args_cons (nameX_L W3.fr hmn (args_nil ⟨W3.kin D.X, wpAny_call ?_⟩)))))))
  refine c_plain (ek := ekI prog w) (kl := ks) (kb := kl) D.gd (D.site W3 (by decide)) (l := hd) (xs := ys) (m := m) (W3.get (by walk_at "mm")) (allI H.row) (W3.get (exm3 _ hme)) (am _) (by omega) (by omega) hk fun s₄ D4 xs4 m4 c4 a4 => ?_
  have W4 := W3.chg (old := []) .nil c4
  refine store_W W4 fun s₅ W5 F5 => ?_
  refine wpAny_execs_cons (wpAny_Assign_Name ?_)
  refine ev_again (l := D4) (xs := xs4) (m := m4) (ks := ks) (kl := kl) D W5 (ex := ex) exm3 M (allI a4) ndk ndm hk ((lk_skip (by decide)).trans hmo) ((lk_skip (by decide)).trans hkl) rfl rfl (by decide) rfl rfl rfl rfl fun s₈ r8 xs8 m8 pre W8 a8 => ?_
  refine store_W W8 fun s₉ W9 F9 => ?_
  refine wpAny_execs_nil ?_
  have W9' : Wd G O g L s₉ _ ((r8, lstO xs8 m8) :: (o'.ents x ++ ([(S, st), (I0, io), (l0, lv), (L + 1, k1), (L + 1 + 1, k2), (L + 1 + 1 + 1, k3), (hd, lstO ys m)] ++ ex))) := W9.sub (.cons_cons _ (List.sublist_append_right pre _))
  exact h s₉ _ k2 x o' r8 xs8 m8 (doneK kind ks kl more) ⟨W9'.ext (Ext.cons (by walk_at "pk") (Ext.cons (by walk_at "pk") (Ext.cons (by walk_at "pk") (Ext.cons (by walk_at "pk") (Ext.cons (by walk_at "pk") (Ext.cons (by walk_at "pk") (Ext.cons (by walk_at "pk") (Ext.cons (by walk_at "pk") (Ext.cons (by walk_at "pk") (Ext.cons (by walk_at "pk") Ext.nil)))))))))), osI O3, allI a8, H.told, rfl, lt_done M H.lt ltm⟩
end
end
end
section
open PySem PySem.W PyProof.Rows PySem.Calls Builtin
set_option Elab.async false
set_option maxRecDepth 100000
set_option pp.deepTerms false
set_option pp.maxSteps 1500
set_option linter.unusedVariables false
section
variable {prog : Program} {w : World} {κ : Type} [DecidableEq κ] {ek : EK prog w κ} {th : SetTh ek}
  {A : Around} {E : Value → Shared → Prop} {s s' s₁ : Shared} {R : Result → Shared → Prop} {x : Addr} {ks kb kl km : List κ} {k : κ} {v v2 : Value} {w0 : List Addr} {name : Str} {id T : String}
  {G : Array GenState} {O : OsState} {g base : Heap} {outer : List Env} {L a r l : Addr} {fl : List (Str × Value)} {news old upd rest foot : List (Addr × Obj)} {ob ob' : Obj} {f : Obj → List (Addr × Obj)} {o o' : Tob} {xs : Array Value} {m : Nat}
section
variable {S l0 I0 fa : Addr} {lv k1 io k3 st k2 : Obj} {hd : Addr} {ys : Array Value} {ks : List Int} {ex : List (Addr × Obj)} {th : SetTh (ekI prog w)} {cdv : Value} {sc : Scope} {s0 s1 s2 s3 s5 d1 d2 d3 d4 d6 : Stmt} {t it c0 c1 c2 c3 c4 c5 c6 c7 : Expr} {b0 b1 b2 b3 b4 b5 b6 b7 b8 : List Stmt} {one : Int} {tk1 : Tok} {Q : Flow → Shared → Prop}
set_option maxHeartbeats 8000000 in
theorem checks (T : LawText w.params sc s0 s1 s2 s3 s5 d1 d2 d3 d4 d6 t it c0 c1 c2 c3 c4 c5 c6 c7 b0 b1 b2 b3 b4 b5 b6 b7 b8) (D : Std A base outer g w (envX "law" sc L fa cdv (lawCl L)) L)
    (H : LW th G O g L S l0 I0 lv k1 io k3 st s fl k2 x o hd ys m ks ex) (h3 : k3.data = .cell (some (.int one tk1))) (hone : 0 ≤ one ∧ one < 9)
    (h : ∀ s' fl' k2' x' o' hd' ys' m' ks', LW th G O g L S l0 I0 lv k1 io k3 st s' fl' k2' x' o' hd' ys' m' ks' [] → Q .next s') :
    wpAny (model prog w) (A.deeper (envX "law" sc L fa cdv (lawCl L))) (execs [d6] (envX "law" sc L fa cdv (lawCl L))) Q E s := by
  obtain ⟨oc, od, dV, kV, doc, pm, an, cdv', ct, osl, params, fp, p0, p1, p2, p3, p4, p5, p6, p7, ho⟩ := T
  have XK : (Mine.hd.heap_39 w.params) = (Mine.hd.heap_39 w.params) ∧ PySem.Challenge.rw_eu0034_01 = PySem.Challenge.rw_eu0034_01 := ⟨rfl, rfl⟩
  revert XK
  k_fill
  intro _
  have e := (show (Mine.hd.heap_39 w.params).lookup 281 = some _ from by k_is)
  rw [e] at ho
  cases ho
  clear e
  have W := H.W
  have hz := H.os.small
  have sz : ys.size = ks.length := by rw [← Array.length_toList, EK.All.length H.row]
  have memO : ∀ p ∈ o.ents x, p ∈ lawLed S I0 l0 L st io lv k1 k2 k3 hd (lstO ys m) (o.ents x ++ ex) := H.mem
  refine wpAny_execs_cons (wpAny_If (isTrue_or (wpAny_isTrue_Compare1 ?_)))
  refine ev_list (th := th) (ks := ks) (x := x) (o := o) D W memO (osI H.os) (fun q => nameX_C W.nw rfl (by walk_at "mm") H.told q) fun s₁ r1 xs1 m1 W1 a1 => ?_
  refine nameX_L W1.fr H.held ?_
  refine ne_lists (ks := ks) (kl := ks) (l := r1) (l2 := hd) (ys := ys) (m2 := m) (Wd.ok3 D) W1 (.head _) (by walk_at "mm") a1 (allI H.row) fun s₂ W2 => wpAny_truthy_bool ?_
  rw [if_neg (by simp)]
  have W2 := W2.sub (List.sublist_cons_self _ _)
  refine isTrue_or (wpAny_isTrue_Compare1 ?_)
  refine ev_leno (th := th) (ks := ks) (x := x) (o := o) D W2 memO (osI H.os) (fun q => nameX_C W2.nw rfl (by walk_at "mm") H.told q) fun s₃ t3 W3 => ?_
  refine ev_lenl (ks := ks) (l := hd) (xs := ys) (m := m) D W3 (by walk_at "mm") (allI H.row) (by omega) (fun q => nameX_L W3.fr H.held q) fun s₄ t4 W4 => ?_
  refine PySem.P.ne_int (wpAny_truthy_bool ?_)
  rw [if_neg (by simp)]
  refine isTrue_or (wpAny_isTrue_Compare1 ?_)
  refine ev_in11 (th := th) (ks := ks) (x := x) (o := o) (c := L + 1 + 1) (co := k2) D W4 memO (osI H.os) (by walk_at "mm") H.told rfl fun s₅ r5 xs5 m5 W5 a5 => ?_
  refine ev_sorted (ks := ks) (l := hd) (xs := ys) (m := m) D W5 (by walk_at "mm") (allI H.row) hz (fun q => nameX_L W5.fr H.held q) fun s₆ r6 xs6 m6 ns W6 a6 pm pw => ?_
  have eq := sorted_keys H.os.set.nodup (kl_small H.row) pm pw
  refine ne_lists (ks := ten.filter fun k => decide (k ∈ ks)) (kl := ns) (l := r5) (xs := xs5) (m := m5) (l2 := r6) (ys := xs6) (m2 := m6) (Wd.ok3 D) W6 (.tail _ (.head _)) (.head _) (allI a5) a6 fun s₇ W7 => wpAny_truthy_bool ?_
  rw [if_neg (by rw [eq]; simp)]
  have W7 := (W7.sub (List.sublist_cons_self _ _)).sub (List.sublist_cons_self _ _)
  refine isTrue_or (wpAny_isTrue_Compare1 (nameX_C W7.nw rfl (by walk_at "mm") H.told ?_))
  refine ne_set (th := th) (ks := ks) (l := hd) (xs := ys) (m := m) (x := x) (o := o) D W7 (by walk_at "mm") (allI H.row) memO (osI H.os) (fun q => nameX_L W7.fr H.held q) fun s₈ W8 => wpAny_truthy_bool ?_
  rw [if_neg (by decide)]
  refine isTrue_or_nil ?_
  rw [if_neg (by decide)]
  refine wpAny_execs_nil (wpAny_execs_nil ?_)
  exact h s₈ fl k2 x o hd ys m ks ⟨W8.ext (Ext.cons (by walk_at "pk") (Ext.cons (by walk_at "pk") (Ext.cons (by walk_at "pk") (Ext.cons (by walk_at "pk") (Ext.cons (by walk_at "pk") (Ext.cons (by walk_at "pk") (Ext.cons (by walk_at "pk") (Ext.cons (by walk_at "pk") (Ext.cons (by walk_at "pk") (Ext.cons (by walk_at "pk") Ext.nil)))))))))), osI H.os, allI H.row, H.told, H.held, H.lt⟩
end
end
end
section
open PySem PySem.W PyProof.Rows PySem.Calls Builtin
set_option Elab.async false
set_option maxRecDepth 100000
set_option pp.deepTerms false
set_option pp.maxSteps 1500
set_option linter.unusedVariables false
section
variable {prog : Program} {w : World} {κ : Type} [DecidableEq κ] {ek : EK prog w κ} {th : SetTh ek}
  {A : Around} {E : Value → Shared → Prop} {s s' s₁ : Shared} {R : Result → Shared → Prop} {x : Addr} {ks kb kl km : List κ} {k : κ} {v v2 : Value} {w0 : List Addr} {name : Str} {id T : String}
  {G : Array GenState} {O : OsState} {g base : Heap} {outer : List Env} {L a r l : Addr} {fl : List (Str × Value)} {news old upd rest foot : List (Addr × Obj)} {ob ob' : Obj} {f : Obj → List (Addr × Obj)} {o o' : Tob} {xs : Array Value} {m : Nat}
theorem test_514 {qual : Str} {sc : Scope} {fa : Addr} {cdv : Value} {cl : List (Str × Addr)} {dd : Int} {td : Tok} {k1 k2 : Nat} {p1 p2 p3 p4 : Pos} {whole : Sem Value} {Q : Bool → Shared → Prop} (W : Wd G O g L s fl news) (hdl : fl.lookup ("deed" : Str) = some (.int dd td))
    (hk : sc.kind = .function) (hx : (envX qual sc L fa cdv cl).kindOf "deed" = some .local)
    (h : ∀ s', Wd G O g L s' fl news → Q (decide (5 < dd ∧ dd < 14)) s') :
    wpAny (model prog w) A (isTrue (.Compare (.Constant (.int 5) k1 p1) [.Lt, .Lt] [.Name "deed" p2, .Constant (.int 14) k2 p3] p4) (envX qual sc L fa cdv cl) whole) Q E s := by
  refine isTrue_chain (wpAny_Constant_int (test_link (nameX_L (W.toks (t := s.toks + 1)).fr hdl (PyProof.Rows.lt_int (wpAny_truthy_bool ?_)) hk hx)))
  by_cases h5 : 5 < dd
  · rw [if_pos (by simpa using h5)]
    refine test_last (wpAny_Constant_int (PyProof.Rows.lt_int (wpAny_truthy_bool ?_)))
    rw [show decide (dd < 14) = decide (5 < dd ∧ dd < 14) by simp [h5]]
    exact h _ (W.toks (t := s.toks + 1 + 1))
  · rw [if_neg (by simpa using h5)]
    rw [show false = decide (5 < dd ∧ dd < 14) by simp [h5]]
    exact h _ (W.toks (t := s.toks + 1))
section
variable {S l0 I0 fa : Addr} {lv k1 io k3 st k2 : Obj} {hd : Addr} {ys : Array Value} {ks : List Int} {ex : List (Addr × Obj)} {th : SetTh (ekI prog w)} {cdv : Value} {sc : Scope} {s0 s1 s2 s3 s5 d1 d2 d3 d4 d6 : Stmt} {t it c0 c1 c2 c3 c4 c5 c6 c7 : Expr} {b0 b1 b2 b3 b4 b5 b6 b7 b8 more4 : List Stmt} {Q : Flow → Shared → Prop}
  {vs : List Value} {ns : List Int} {i c : Int} {t1 t2 : Tok} {mS m0 : Nat} {v3 : Option Value}
set_option maxHeartbeats 8000000 in
theorem draws (T : LawText w.params sc s0 s1 s2 s3 s5 d1 d2 d3 d4 d6 t it c0 c1 c2 c3 c4 c5 c6 c7 b0 b1 b2 b3 b4 b5 b6 b7 b8) (D : Std A base outer g w (envX "law" sc L fa cdv (lawCl L)) L)
    (H : LW th G O g L S l0 I0 (lstO vs.toArray m0) k1 io k3 (stO l0 i c t1 t2 mS) s fl k2 x o hd ys m ks ex) (h1 : k1.data = .cell (some (.ref S))) (h3 : k3.data = .cell v3) (DA : DrawAt S l0 vs ns i c)
    (h : ∀ s' fl' k3' one tk1 dd td kind tk way tw mn zs mz kl lm more ex' i' c' t1' t2' mS', LW th G O g L S l0 I0 (lstO vs.toArray m0) k1 io k3' (stO l0 i' c' t1' t2' mS') s' fl' k2 x o hd ys m ks ex' →
      k3'.data = .cell (some (.int one tk1)) → 0 ≤ one ∧ one < 9 → fl'.lookup ("deed" : Str) = some (.int dd td) → 0 ≤ dd ∧ dd < 15 → fl'.lookup ("kind" : Str) = some (.int kind tk) → fl'.lookup ("way" : Str) = some (.int way tw) →
      fl'.lookup ("many" : Str) = some (.ref mn) → fl'.lookup ("more" : Str) = some (.ref lm) → (kind = 0 ∨ kind = 1 ∨ kind = 2 ∨ kind = 3) → (way = 0 ∨ way = 1 ∨ way = 2 ∨ way = 3) → (more = none ∨ (kind ≠ 3 ∧ way ≠ 3 ∧ way ≠ 1)) →
      (mn, lstO zs mz) ∈ ex' → (∀ h : Heap, (ekI prog w).All h zs.toList kl) → kl.Nodup → (∀ k ∈ kl, k < 9) → MoreE prog w ex' lm more → DrawAt S l0 vs ns i' c' →
      wpAny (model prog w) (A.deeper (envX "law" sc L fa cdv (lawCl L))) (execs more4 (envX "law" sc L fa cdv (lawCl L))) Q E s') :
    wpAny (model prog w) (A.deeper (envX "law" sc L fa cdv (lawCl L))) (execs (d1 :: d2 :: d3 :: d4 :: more4) (envX "law" sc L fa cdv (lawCl L))) Q E s := by
  obtain ⟨oc, od, dV, kV, doc, pm, an, cdv', ct, osl, params, fp, p0, p1, p2, p3, p4, p5, p6, p7, ho⟩ := T
  have XK : (Mine.hd.heap_39 w.params) = (Mine.hd.heap_39 w.params) ∧ PySem.Challenge.rw_eu0034_01 = PySem.Challenge.rw_eu0034_01 := ⟨rfl, rfl⟩
  revert XK
  k_fill
  intro _
  have e := (show (Mine.hd.heap_39 w.params).lookup 281 = some _ from by k_is)
  rw [e] at ho
  cases ho
  clear e
  have W := H.W
  have hh := D.rm.hand
  refine wpAny_execs_cons (assign_pair hh ?_)
  refine ev_next D W (.tail _ (.head _)) DA (by decide) (fun q => nameX_C W.nw rfl (by walk_at "mm") h1 q) fun s₁ i1 c1 u1 v1 n1 dd td W1 F1 T1 DA1 hdd => ?_
  refine ev_next D W1 (.tail _ (.head _)) DA1 (by decide) (fun q => nameX_C W1.nw rfl (by walk_at "mm") h1 q) fun s₂ i2 c2 u2 v2 n2 one tk1 W2 F2 T2 DA2 hone => ?_
  intro s₃ F3
  have W3 := W2.fx0 F3
  refine wpAny_assign_Name (store_W W3 fun s₄ W4 F4 => ?_)
  refine wpAny_assign_Name (store_C W4 (.tail (.tail (.tail (.tail (.tail .head))))) rfl h3 fun s₅ k3' W5 F5 hk3 => ?_)
  refine wpAny_execs_cons (assign_pair_sw hh (wpAny_BinOp (nameX_L W5.fr rfl (wpAny_Constant_int (PyProof.Rows.mod_int' (by decide) ?_)))))
  have W6 := W5.toks (t := s₅.toks + 1 + 1)
  have kd0 := Int.fmod_nonneg_of_pos dd (b := 4) (by decide)
  have kd1 := Int.fmod_lt_of_pos dd (b := 4) (by decide)
  generalize dd.fmod 4 = kind at kd0 kd1 ⊢
  refine ev_next D W6 (.tail _ (.head _)) DA2 (by decide) (fun q => nameX_C W6.nw rfl (by walk_at "mm") h1 q) fun s₇ i7 c7 u7 v7 n7 way tw W7 F7 T7 DA7 hway => ?_
  intro s₈ F8
  have W8 := W7.fx0 F8
  refine store_W W8 fun s₉ W9 F9 => ?_
  refine store_W W9 fun s₁₀ W10 F10 => ?_
  generalize efl : ((("kind" : Str), Value.int kind (s₅.toks + 1)) :: (("way" : Str), Value.int way tw) :: (("deed" : Str), Value.int dd td) :: fl : List (Str × Value)) = fl2 at W10
  have lk_deed : fl2.lookup ("deed" : Str) = some (.int dd td) := by rw [← efl]; exact (lk_skip (by decide)).trans ((lk_skip (by decide)).trans rfl)
  have lk_kind : fl2.lookup ("kind" : Str) = some (.int kind (s₅.toks + 1)) := by rw [← efl]; rfl
  have lk_way : fl2.lookup ("way" : Str) = some (.int way tw) := by rw [← efl]; exact (lk_skip (by decide)).trans rfl
  have lk_held : fl2.lookup ("held" : Str) = some (.ref hd) := by rw [← efl]; exact (lk_skip (by decide)).trans ((lk_skip (by decide)).trans ((lk_skip (by decide)).trans H.held))
  have hkd : kind = 0 ∨ kind = 1 ∨ kind = 2 ∨ kind = 3 := by omega
  have hwy : way = 0 ∨ way = 1 ∨ way = 2 ∨ way = 3 := by omega
  obtain ⟨R, hR⟩ : ∃ R, R = (I0, io) :: (l0, lstO vs.toArray m0) :: (L + 1, k1) :: (L + 1 + 1, k2) :: (L + 1 + 1 + 1, k3') :: (hd, lstO ys m) :: (o.ents x ++ ex) := ⟨_, rfl⟩
  have W10 : Wd G O g L s₁₀ fl2 ((S, stO l0 i7 c7 u7 v7 n7) :: R) := by rw [hR]; exact W10
  have l0R : (l0, lstO vs.toArray m0) ∈ R := by rw [hR]; exact .tail _ (.head _)
  have k1R : (L + 1, k1) ∈ R := by rw [hR]; exact .tail _ (.tail _ (.head _))
  refine wpAny_execs_cons (wpAny_Assign_Name (wpAny_mono (Q := fun v s' => ∃ mn zs kl i c t1 t2 mS, v = .ref mn ∧ Wd G O g L s' fl2 ((S, stO l0 i c t1 t2 mS) :: (mn, lstO zs 0) :: R) ∧ DrawAt S l0 vs ns i c ∧ (∀ h : Heap, (ekI prog w).All h zs.toList kl) ∧ kl.Nodup ∧ (∀ k ∈ kl, k < 9)) (wpAny_IfExp (test_514 W10 lk_deed rfl rfl fun s₁₁ W11 => ?_)) (fun v s₁₂ z => ?_) fun _ _ z => z))
  · by_cases q : 5 < dd ∧ dd < 14
    · rw [if_pos (decide_eq_true q)]
      refine ev_many D W11 l0R DA7 (by decide) (fun {s'} {N} {Q'} {p} W' hN q => nameX_C W'.nw rfl (hN _ k1R) h1 q) fun s₁₂ i12 c12 u12 v12 n12 r zs kl W12 F12 T12 DA12 a12 nd12 _ lt12 => ?_
      exact ⟨r, zs, kl, i12, c12, u12, v12, n12, rfl, W12, DA12, fun h => allI a12, nd12, lt12⟩
    · rw [if_neg (by simpa using q)]
      refine List_ (args_nil (wpAny_newObj_type ?_))
      have W12 := W11.push (lstO #[] 0) rfl (t := s₁₁.toks)
      exact ⟨_, #[], [], _, _, _, _, _, rfl, W12.perm (.swap _ _ _), DA7, fun h => .nil, List.nodup_nil, fun _ m => by cases m⟩
  obtain ⟨mn, zs, kl, i12, c12, u12, v12, n12, rfl, W12, DA12, am, ndm, ltm⟩ := z
  refine store_W W12 fun s₁₃ W13 F13 => ?_
  have lk_deed3 : ((("many" : Str), Value.ref mn) :: fl2 : List (Str × Value)).lookup ("deed" : Str) = some (.int dd td) := (lk_skip (by decide)).trans lk_deed
  have lk_kind3 : ((("many" : Str), Value.ref mn) :: fl2 : List (Str × Value)).lookup ("kind" : Str) = some (.int kind (s₅.toks + 1)) := (lk_skip (by decide)).trans lk_kind
  have lk_way3 : ((("many" : Str), Value.ref mn) :: fl2 : List (Str × Value)).lookup ("way" : Str) = some (.int way tw) := (lk_skip (by decide)).trans lk_way
  have l0R3 : (l0, lstO vs.toArray m0) ∈ (mn, lstO zs 0) :: R := .tail _ l0R
  have k1R3 : (L + 1, k1) ∈ (mn, lstO zs 0) :: R := .tail _ k1R
  refine wpAny_execs_cons (wpAny_Assign_Name (wpAny_mono (Q := fun v s' => ∃ lm more ex1 i c t1 t2 mS, v = .ref lm ∧ Wd G O g L s' ((("many" : Str), Value.ref mn) :: fl2) ((S, stO l0 i c t1 t2 mS) :: (ex1 ++ (mn, lstO zs 0) :: R)) ∧ DrawAt S l0 vs ns i c ∧ MoreE prog w ex1 lm more ∧ (more = none ∨ (kind ≠ 3 ∧ way ≠ 3 ∧ way ≠ 1)))
    (wpAny_IfExp (wpAny_mono (Q := fun b s' => ∃ i c t1 t2 mS, Wd G O g L s' ((("many" : Str), Value.ref mn) :: fl2) ((S, stO l0 i c t1 t2 mS) :: (mn, lstO zs 0) :: R) ∧ DrawAt S l0 vs ns i c ∧ (b = true → kind ≠ 3 ∧ way ≠ 3 ∧ way ≠ 1)) (isTrue_and (test_514 W13 lk_deed3 rfl rfl fun s₁₄ W14 => ?_)) (fun b s₁₅ z => ?_) fun _ _ z => z)) (fun v s₁₆ z => ?_) fun _ _ z => z))
  · by_cases q : 5 < dd ∧ dd < 14
    · rw [if_pos (decide_eq_true q)]
      refine isTrue_and (wpAny_isTrue_Compare1 (nameX_L W14.fr lk_kind3 (wpAny_Constant_int (PyProof.Rows.lt_int (wpAny_truthy_bool ?_)))))
      have W15 := W14.toks (t := s₁₄.toks + 1)
      by_cases q1 : kind < 3
      · rw [if_pos (by simpa using q1)]
        refine isTrue_and (wpAny_isTrue_Compare1 (wpAny_BinOp (nameX_L W15.fr lk_way3 (wpAny_Constant_int (PyProof.Rows.mod_int' (by decide) (wpAny_Constant_int (PyProof.Rows.eq_int (wpAny_truthy_bool ?_))))))))
        have W16 := W15.toks (t := s₁₄.toks + 1 + 1 + 1 + 1)
        by_cases q2 : way.fmod 2 = 0
        · rw [if_pos (by simpa using q2)]
          refine isTrue_and (wpAny_isTrue_Compare1 ?_)
          refine ev_next D W16 l0R3 DA12 (by decide) (fun q => nameX_C W16.nw rfl (.tail _ k1R3) h1 q) fun s₁₇ i17 c17 u17 v17 n17 r17 t17 W17 F17 T17 DA17 hr17 => ?_
          refine wpAny_Constant_int (PyProof.Rows.eq_int (wpAny_truthy_bool ?_))
          have W18 := W17.toks (t := s₁₇.toks + 1)
          have fin : kind ≠ 3 ∧ way ≠ 3 ∧ way ≠ 1 := ⟨by omega, fun e => by subst e; exact absurd q2 (by decide), fun e => by subst e; exact absurd q2 (by decide)⟩
          split
          · exact isTrue_and_nil ⟨i17, c17, u17, v17, n17, W18, DA17, fun _ => fin⟩
          · exact ⟨i17, c17, u17, v17, n17, W18, DA17, fun _ => fin⟩
        · rw [if_neg (by simpa using q2)]
          exact ⟨_, _, _, _, _, W16, DA12, fun e => by cases e⟩
      · rw [if_neg (by simpa using q1)]
        exact ⟨_, _, _, _, _, W15, DA12, fun e => by cases e⟩
    · rw [if_neg (by simpa using q)]
      exact ⟨_, _, _, _, _, W14, DA12, fun e => by cases e⟩
  · obtain ⟨i15, c15, u15, v15, n15, W15, DA15, hb⟩ := z
    cases b with
    | true =>
      rw [if_pos rfl]
      refine List_ (args_cons (ev_many D W15 l0R3 DA15 (by decide) (fun {s'} {N} {Q'} {p} W' hN q => nameX_C W'.nw rfl (hN _ k1R3) h1 q) fun s₁₆ i16 c16 u16 v16 n16 r zs' kl' W16 F16 T16 DA16 a16 nd16 _ lt16 => args_nil (wpAny_newObj_type ?_)))
      have W17 := W16.push (lstO #[.ref r] 0) rfl (t := s₁₆.toks)
      exact ⟨_, some kl', [(s₁₆.heap.objs.size, lstO #[.ref r] 0), (r, lstO zs' 0)], i16, c16, u16, v16, n16, rfl, W17.perm (.swap _ _ _), DA16, .one 0 r zs' 0 kl' (.head _) (.tail _ (.head _)) (fun h => allI a16) nd16 lt16, .inr (hb rfl)⟩
    | false =>
      rw [if_neg (by decide)]
      refine List_ (args_nil (wpAny_newObj_type ?_))
      have W17 := W15.push (lstO #[] 0) rfl (t := s₁₅.toks)
      exact ⟨_, none, [(s₁₅.heap.objs.size, lstO #[] 0)], i15, c15, u15, v15, n15, rfl, W17.perm (.swap _ _ _), DA15, .no 0 (.head _), .inl rfl⟩
  obtain ⟨lm, more, ex1, i16, c16, u16, v16, n16, rfl, W16, DA16, M, hmw⟩ := z
  refine store_W W16 fun s₁₇ W17 F17 => ?_
  subst hR
  have W18 : Wd G O g L s₁₇ _ (lawLed S I0 l0 L (stO l0 i16 c16 u16 v16 n16) io (lstO vs.toArray m0) k1 k2 k3' hd (lstO ys m) (o.ents x ++ (ex1 ++ (mn, lstO zs 0) :: ex))) := W17.perm (by
    refine List.Perm.cons _ ?_
    have e1 : ex1 ++ (mn, lstO zs 0) :: ((I0, io) :: (l0, lstO vs.toArray m0) :: (L + 1, k1) :: (L + 1 + 1, k2) :: (L + 1 + 1 + 1, k3') :: (hd, lstO ys m) :: (o.ents x ++ ex)) = (ex1 ++ [(mn, lstO zs 0)]) ++ (([(I0, io), (l0, lstO vs.toArray m0), (L + 1, k1), (L + 1 + 1, k2), (L + 1 + 1 + 1, k3'), (hd, lstO ys m)] ++ o.ents x) ++ ex) := by simp
    have e2 : (I0, io) :: (l0, lstO vs.toArray m0) :: (L + 1, k1) :: (L + 1 + 1, k2) :: (L + 1 + 1 + 1, k3') :: (hd, lstO ys m) :: (o.ents x ++ (ex1 ++ (mn, lstO zs 0) :: ex)) = ([(I0, io), (l0, lstO vs.toArray m0), (L + 1, k1), (L + 1 + 1, k2), (L + 1 + 1 + 1, k3'), (hd, lstO ys m)] ++ o.ents x) ++ ((ex1 ++ [(mn, lstO zs 0)]) ++ ex) := by simp
    rw [e1, e2]
    exact List.perm_append_comm_assoc _ _ _)
  have M' : MoreE prog w (ex1 ++ (mn, lstO zs 0) :: ex) lm more := by
    cases M with
    | no m e => exact .no m (List.mem_append_left _ e)
    | one m l1 zs m1 km e e1 a nd lt => exact .one m l1 zs m1 km (List.mem_append_left _ e) (List.mem_append_left _ e1) a nd lt
  exact h s₁₇ _ k3' one tk1 dd td kind _ way tw mn zs 0 kl lm more _ i16 c16 u16 v16 n16 ⟨W18, osI H.os, allI H.row, H.told, (lk_skip (by decide)).trans ((lk_skip (by decide)).trans lk_held), H.lt⟩ hk3 hone
    ((lk_skip (by decide)).trans lk_deed3) hdd ((lk_skip (by decide)).trans lk_kind3) ((lk_skip (by decide)).trans lk_way3) ((lk_skip (by decide)).trans rfl) rfl hkd hwy hmw (List.mem_append_right _ (.head _)) am ndm ltm M' DA16
end
end
end
section
open PySem PySem.W PyProof.Rows PySem.Calls Builtin
set_option Elab.async false
set_option maxRecDepth 100000
set_option pp.deepTerms false
set_option pp.maxSteps 1500
set_option linter.unusedVariables false
section
variable {prog : Program} {w : World} {κ : Type} [DecidableEq κ] {ek : EK prog w κ} {th : SetTh ek}
  {A : Around} {E : Value → Shared → Prop} {s s' s₁ : Shared} {R : Result → Shared → Prop} {x : Addr} {ks kb kl km : List κ} {k : κ} {v v2 : Value} {w0 : List Addr} {name : Str} {id T : String}
  {G : Array GenState} {O : OsState} {g base : Heap} {outer : List Env} {L a r l : Addr} {fl : List (Str × Value)} {news old upd rest foot : List (Addr × Obj)} {ob ob' : Obj} {f : Obj → List (Addr × Obj)} {o o' : Tob} {xs : Array Value} {m : Nat}
section
variable {S l0 I0 fa : Addr} {lv k1 io k3 st k2 : Obj} {hd : Addr} {ys : Array Value} {ks : List Int} {ex : List (Addr × Obj)} {th : SetTh (ekI prog w)} {cdv : Value} {sc : Scope} {s0 s1 s2 s3 s5 d1 d2 d3 d4 d6 : Stmt} {t it c0 c1 c2 c3 c4 c5 c6 c7 : Expr} {b0 b1 b2 b3 b4 b5 b6 b7 b8 : List Stmt} {q0 q1 q2 q3 q4 q5 q6 q7 : Pos} {Q : Flow → Shared → Prop}
  {vs : List Value} {ns : List Int} {i c : Int} {t1 t2 : Tok} {mS m0 : Nat} {v3 : Option Value}
set_option maxHeartbeats 8000000 in
theorem turn (T : LawText w.params sc s0 s1 s2 s3 s5 d1 d2 d3 d4 d6 t it c0 c1 c2 c3 c4 c5 c6 c7 b0 b1 b2 b3 b4 b5 b6 b7 b8) (D : Std A base outer g w (envX "law" sc L fa cdv (lawCl L)) L)
    (ho0 : outer = []) {p : Program} {lo : List Str} {mean : ExcName → Option Value} {mg mb : Str → Option Value} (TB : Top p lo mean mg mb base) (hg : A.guards = some [])
    (H : LW th G O g L S l0 I0 (lstO vs.toArray m0) k1 io k3 (stO l0 i c t1 t2 mS) s fl k2 x o hd ys m ks ex) (h1 : k1.data = .cell (some (.ref S))) (h3 : k3.data = .cell v3) (DA : DrawAt S l0 vs ns i c)
    (h : ∀ s' fl' k3' v3' i' c' t1' t2' mS' k2' x' o' hd' ys' m' ks', LW th G O g L S l0 I0 (lstO vs.toArray m0) k1 io k3' (stO l0 i' c' t1' t2' mS') s' fl' k2' x' o' hd' ys' m' ks' [] → k3'.data = .cell v3' → DrawAt S l0 vs ns i' c' → Q .next s') :
    wpAny (model prog w) (A.deeper (envX "law" sc L fa cdv (lawCl L))) (execs [d1, d2, d3, d4, .If c0 b0 [.If c1 b1 [.If c2 b2 [.If c3 b3 [.If c4 b4 [.If c5 b5 [.If c6 b6 [.If c7 b7 b8 q7] q6] q5] q4] q3] q2] q1] q0, d6] (envX "law" sc L fa cdv (lawCl L))) Q E s := by
  refine draws T D H h1 h3 DA fun s₁ fl1 k3' one tk1 dd td kind tk way tw mn zs mz kl lm more ex' i' c' t1' t2' mS' H1 h3' hone hdl hdd hkl hwl hmn hmo hk hw hmw hme am ndm ltm M DA' => ?_
  have fin : ∀ s' fl' k2' x' o' hd' ys' m' ks', LW th G O g L S l0 I0 (lstO vs.toArray m0) k1 io k3' (stO l0 i' c' t1' t2' mS') s' fl' k2' x' o' hd' ys' m' ks' [] → wpAny (model prog w) (A.deeper (envX "law" sc L fa cdv (lawCl L))) (execs [d6] (envX "law" sc L fa cdv (lawCl L))) Q E s' :=
    fun s' fl' k2' x' o' hd' ys' m' ks' H' => checks T D H' h3' hone fun s'' fl'' k2'' x'' o'' hd'' ys'' m'' ks'' H'' => h s'' fl'' k3' _ i' c' t1' t2' mS' k2'' x'' o'' hd'' ys'' m'' ks'' H'' h3' DA'
  have T2 := T
  clear T
  have T := T2
  obtain ⟨oc, od, dV, kV, doc, pm, an, cdv', ct, osl, params, fp, p0, p1, p2, p3, p4, p5, p6, p7, ho⟩ := T
  have XK : (Mine.hd.heap_39 w.params) = (Mine.hd.heap_39 w.params) ∧ PySem.Challenge.rw_eu0034_01 = PySem.Challenge.rw_eu0034_01 := ⟨rfl, rfl⟩
  revert XK
  k_fill
  intro _
  have e := (show (Mine.hd.heap_39 w.params).lookup 281 = some _ from by k_is)
  rw [e] at ho
  cases ho
  clear e
  have W := H1.W
  refine wpAny_execs_cons (wpAny_If (wpAny_isTrue_Compare1 (nameX_L W.fr hdl (wpAny_Constant_int (PyProof.Rows.eq_int (wpAny_truthy_bool ?_))))))
  have H1 : LW th G O g L S l0 I0 (lstO vs.toArray m0) k1 io k3' (stO l0 i' c' t1' t2' mS') { s₁ with toks := s₁.toks + 1 } fl1 k2 x o hd ys m ks ex' := ⟨W.toks, H1.os, H1.row, H1.told, H1.held, H1.lt⟩
  have W := H1.W
  by_cases e0 : dd = 0
  · rw [if_pos (by simpa using e0)]
    exact deed0 T2 D H1 h3' hone fun s' fl' k2' x' o' hd' ys' m' ks' H' => fin _ _ _ _ _ _ _ _ _ H'
  rw [if_neg (by simpa using e0)]
  refine wpAny_execs_cons (wpAny_If (wpAny_isTrue_Compare1 (nameX_L W.fr hdl (wpAny_Constant_int (PyProof.Rows.eq_int (wpAny_truthy_bool ?_))))))
  have H1 : LW th G O g L S l0 I0 (lstO vs.toArray m0) k1 io k3' (stO l0 i' c' t1' t2' mS') { s₁ with toks := s₁.toks + 1 + 1 } fl1 k2 x o hd ys m ks ex' := ⟨W.toks, H1.os, H1.row, H1.told, H1.held, H1.lt⟩
  have W := H1.W
  by_cases e1 : dd = 1
  · rw [if_pos (by simpa using e1)]
    refine deed1 T2 D H1 h3' hone (by omega) hwl fun s' fl' k2' x' o' hd' ys' m' ks' H' => ?_
    repeat refine wpAny_execs_nil ?_
    exact fin _ _ _ _ _ _ _ _ _ H'
  rw [if_neg (by simpa using e1)]
  refine wpAny_execs_cons (wpAny_If (wpAny_isTrue_Compare1 (nameX_L W.fr hdl (wpAny_Constant_int (PyProof.Rows.eq_int (wpAny_truthy_bool ?_))))))
  have H1 : LW th G O g L S l0 I0 (lstO vs.toArray m0) k1 io k3' (stO l0 i' c' t1' t2' mS') { s₁ with toks := s₁.toks + 1 + 1 + 1 } fl1 k2 x o hd ys m ks ex' := ⟨W.toks, H1.os, H1.row, H1.told, H1.held, H1.lt⟩
  have W := H1.W
  by_cases e2 : dd = 2
  · rw [if_pos (by simpa using e2)]
    refine deed2 T2 D H1 h3' hone fun s' fl' k2' x' o' hd' ys' m' ks' H' => ?_
    repeat refine wpAny_execs_nil ?_
    exact fin _ _ _ _ _ _ _ _ _ H'
  rw [if_neg (by simpa using e2)]
  refine wpAny_execs_cons (wpAny_If (wpAny_isTrue_Compare1 (nameX_L W.fr hdl (wpAny_Constant_int (PyProof.Rows.eq_int (wpAny_truthy_bool ?_))))))
  have H1 : LW th G O g L S l0 I0 (lstO vs.toArray m0) k1 io k3' (stO l0 i' c' t1' t2' mS') { s₁ with toks := s₁.toks + 1 + 1 + 1 + 1 } fl1 k2 x o hd ys m ks ex' := ⟨W.toks, H1.os, H1.row, H1.told, H1.held, H1.lt⟩
  have W := H1.W
  by_cases e3 : dd = 3
  · rw [if_pos (by simpa using e3)]
    refine deed3 T2 D H1 h3' hone ho0 TB fun s' fl' k2' x' o' hd' ys' m' ks' H' => ?_
    repeat refine wpAny_execs_nil ?_
    exact fin _ _ _ _ _ _ _ _ _ H'
  rw [if_neg (by simpa using e3)]
  refine wpAny_execs_cons (wpAny_If (wpAny_isTrue_Compare1 (nameX_L W.fr hdl (wpAny_Constant_int (PyProof.Rows.eq_int (wpAny_truthy_bool ?_))))))
  have H1 : LW th G O g L S l0 I0 (lstO vs.toArray m0) k1 io k3' (stO l0 i' c' t1' t2' mS') { s₁ with toks := s₁.toks + 1 + 1 + 1 + 1 + 1 } fl1 k2 x o hd ys m ks ex' := ⟨W.toks, H1.os, H1.row, H1.told, H1.held, H1.lt⟩
  have W := H1.W
  by_cases e4 : dd = 4
  · rw [if_pos (by simpa using e4)]
    refine deed4 T2 D H1 h3' hone ho0 TB fun s' fl' k2' x' o' hd' ys' m' ks' H' => ?_
    repeat refine wpAny_execs_nil ?_
    exact fin _ _ _ _ _ _ _ _ _ H'
  rw [if_neg (by simpa using e4)]
  refine wpAny_execs_cons (wpAny_If (wpAny_isTrue_Compare1 (nameX_L W.fr hdl (wpAny_Constant_int (PyProof.Rows.eq_int (wpAny_truthy_bool ?_))))))
  have H1 : LW th G O g L S l0 I0 (lstO vs.toArray m0) k1 io k3' (stO l0 i' c' t1' t2' mS') { s₁ with toks := s₁.toks + 1 + 1 + 1 + 1 + 1 + 1 } fl1 k2 x o hd ys m ks ex' := ⟨W.toks, H1.os, H1.row, H1.told, H1.held, H1.lt⟩
  have W := H1.W
  by_cases e5 : dd = 5
  · rw [if_pos (by simpa using e5)]
    refine deed5 T2 D H1 h3' hone hg fun s' fl' k2' x' o' hd' ys' m' ks' H' => ?_
    repeat refine wpAny_execs_nil ?_
    exact fin _ _ _ _ _ _ _ _ _ H'
  rw [if_neg (by simpa using e5)]
  refine wpAny_execs_cons (wpAny_If (wpAny_isTrue_Compare1 (nameX_L W.fr hdl (wpAny_Constant_int (PyProof.Rows.eq_int (wpAny_truthy_bool ?_))))))
  have H1 : LW th G O g L S l0 I0 (lstO vs.toArray m0) k1 io k3' (stO l0 i' c' t1' t2' mS') { s₁ with toks := s₁.toks + 1 + 1 + 1 + 1 + 1 + 1 + 1 } fl1 k2 x o hd ys m ks ex' := ⟨W.toks, H1.os, H1.row, H1.told, H1.held, H1.lt⟩
  have W := H1.W
  by_cases e6 : dd = 14
  · rw [if_pos (by simpa using e6)]
    refine deed6 T2 D H1 h3' hone fun s' fl' k2' x' o' hd' ys' m' ks' H' => ?_
    repeat refine wpAny_execs_nil ?_
    exact fin _ _ _ _ _ _ _ _ _ H'
  rw [if_neg (by simpa using e6)]
  refine wpAny_execs_cons (wpAny_If (wpAny_isTrue_Compare1 (nameX_L W.fr hdl (wpAny_Constant_int (PyProof.Rows.lt_int (wpAny_truthy_bool ?_))))))
  have H1 : LW th G O g L S l0 I0 (lstO vs.toArray m0) k1 io k3' (stO l0 i' c' t1' t2' mS') { s₁ with toks := s₁.toks + 1 + 1 + 1 + 1 + 1 + 1 + 1 + 1 } fl1 k2 x o hd ys m ks ex' := ⟨W.toks, H1.os, H1.row, H1.told, H1.held, H1.lt⟩
  by_cases e7 : dd < 10
  · rw [if_pos (by simpa using e7)]
    refine deed7 T2 D H1 h3' hone hkl hwl hmn hmo hk hw hmw hme am ndm ltm M fun s' fl' k2' x' o' hd' ys' m' ks' H' => ?_
    repeat refine wpAny_execs_nil ?_
    exact fin _ _ _ _ _ _ _ _ _ H'
  rw [if_neg (by simpa using e7)]
  refine deed8 T2 D H1 h3' hone hkl hwl hmn hmo hk hw hmw hme am ndm ltm M fun s' fl' k2' x' o' hd' ys' m' ks' H' => ?_
  repeat refine wpAny_execs_nil ?_
  exact fin _ _ _ _ _ _ _ _ _ H'
end
end
end
section
open PySem PySem.W PyProof.Rows PySem.Calls Builtin
set_option Elab.async false
set_option maxRecDepth 100000
set_option pp.deepTerms false
set_option pp.maxSteps 1500
set_option linter.unusedVariables false
section
variable {prog : Program} {w : World} {κ : Type} [DecidableEq κ] {ek : EK prog w κ} {th : SetTh ek}
  {A : Around} {E : Value → Shared → Prop} {s s' s₁ : Shared} {R : Result → Shared → Prop} {x : Addr} {ks kb kl km : List κ} {k : κ} {v v2 : Value} {w0 : List Addr} {name : Str} {id T : String}
  {G : Array GenState} {O : OsState} {g base : Heap} {outer : List Env} {L a r l : Addr} {fl : List (Str × Value)} {news old upd rest foot : List (Addr × Obj)} {ob ob' : Obj} {f : Obj → List (Addr × Obj)} {o o' : Tob} {xs : Array Value} {m : Nat}
theorem comp_WA {qual : Str} {sc : Scope} {fa : Addr} {cdv : Value} {clE : List (Str × Addr)} {elt iter : Expr} {xn y : Str} {px py pos spos : Pos} {scope : Scope} {cl : List (Str × Addr)} {Q : Flow → Shared → Prop} {as : List Addr} (J : Nat → Shared → List (Addr × Obj) → Array Value → Prop)
    (hsw : swapsWith (.ListComp elt [⟨.Name xn px, iter, [], 0⟩] scope pos) (some (.Name y py)) spos.line (envX qual sc L fa cdv clE) = pure true) (hy : (envX qual sc L fa cdv clE).kindOf y = some .local) (hsk : sc.kind = .function)
    (hclos : closureFor scope (envX qual sc L fa cdv clE) = pure cl) (hcell : ∀ y ∈ scope.names, y.2 ≠ .cell) (hkind : scope.kind = .function)
    (hnames : ∀ y ∈ scope.names, y.2 = .local → scope.names.lookup y.1 = some .local) (hx : scope.names.lookup xn = some .local)
    (hJ : ∀ i s s' nw ys, J i s nw ys → TupKept s.heap s'.heap → J i s' nw ys)
    (h : wpAny (model prog w) A (eval iter (envX qual sc L fa cdv clE)) (fun xv s₁ => wpAny (model prog w) A (pyIter xv) (fun it s₂ => ∃ n I fp wr P St news, n ≤ 10000 ∧ it = .ref I ∧ Walks prog w A I fp wr n P St ∧ St 0 s₂.heap ∧ Wd G O g L s₂ fl news ∧ J 0 s₂ news #[] ∧
      (∀ b ∈ fp, b < s₂.heap.objs.size) ∧ (∀ b ∈ wr, g.get? b = none ∧ b ≠ L ∧ ∀ p ∈ news, p.1 ≠ b) ∧ (∀ i h, St i h → ∀ b ∈ wr, ∃ ob, h.get? b = some ob ∧ ob.cls ≠ .type "tuple") ∧ (∀ a ∈ as, a ∉ fp) ∧
      (∀ i D C v s₃ nw co ys m mm E', i < n → P i v → Wd G O g L s₃ fl ((C, co) :: (D, lstO ys m) :: nw) → s₃.heap.Ns C mm → mm xn = some v → J i s₃ nw ys → (∀ b ∈ wr, ∃ ob, s₃.heap.get? b = some ob) →
        wpAny (model prog w) A (eval elt (compEnvC scope cl C (envX qual sc L fa cdv clE))) (fun y s₄ => ∃ nw', Wd G O g L s₄ fl ((C, co) :: (D, lstO ys m) :: nw') ∧ Fx s₃ s₄ as ∧ (∀ p ∈ nw', p.1 ∈ nw.map (·.1) ∨ s₃.heap.get? p.1 = none) ∧ J (i + 1) s₄ nw' (ys.push y)) E' s₃) ∧
      (∀ s' D nw ys m, Wd G O g L s' ((y, .ref D) :: fl) ((D, lstO ys m) :: nw) → J n s' nw ys → Q .next s')) E s₁) E s)
    (hs : ∀ x, foldedSetIterable iter (envX qual sc L fa cdv clE) x = pure x := by intro _; rfl) :
    wpAny (model prog w) A (exec (.Assign [.Name y py] (.ListComp elt [⟨.Name xn px, iter, [], 0⟩] scope pos) spos) (envX qual sc L fa cdv clE)) Q E s := by
  rw [exec_Assign_Name_used _ _ _ _ hsw]
  refine wpAny_bind (wpAny_standAt (wpAny_bind ?_))
  show wpAny _ A (do let _ ← comprehension (.ListComp elt [⟨.Name xn px, iter, [], 0⟩] scope pos) scope (envX qual sc L fa cdv clE) _ (newList []) false (eval iter (envX qual sc L fa cdv clE)) (some (assign (.Name y py) (envX qual sc L fa cdv clE)))) _ _ s
  refine wpAny_bind (wpAny_mono (wpAny_comprehension_free (use := some (assign (.Name y py) (envX qual sc L fa cdv clE))) (Q := fun _ s' => Q .next s') rfl hs hclos hkind hnames
    (wpAny_mono h (fun xv s₁ h₁ => wpAny_mono h₁ (fun it s₂ h₂ => ?_) fun _ _ e => e) fun _ _ e => e)) (fun _ s' hq => wpAny_pure (wpAny_pure hq)) fun _ _ e => e)
  obtain ⟨n, I, fp, wr, P, St, news, hz, rfl, Wk, st, W, j0, hfp, hwr, hnt, has, turn, fin⟩ := h₂
  refine wpAny_newObj_type (wpAny_newFunctionEnv hcell (by intro y hy; simp at hy) (fun h₁ hns₁ hsb₁ => ?_) hkind)
  dsimp only at hns₁ hsb₁ ⊢
  have free : ∀ a, s₂.heap.objs.size ≤ a → s₂.heap.get? a = none := fun a ha => by
    cases q : s₂.heap.get? a with
    | none => rfl
    | some o => exact absurd (Heap.lt_size q) (Nat.not_lt.mpr ha)
  have W1 := W.push (lstO #[] 0) rfl (t := s₂.toks)
  have eD := Heap.get?_push_size (h := s₂.heap) (o := lstO #[] 0) rfl
  have gone := free _ (Nat.le_refl _)
  have hfD : s₂.heap.objs.size ∉ fp := fun hm => Nat.lt_irrefl _ (hfp _ hm)
  generalize hH2 : s₂.heap.push { cls := .type "list", dict := none, data := .seq ([] : List Value).toArray } = H2 at hns₁ hsb₁ ⊢
  have hC : H2.objs.size = s₂.heap.objs.size + 1 := by rw [← hH2, Heap.size_push]
  have lt2 : s₂.heap.objs.size < H2.objs.size := hC ▸ Nat.lt_succ_self _
  have hfC : H2.objs.size ∉ fp := fun hm => Nat.lt_irrefl _ (Nat.lt_trans (hfp _ hm) lt2)
  have W1 : Wd G O g L { s₂ with heap := H2 } fl ((s₂.heap.objs.size, lstO #[] 0) :: news) := by rw [← hH2]; exact W1
  have eD : H2.get? s₂.heap.objs.size = some (lstO #[] 0) := by rw [← hH2]; exact eD
  have k2 : ∀ b o, s₂.heap.get? b = some o → H2.get? b = some o := fun b o e => hH2 ▸ Heap.get?_push_of_some _ e
  clear hH2
  generalize s₂.heap.objs.size = D at *
  have goneC : H2.get? H2.objs.size = none := Heap.get?_none_of_le (Nat.le_refl _)
  obtain ⟨co, hco⟩ : ∃ co, h₁.get? H2.objs.size = some co := by obtain ⟨o, _, _, e, _⟩ := hns₁; exact ⟨o, e⟩
  have up : ∀ b o, H2.get? b = some o → h₁.get? b = some o := fun b o e => hsb₁.extBut b o (Nat.ne_of_lt (Heap.lt_size e)) (Heap.get?_push_of_some _ e)
  generalize hC0 : H2.objs.size = C at *
  have W2 : Wd G O g L { s₂ with heap := h₁, toks := s₂.toks + ([] : List (Str × Value)).length } fl ((C, co) :: (D, lstO #[] 0) :: news) :=
    W1.fxNew ⟨fun b o e _ => up b o e, rfl, rfl⟩ goneC hco
  have st₁ : St 0 h₁ := Wk.frame _ _ _ st fun b _ o e => up b o (k2 b o e)
  have hCD : C ≠ D := fun q => by rw [q] at goneC; rw [eD] at goneC; cases goneC
  have wrC : ∀ b ∈ wr, C ≠ b ∧ D ≠ b := fun b hb => ⟨fun q => hfC (q ▸ Wk.sub b hb), fun q => hfD (q ▸ Wk.sub b hb)⟩
  have lf : codeAny (model prog w) A (.compLoop (.ListComp elt [⟨.Name xn px, iter, [], 0⟩] scope pos) 0 (.ref I) (.ref D) (compEnvC scope cl C (envX qual sc L fa cdv clE)))
      (compPost (model prog w) A E (some (assign (.Name y py) (envX qual sc L fa cdv clE))) (fun _ s' => Q .next s') (.ref D) C) { s₂ with heap := h₁, toks := s₂.toks + ([] : List (Str × Value)).length } := by
    refine codeAny_compLoop_list (fun j s' => ∃ i nw co ys m mm, i + j = n ∧ ys.size = i ∧ St i s'.heap ∧ Wd G O g L s' fl ((C, co) :: (D, lstO ys m) :: nw) ∧ s'.heap.Ns C mm ∧ J i s' nw ys ∧ ∀ b ∈ wr, ∀ p ∈ nw, p.1 ≠ b)
      (fun j s' => ?_) n ⟨0, news, co, #[], 0, _, by omega, rfl, st₁, W2, hns₁, hJ _ _ _ _ _ j0 (.of fun b o e => up b o (k2 b o e)), fun b hb => (hwr b hb).2.2⟩
    rintro ⟨i, nw, co, ys, m, mm, hij, hys, sti, Wi, hns, ji, apart⟩
    have off : ∀ b ∈ wr, g.get? b = none ∧ b ≠ L ∧ ∀ p ∈ ((C, co) :: (D, lstO ys m) :: nw), p.1 ≠ b := fun b hb => ⟨(hwr b hb).1, (hwr b hb).2.1, fun p hp => by
      rcases List.mem_cons.mp hp with rfl | hp
      · exact (wrC b hb).1
      · rcases List.mem_cons.mp hp with rfl | hp
        · exact (wrC b hb).2
        · exact apart b hb p hp⟩
    cases j with
    | zero =>
      have hn : i = n := by omega
      subst hn
      refine Wk.done s' _ _ sti fun h' tk hk => ?_
      have F : Fx s' { s' with heap := h', toks := tk } wr := ⟨fun b o e nb => hk b o nb e, rfl, rfl⟩
      have Wj := Wi.fxw F off
      have jj := hJ _ _ _ _ _ ji (F.tup fun b hb => hnt _ _ sti b hb)
      have nsj : h'.Ns C mm := hns.at' fun o e => hk _ _ (fun q => (wrC _ q).1 rfl) e
      show wpAny _ A (assign (.Name y py) (envX qual sc L fa cdv clE) (.ref D)) _ _ _
      refine wpAny_assign_Name (store_W Wj (fun s4 W4 F4 => ?_) hsk hy)
      have ns4 : s4.heap.Ns C mm := by
        obtain ⟨o, es, ep, e, r⟩ := nsj
        have e2 := Wj.get (a := C) (o := co) (.head _)
        rw [show h'.get? C = some co from e2] at e; cases e
        exact ⟨co, es, ep, W4.get (.head _), r⟩
      have j4 := hJ _ _ _ _ _ jj (Wj.fxL F4)
      refine ⟨mm, ns4, fun h'' hs'' => ?_⟩
      have Wk' := W4.sub (news' := (D, lstO ys m) :: nw) (.cons _ (List.Sublist.refl _))
      have F2 : Fx s4 { s4 with heap := h'' } [C] := ⟨fun b o e nb => (hs''.2 b (by simpa using nb)).trans e, rfl, rfl⟩
      have cn := W4.nw (C, co) (.head _)
      have cnd := (List.nodup_cons.mp W4.nd).1
      refine fin _ D nw ys m (Wk'.fxw F2 fun b hb => ?_) (hJ _ _ _ _ _ j4 (F2.tupNs ns4))
      rw [List.mem_singleton.mp hb]
      exact ⟨cn.2.2, cn.2.1, fun p hp q => cnd (List.mem_map.mpr ⟨p, hp, q⟩)⟩
    | succ j =>
      refine Wk.item i s' _ _ (by omega) sti fun v h' tk hp st' hk => ?_
      have F : Fx s' { s' with heap := h', toks := tk } wr := ⟨fun b o e nb => hk b o nb e, rfl, rfl⟩
      have Wj := Wi.fxw F off
      have jj := hJ _ _ _ _ _ ji (F.tup fun b hb => hnt _ _ sti b hb)
      have nsj : h'.Ns C mm := hns.at' fun o e => hk _ _ (fun q => (wrC _ q).1 rfl) e
      refine wpAny_assign_Name (wpAny_storeName_local (lookup_relabel_local hx) nsj (fun h2 hn2 hs2 => ?_) (by simp [compEnvC, relabel, hkind]))
      have F2 : Fx { s' with heap := h', toks := tk } { s' with heap := h2, toks := tk + 1 } [C] := ⟨fun b o e nb => (hs2.2 b (show b ≠ C by simpa using nb)).trans e, rfl, rfl⟩
      have hn2 : h2.Ns C (fun y => if y = xn then some v else mm y) := hn2
      obtain ⟨co2, hco2⟩ : ∃ co, h2.get? C = some co := by obtain ⟨o, _, _, e, _⟩ := hn2; exact ⟨o, e⟩
      have W3 := Wj.fx1 (a := C) .head F2 hco2
      have j3 := hJ _ _ _ _ _ jj (F2.tupNs nsj)
      have st3 : St (i + 1) h2 := Wk.frame _ _ _ st' fun b hb o e => F2.keep b o e fun m => hfC (List.mem_singleton.mp m ▸ hb)
      have livew : ∀ b ∈ wr, ∃ ob, h2.get? b = some ob := fun b hb => let ⟨ob, e, _⟩ := hnt _ _ st3 b hb; ⟨ob, e⟩
      refine wpAny_mono (turn i D C v _ nw co2 ys m _ _ (by omega) hp W3 hn2 (if_pos rfl) j3 livew) (fun y s₄ z => ?_) fun _ _ e => e
      obtain ⟨nw', W4, F4, ap, j4⟩ := z
      have st4 : St (i + 1) s₄.heap := Wk.frame _ _ _ st3 fun b hb o e => F4.keep b o e fun m => has b m hb
      refine append_fx (W4.get (a := D) (.tail _ (.head _))) (by rw [sizeLine_eq]; omega) fun s₅ F5 e5 => ?_
      have W5 := W4.fx1 (a := D) (.tail .head) F5 e5
      have T5 := F5.tup1 (W4.get (a := D) (.tail _ (.head _))) (nt_list _ _)
      have ns5 : s₅.heap.Ns C (fun y => if y = xn then some v else mm y) := by
        obtain ⟨o, es, ep, e, r⟩ := hn2
        rw [hco2] at e; cases e
        exact ⟨co2, es, ep, W5.get (.head _), r⟩
      refine ⟨j, by omega, i + 1, nw', co2, ys.push y, m + 1, _, by omega, by simp [hys], Wk.frame _ _ _ st4 fun b hb o e => F5.keep b o e fun m => hfD (List.mem_singleton.mp m ▸ hb), W5, ns5, hJ _ _ _ _ _ j4 T5, fun b hb p hp q => ?_⟩
      rcases ap p hp with z | z
      · obtain ⟨p2, hp2, e2⟩ := List.mem_map.mp z
        exact apart b hb p2 hp2 (e2.trans q)
      · obtain ⟨ob, e⟩ := livew b hb
        rw [q] at z
        rw [show h2.get? b = none from z] at e; cases e
  exact codeAny_compStart_list lf (Wk.self 0 _ _ _ st₁ lf)
end
end
section
open PySem PySem.W PyProof.Rows PySem.Calls Builtin
set_option Elab.async false
set_option maxRecDepth 100000
set_option pp.deepTerms false
set_option pp.maxSteps 1500
set_option linter.unusedVariables false
section
variable {prog : Program} {w : World} {κ : Type} [DecidableEq κ] {ek : EK prog w κ} {th : SetTh ek}
  {A : Around} {E : Value → Shared → Prop} {s s' s₁ : Shared} {R : Result → Shared → Prop} {x : Addr} {ks kb kl km : List κ} {k : κ} {v v2 : Value} {w0 : List Addr} {name : Str} {id T : String}
  {G : Array GenState} {O : OsState} {g base : Heap} {outer : List Env} {L a r l : Addr} {fl : List (Str × Value)} {news old upd rest foot : List (Addr × Obj)} {ob ob' : Obj} {f : Obj → List (Addr × Obj)} {o o' : Tob} {xs : Array Value} {m : Nat}
theorem asg_row0 {qual : Str} {sc : Scope} {fa c : Addr} {cdv : Value} {cl : List (Str × Addr)} {S l0 : Addr} {vs : List Value} {ns : List Int} {i c0 : Int} {t1 t2 : Tok} {m m0 k1 k2 : Nat} {co : Obj} {p1 p2 p3 p4 p5 p6 p7 p8 p9 p10 p11 py pos spos : Pos} {y : Str} {Q : Flow → Shared → Prop}
    (D : Std A base outer g w (envX qual sc L fa cdv cl) L) (W : Wd G O g L s fl ((S, stO l0 i c0 t1 t2 m) :: rest)) (hl0 : (l0, lstO vs.toArray m0) ∈ rest) (H : DrawAt S l0 vs ns i c0) (hm : (c, co) ∈ rest) (hcd : co.data = .cell (some (.ref S)))
    (hsw : swapsWith (.ListComp (.Call (.Name "_law_next" p5) [.Name "state" p6, .Constant (.int 9) k1 p7] [] p8) [⟨.Name "_" p9, .Call (.Name "range" p10) [.Call (.Name "_law_next" p1) [.Name "state" p2, .Constant (.int 7) k2 p3] [] p4] [] p11, [], 0⟩] rowScope pos) (some (.Name y py)) spos.line (envX qual sc L fa cdv cl) = pure true) (hy : (envX qual sc L fa cdv cl).kindOf y = some .local)
    (hclos : closureFor rowScope (envX qual sc L fa cdv cl) = pure [(("state" : Str), c)])
    (hn : ∀ {Q' : Value → Shared → Prop}, Q' (.ref S) s → wpAny (model prog w) (A.deeper (envX qual sc L fa cdv cl)) (eval (.Name "state" p2) (envX qual sc L fa cdv cl)) Q' E s)
    (h : ∀ s' r xs m2 i' c' t1' t2' m' kl, Wd G O g L s' ((y, .ref r) :: fl) ((r, lstO xs m2) :: (S, stO l0 i' c' t1' t2' m') :: rest) → DrawAt S l0 vs ns i' c' → (ekI prog w).All s'.heap xs.toList kl → kl.length ≤ 6 → (∀ k ∈ kl, k < 9) → Q .next s')
    (hct : ∀ C, (compEnvC rowScope [("state", c)] C (envX qual sc L fa cdv cl)).kindOf "state" = some .cell := by intro C; rfl)
    (hcn : ∀ C, (compEnvC rowScope [("state", c)] C (envX qual sc L fa cdv cl)).kindOf "_law_next" = some .globalImplicit := by intro C; rfl)
    (hk : sc.kind = .function := by rfl) (hx : (envX qual sc L fa cdv cl).kindOf "range" = some .globalImplicit := by rfl) (hx2 : (envX qual sc L fa cdv cl).kindOf "_law_next" = some .globalImplicit := by rfl) :
    wpAny (model prog w) (A.deeper (envX qual sc L fa cdv cl)) (exec (.Assign [.Name y py] (.ListComp (.Call (.Name "_law_next" p5) [.Name "state" p6, .Constant (.int 9) k1 p7] [] p8) [⟨.Name "_" p9, .Call (.Name "range" p10) [.Call (.Name "_law_next" p1) [.Name "state" p2, .Constant (.int 7) k2 p3] [] p4] [] p11, [], 0⟩] rowScope pos) spos) (envX qual sc L fa cdv cl)) Q E s := by
  refine comp_WA (G := G) (O := O) (g := g) (L := L) (fl := fl) (cl := [("state", c)]) (as := [S]) (fun j s' nw ys => ∃ i' c' t1' t2' m', ∃ kl : List Int, nw = (S, stO l0 i' c' t1' t2' m') :: rest ∧ DrawAt S l0 vs ns i' c' ∧ kl.length = j ∧ (ekI prog w).All s'.heap ys.toList kl ∧ ∀ k ∈ kl, k < 9)
    hsw hy hk hclos (by decide) rfl (by decide) rfl (fun i s s' nw ys z _ => z) ?_
  refine Call_ (bName (v := .type "range") D.gd W D.below.stays (g_range _) (by kernel_rfl) ?_ (hk := hk) (hx' := hx))
  refine PyProof.Rows.callWith_type1 (args_cons ?_)
  refine ev_nextG D W (.cons .head .nil) (.tail _ hl0) H (by decide) (fun q => kName D.gd W D.below.stays (g_next' _) q hk hx2) hn fun s₁ i1 c1 u1 u2 m1 r tk W1 F1 H1 hr => args_nil ?_
  obtain ⟨n, rfl⟩ := Int.eq_ofNat_of_zero_le hr.1
  have hn6 : n ≤ 6 := by omega
  obtain ⟨sm1, sm2⟩ := small_range n (by omega)
  refine range1_iter (n := n) sm1 sm2 fun s₂ I F hI hit => ?_
  have W2 := W1.fx0 F
  have fr := W1.fresh hI
  have hSI : S ≠ I := fun q => fr.2.2 _ (.head _) q
  refine ⟨n, I, [I], [I], _, _, _, by omega, rfl, walks_bound (walk_range D.rm.hand I 0 1 n), by simpa using hit, W2, ⟨i1, c1, u1, u2, m1, [], rfl, H1, rfl, .nil, fun _ m => by cases m⟩, fun b hb => by rw [List.mem_singleton.mp hb]; exact Heap.lt_size hit, hwr1 fr, ?_, (fun a ha m => hSI (by rw [← List.mem_singleton.mp ha, ← List.mem_singleton.mp m])), ?_, ?_⟩
  · intro i h st b hb
    rw [List.mem_singleton.mp hb]
    exact ⟨_, st, by show Value.type "range_iterator" ≠ _; decide⟩
  · rintro j D' C v s₃ nw co' ys m3 mm E' hlt ⟨_, t, rfl⟩ W3 hns hmk ⟨i3, c3, u3, v3, n3, kl, rfl, H3, hkl, a3, b3⟩ _
    refine ev_nextG D W3 (.cons (.tail (.tail .head)) .nil) (.tail _ (.tail _ (.tail _ hl0))) H3 (by decide) (fun q => cName D.gd W3 D.below.stays (g_next' _) q rfl (hcn C)) (fun q => wpAny_Name (wpAny_loadName_cell rfl (hct C) rfl ⟨co, W3.get (.tail _ (.tail _ (.tail _ hm))), hcd⟩ q) rfl) fun s₄ i4 c4 u4 v4 n4 r tk W4 F4 H4 hr => ?_
    refine ⟨(S, stO l0 i4 c4 u4 v4 n4) :: rest, W4.perm ((List.Perm.cons _ (List.Perm.swap _ _ _)).trans (List.Perm.swap _ _ _)), F4, fun p hp => .inl ?_, i4, c4, u4, v4, n4, kl ++ [r], rfl, H4, by simp [hkl], ?_, fun k hk => ?_⟩
    · rcases List.mem_cons.mp hp with rfl | hp
      · exact List.mem_cons_self
      · exact List.mem_cons_of_mem _ (List.mem_map_of_mem hp)
    · rw [Array.toList_push]
      exact All2.app a3 (.cons (is_int hr.1 (by omega)) .nil)
    · rcases List.mem_append.mp hk with z | z
      · exact b3 k z
      · rw [List.mem_singleton.mp z]; exact hr.2
  · rintro s' D' nw ys m3 W' ⟨i3, c3, u3, v3, n3, kl, rfl, H3, hkl, a3, b3⟩
    exact h s' D' ys m3 i3 c3 u3 v3 n3 kl W' H3 a3 (by omega) b3
theorem slice_uptoL {env : Env} {value up : Expr} {p pos : Pos} {Q : Value → Shared → Prop}
    (h : wpAny (model prog w) A (eval value env) (fun o s₁ => wpAny (model prog w) A (eval up env) (fun u s₂ => ∃ l xs b t, o = .ref l ∧ u = .int b t ∧ 0 ≤ b ∧ s₂.heap.IsList l xs ∧ xs.size ≤ sizeLine ∧
        ∀ s₄ r, Fx s₂ s₄ [] → s₂.heap.get? r = none → s₄.heap.get? r = some (lstO (xs.toList.take b.toNat).toArray 0) → Q (.ref r) s₄) E s₁) E s)
    (ht : ∀ o r, letTemporaryGo value o r = pure () := by intro _ _; rfl) :
    wpAny (model prog w) A (eval (.Subscript value (.Slice none (some up) none p) pos) env) Q E s := by
  refine wpAny_Subscript_list_slice (wpAny_mono h (fun o s₁ h₁ => ?_) fun _ _ e => e) ht
  rw [evalPart_none]
  refine wpAny_pure (wpAny_mono (t := eval up env) h₁ (fun u s₂ h₂ => ?_) fun _ _ e => e)
  obtain ⟨l, xs, b, t, rfl, rfl, hb, hl, hz, hQ⟩ := h₂
  refine ⟨l, xs, none, some b, rfl, hl, hz, .none, .int _ _, hQ _ _ ⟨fun b o e _ => Heap.get?_push_of_some _ (Heap.get?_push_of_some _ e), rfl, rfl⟩ (Heap.get?_none_of_le (Nat.le_succ _)) ?_⟩
  obtain ⟨n, rfl⟩ := Int.eq_ofNat_of_zero_le hb
  rw [slicePick_upto']
  exact Heap.get?_push_at (by rw [Heap.size_push]) rfl
end
end
section
open PySem PySem.W PyProof.Rows PySem.Calls Builtin
set_option Elab.async false
set_option maxRecDepth 100000
set_option pp.deepTerms false
set_option pp.maxSteps 1500
set_option linter.unusedVariables false
section
variable {prog : Program} {w : World} {κ : Type} [DecidableEq κ] {ek : EK prog w κ} {th : SetTh ek}
  {A : Around} {E : Value → Shared → Prop} {s s' s₁ : Shared} {R : Result → Shared → Prop} {x : Addr} {ks kb kl km : List κ} {k : κ} {v v2 : Value} {w0 : List Addr} {name : Str} {id T : String}
  {G : Array GenState} {O : OsState} {g base : Heap} {outer : List Env} {L a r l : Addr} {fl : List (Str × Value)} {news old upd rest foot : List (Addr × Obj)} {ob ob' : Obj} {f : Obj → List (Addr × Obj)} {o o' : Tob} {xs : Array Value} {m : Nat}
section
variable {fa la : Addr} {k1 k2 k3 : Obj} {th : SetTh (ekI prog w)} {cdv : Value} {sc : Scope} {s0 s1 s2 s3 s5 d1 d2 d3 d4 d6 : Stmt} {t it c0 c1 c2 c3 c4 c5 c6 c7 : Expr} {b0 b1 b2 b3 b4 b5 b6 b7 b8 : List Stmt} {q0 q1 q2 q3 q4 q5 q6 q7 fp0 : Pos} {Q : Flow → Shared → Prop}
  {vs : List Value} {ns : List Int} {v1 v2 v3 : Option Value}
set_option maxHeartbeats 8000000 in
theorem law_body (T : LawText w.params sc s0 s1 s2 s3 s5 d1 d2 d3 d4 d6 t it c0 c1 c2 c3 c4 c5 c6 c7 b0 b1 b2 b3 b4 b5 b6 b7 b8) (D : Std A base [] g w (envX "law" sc L fa cdv (lawCl L)) L)
    {p : Program} {lo : List Str} {mean : ExcName → Option Value} {mg mb : Str → Option Value} (TB : Top p lo mean mg mb base) (hg : A.guards = some []) (th : SetTh (ekI prog w))
    (W : Wd G O g L s [("script", .ref la)] [(L + 1 + 1 + 1, k3), (L + 1 + 1, k2), (L + 1, k1)]) (h1 : k1.data = .cell v1) (h2 : k2.data = .cell v2) (h3 : k3.data = .cell v3)
    (hla : g.IsList la vs.toArray) (hi : IntsAre vs ns) (hlen : ns.length ≤ 63) (h : ∀ s', (∀ b o, g.get? b = some o → s'.heap.get? b = some o) → s'.gens = G → s'.os = O → Q (.ret (.bool true)) s') :
    wpAny (model prog w) (A.deeper (envX "law" sc L fa cdv (lawCl L))) (execs [s0, s1, s2, s3, .For t it [d1, d2, d3, d4, .If c0 b0 [.If c1 b1 [.If c2 b2 [.If c3 b3 [.If c4 b4 [.If c5 b5 [.If c6 b6 [.If c7 b7 b8 q7] q6] q5] q4] q3] q2] q1] q0, d6] [] fp0, s5] (envX "law" sc L fa cdv (lawCl L))) Q E s := by
  have T2 := T
  clear T
  have T := T2
  obtain ⟨oc, od, dV, kV, doc, pm, an, cdv', ct, osl, params, fp, p0, p1, p2, p3, p4, p5, p6, p7, ho⟩ := T
  have XK : (Mine.hd.heap_39 w.params) = (Mine.hd.heap_39 w.params) ∧ PySem.Challenge.rw_eu0034_01 = PySem.Challenge.rw_eu0034_01 := ⟨rfl, rfl⟩
  revert XK
  k_fill
  intro _
  have e := (show (Mine.hd.heap_39 w.params).lookup 281 = some _ from by k_is)
  rw [e] at ho
  cases ho
  clear e
  have hh := D.rm.hand
  have hvl : vs.length = ns.length := hi.length
  refine wpAny_execs_cons (wpAny_Assign_Name (List_ (args_cons (slice_uptoL (nameX_L W.fr rfl (wpAny_Constant_int ?_))))))
  have W0 := W.toks (t := s.toks + 1)
  refine ⟨la, vs.toArray, 90, _, rfl, rfl, by decide, (by obtain ⟨ob, e, r⟩ := hla; exact ⟨ob, W0.base e, r⟩), by rw [sizeLine_eq, List.size_toArray]; omega, fun s₁ r0 F1 hr1 e1 => ?_⟩
  rw [show (vs.toArray.toList.take (90 : Int).toNat).toArray = vs.toArray by
    show (vs.take 90).toArray = _
    rw [List.take_of_length_le (by omega)]] at e1
  have W1 := W0.fxNew F1 hr1 e1
  refine args_cons (wpAny_Constant_int (args_cons (wpAny_Constant_int (args_nil (wpAny_newObj_type ?_)))))
  have W2 := W1.push (stO r0 0 17 s₁.toks (s₁.toks + 1) 0) rfl (t := s₁.toks + 1 + 1)
  generalize s₁.heap.objs.size = S at W2 ⊢
  refine store_C W2 (.tail (.tail (.tail (.tail .head)))) rfl h1 fun s₃ k1' W3 F3 hk1 => ?_
  have DA : DrawAt S r0 vs ns 0 17 := ⟨hi, by omega, fun q => (List.nodup_cons.mp W3.nd).1 (by rw [← q]; exact .head _), ⟨by decide, by omega⟩, by decide⟩
  refine wpAny_execs_cons ?_
  refine asg_row0 (c := L + 1) (co := k1') D W3 (.head _) DA (by walk_at "mm") hk1 rfl rfl rfl (fun q => nameX_C W3.nw rfl (by walk_at "mm") hk1 q) fun s₄ rr xs4 m4 i4 c4 u4 v4 n4 kl W4 DA4 a4 z4 lt4 => ?_
  have sz4 : xs4.size = kl.length := by rw [← Array.length_toList, EK.All.length a4]
  refine wpAny_execs_cons (assign_pair hh (Call_ (kName D.gd W4 D.below.stays (g_OrderedSet _) ?_)))
  refine callWith_K D.X (keep225 _) (args_cons (slice_all (nameX_L W4.fr rfl ?_)))
  refine ⟨rr, xs4, m4, rfl, W4.get (.head _), by rw [sizeLine_eq]; omega, fun s₅ r5 F5 hr5 e5 => ?_⟩
  have W5 := W4.fxNew F5 hr5 e5
  refine args_nil ⟨W5.kin D.X, wpAny_call ?_⟩
  refine c_new_list (th := th) (kl := kl) D.gd (D.site W5 (by decide)) e5 (allI a4) (by omega) fun s₆ x o ch6 O6 => ?_
  have W6 := W5.chg (old := []) .nil ch6
  refine Call_ (kName D.gd W6 D.below.stays (g_once _) ?_)
  refine callWith_K D.X (keep249 _) (args_cons (nameX_L W6.fr rfl (args_nil ⟨W6.kin D.X, wpAny_call ?_⟩)))
  refine c_once (ek := ekI prog w) (kl := kl) D.gd (D.site W6 (by decide)) (l := rr) (xs := xs4) (m := m4) (W6.get (by walk_at "mm")) (allI a4) fun s₇ hd ys my ch7 a7 => ?_
  have W7 := W6.chg (old := []) .nil ch7
  intro s₈ F8
  have W8 := W7.fx0 F8
  refine wpAny_assign_Name (store_C W8 (.tail (.tail (.tail (.tail (.tail (.tail (.tail (.tail (.tail .head))))))))) rfl h2 fun s₉ k2' W9 F9 hk2 => ?_)
  refine wpAny_assign_Name (store_W W9 fun s₁₀ W10 F10 => ?_)
  refine wpAny_execs_cons (wpAny_If (wpAny_isTrue_Compare1 (Call_ (kName D.gd W10 D.below.stays (g_unique _) ?_))))
  refine callWith_K D.X (keep21 _) (args_cons (slice_all (nameX_L W10.fr ((lk_skip (by decide)).trans rfl) ?_)))
  refine ⟨rr, xs4, m4, rfl, W10.get (by walk_at "mm"), by rw [sizeLine_eq]; omega, fun s₁₁ r11 F11 hr11 e11 => ?_⟩
  have W11 := W10.fxNew F11 hr11 e11
  refine args_nil ⟨W11.kin D.X, wpAny_call ?_⟩
  refine c_unique (ek := ekI prog w) (kl := kl) D.gd (D.site W11 (by decide)) e11 (allI a4) (by omega) fun s₁₂ r12 xs12 m12 ch12 a12 => ?_
  have W12 := W11.chg (old := []) .nil ch12
  refine nameX_L W12.fr rfl ?_
  refine ne_lists (ks := kl.foldl addK []) (kl := kl.foldl addK []) (l := r12) (xs := xs12) (m := m12) (l2 := hd) (ys := ys) (m2 := my) (Wd.ok3 D) W12 (.head _) (by walk_at "mm") a12 (allI a7) fun s₁₃ W13 => wpAny_truthy_bool ?_
  rw [if_neg (by simp)]
  refine wpAny_execs_nil ?_
  have W13 : Wd G O g L s₁₃ _ ((S, stO r0 i4 c4 u4 v4 n4) :: (r0, lstO vs.toArray 0) :: (L + 1, k1') :: (L + 1 + 1, k2') :: (L + 1 + 1 + 1, k3) :: (hd, lstO ys my) :: (o.ents x ++ [])) :=
    W13.ext (Ext.cons (by walk_at "pk") (Ext.cons (by walk_at "pk") (Ext.cons (by walk_at "pk") (Ext.cons (by walk_at "pk") (Ext.cons (by walk_at "pk") (Ext.cons (by walk_at "pk") (Ext.cons (by walk_at "pk") (Ext.cons (by walk_at "pk") (Ext.cons (by walk_at "pk") Ext.nil)))))))))
  refine wpAny_execs_cons (wpAny_For (Call_ (bName (v := .type "range") D.gd W13 D.below.stays (g_range _) (by kernel_rfl) ?_)))
  refine PyProof.Rows.callWith_type1 (args_cons (wpAny_BinOp (wpAny_Constant_int ?_)))
  have W14 := W13.toks (t := s₁₃.toks + 1)
  refine ev_next D W14 (.head _) DA4 (by decide) (fun q => nameX_C W14.nw rfl (by walk_at "mm") hk1 q) fun s₁₅ i5 c5' u5 v5 n5 rn tn W15 F15 T15 DA15 hrn => ?_
  refine PyProof.Rows.add_int (args_nil ?_)
  obtain ⟨n, rfl⟩ := Int.eq_ofNat_of_zero_le hrn.1
  rw [show (1 : Int) + (n : Int) = ((n + 1 : Nat) : Int) by omega]
  obtain ⟨sm1, sm2⟩ := small_range (n + 1) (by omega)
  refine range1_iter (n := n + 1) sm1 sm2 fun s₁₆ I0 F16 hI hit => ?_
  have W16 := (W15.toks (t := s₁₅.toks + 1)).fxNew F16 hI hit
  have H0 : LW th G O g L S r0 I0 (lstO vs.toArray 0) k1' { cls := .type "range_iterator", dict := none, data := .fields #[rawInt 0, rawInt ((n + 1 : Nat) : Int), rawInt 1], slots := #[] } k3 (stO r0 i5 c5' u5 v5 n5) s₁₆ _ k2' x o hd ys my (kl.foldl addK []) [] :=
    ⟨W16.perm (.swap _ _ _), osI O6, allI a7, hk2, rfl, fun k hk => (mem_addAll.mp hk).elim (fun z => by cases z) (lt4 k)⟩
  refine for_walkI (walk_range hh I0 0 1 (n + 1)) (fun j s' => ∃ fl io i c t1 t2 mS k2 k3 v3 x o hd ys m ks, LW th G O g L S r0 I0 (lstO vs.toArray 0) k1' io k3 (stO r0 i c t1 t2 mS) s' fl k2 x o hd ys m ks [] ∧ k3.data = .cell v3 ∧ DrawAt S r0 vs ns i c) ?_ ?_ (by simpa using hit) ⟨_, _, _, _, _, _, _, _, _, _, _, _, _, _, _, _, H0, h3, DA15⟩
  · rintro j v s' s'' hlt hp ⟨fl', io, i, c, t1, t2, mS, k2, k3, v3, x, o, hd, ys, m, ks, H, h3, DA⟩ F st
    have W17 := H.W.fx1 (a := I0) (.tail .head) F st
    refine store_W W17 fun s₁₈ W18 F18 => ?_
    refine turn T2 D rfl TB hg ⟨W18, osI H.os, allI H.row, H.told, (lk_skip (by decide)).trans H.held, H.lt⟩ hk1 h3 DA fun s₁₉ fl9 k39 v39 i9 c9 t19 t29 mS9 k29 x9 o9 hd9 ys9 m9 ks9 H9 h39 DA9 => ?_
    exact ⟨⟨_, _, _, _, _, _, _, _, _, _, _, _, _, _, _, _, H9, h39, DA9⟩, H9.W.get (.tail _ (.head _))⟩
  · rintro s' s'' ⟨fl', io, i, c, t1, t2, mS, k2, k3, v3, x, o, hd, ys, m, ks, H, h3, DA⟩ F
    have Wd0 := H.W.sub (news' := (S, stO r0 i c t1 t2 mS) :: (r0, lstO vs.toArray 0) :: (L + 1, k1') :: (L + 1 + 1, k2) :: (L + 1 + 1 + 1, k3) :: (hd, lstO ys m) :: (o.ents x ++ [])) (.cons_cons _ (.cons _ (.refl _)))
    have nI := H.W.nw (I0, io) (.tail _ (.head _))
    have aI : ∀ p ∈ (S, stO r0 i c t1 t2 mS) :: (r0, lstO vs.toArray 0) :: (L + 1, k1') :: (L + 1 + 1, k2) :: (L + 1 + 1 + 1, k3) :: (hd, lstO ys m) :: (o.ents x ++ []), p.1 ≠ I0 := fun p hp q => by
      have z := H.W.nd
      have e : lawLed S I0 r0 L (stO r0 i c t1 t2 mS) io (lstO vs.toArray 0) k1' k2 k3 hd (lstO ys m) (o.ents x ++ []) = (S, stO r0 i c t1 t2 mS) :: (I0, io) :: (r0, lstO vs.toArray 0) :: (L + 1, k1') :: (L + 1 + 1, k2) :: (L + 1 + 1 + 1, k3) :: (hd, lstO ys m) :: (o.ents x ++ []) := rfl
      rw [e] at z
      have z2 := ((List.Perm.swap (I0, io) (S, stO r0 i c t1 t2 mS) ((r0, lstO vs.toArray 0) :: (L + 1, k1') :: (L + 1 + 1, k2) :: (L + 1 + 1 + 1, k3) :: (hd, lstO ys m) :: (o.ents x ++ []))).map (·.1)).nodup_iff.mp z
      exact (List.nodup_cons.mp z2).1 (List.mem_map.mpr ⟨p, hp, q⟩)
    have W17 := Wd0.fxw F (fun b hb => by rw [List.mem_singleton.mp hb]; exact ⟨nI.2.2, nI.2.1, aI⟩)
    refine wpAny_execs_cons (wpAny_Return_some (wpAny_Compare1 ?_))
    have memO : ∀ p ∈ o.ents x, p ∈ (S, stO r0 i c t1 t2 mS) :: (r0, lstO vs.toArray 0) :: (L + 1, k1') :: (L + 1 + 1, k2) :: (L + 1 + 1 + 1, k3) :: (hd, lstO ys m) :: (o.ents x ++ []) := fun p hp => .tail _ (.tail _ (.tail _ (.tail _ (.tail _ (.tail _ (List.mem_append_left _ hp))))))
    refine ev_toldk (th := th) (ks := ks) (x := x) (o := o) (l := hd) (xs := ys) (m := m) (c := L + 1 + 1) (co := k2) D W17 memO (osI H.os) (by walk_at "mm") (allI H.row) (by walk_at "mm") H.told rfl (fun q => nameX_L W17.fr H.held q) fun s₁₈ r18 xs18 m18 W18 a18 => ?_
    refine nameX_L W18.fr H.held ?_
    refine eq_lists (ks := ks) (kl := ks) (l := r18) (xs := xs18) (m := m18) (l2 := hd) (ys := ys) (m2 := m) (Wd.ok3 D) W18 (.head _) (by walk_at "mm") a18 (allI H.row) fun s₁₉ W19 => ?_
    rw [decide_eq_true rfl]
    exact h s₁₉ W19.keeps W19.gens W19.os
end
end
end
section
open PySem PySem.W PyProof.Rows PySem.Calls
set_option Elab.async false
set_option maxRecDepth 100000
set_option pp.deepTerms false
set_option pp.maxSteps 3000
theorem law_start {prog : Program} {w : World} {E : Value → Shared → Prop} {s₁ : Shared} {h₁ : Heap} {tk : Nat} {fa a0 : Addr} {cdv : Value} {k1 k2 k3 : Obj} {sc : Scope} {s0 s1 s2 s3 s5 d1 d2 d3 d4 d6 : Stmt} {t it c0 c1 c2 c3 c4 c5 c6 c7 : Expr} {b0 b1 b2 b3 b4 b5 b6 b7 b8 : List Stmt} {q0 q1 q2 q3 q4 q5 q6 q7 fp0 : Pos} {Q : Flow → Shared → Prop}
    {vs : List Value} {ns : List Int} {bl : Str → Option Value} {cm : Str → Option Value}
    (T : LawText w.params sc s0 s1 s2 s3 s5 d1 d2 d3 d4 d6 t it c0 c1 c2 c3 c4 c5 c6 c7 b0 b1 b2 b3 b4 b5 b6 b7 b8) {p : Program} {lo : List Str} {mean : ExcName → Option Value} {mg mb : Str → Option Value} (TB : Top p lo mean mg mb s₁.heap)
    (KX : (KK w.params).In s₁.heap) (F : Fr s₁.heap s₁.heap.objs.size h₁ bl) (hbl : bl = fun y => List.lookup y [(("script" : Str), Value.ref a0)])
    (N : News s₁.heap s₁.heap.objs.size h₁ [(s₁.heap.objs.size + 1 + 1 + 1, k3), (s₁.heap.objs.size + 1 + 1, k2), (s₁.heap.objs.size + 1, k1)]) (h1 : k1.data = .cell (cm "state")) (h2 : k2.data = .cell (cm "told")) (h3 : k3.data = .cell (cm "one"))
    (hcl : cellsFrom (s₁.heap.objs.size + 1) sc.names [] = lawCl s₁.heap.objs.size) (hk : sc.kind = .function)
    (hla : s₁.heap.IsList a0 vs.toArray) (hi : IntsAre vs ns) (hlen : ¬ ((63 : Nat) : Int) < (ns.length : Int)) (h : ∀ s', (∀ b o, s₁.heap.get? b = some o → s'.heap.get? b = some o) → s'.gens = s₁.gens → s'.os = s₁.os → Q (.ret (.bool true)) s') :
    wpAny (model prog w) (callerA.deeper (envOfC "law" sc s₁.heap.objs.size fa cdv)) (execs [s0, s1, s2, s3, .For t it [d1, d2, d3, d4, .If c0 b0 [.If c1 b1 [.If c2 b2 [.If c3 b3 [.If c4 b4 [.If c5 b5 [.If c6 b6 [.If c7 b7 b8 q7] q6] q5] q4] q3] q2] q1] q0, d6] [] fp0, s5] (envOfC "law" sc s₁.heap.objs.size fa cdv)) Q E { s₁ with heap := h₁, toks := tk } := by
  have e : envOfC "law" sc s₁.heap.objs.size fa cdv = envX "law" sc s₁.heap.objs.size fa cdv (lawCl s₁.heap.objs.size) := by rw [← hcl]; rfl
  rw [e]
  subst hbl
  refine law_body (base := s₁.heap) (g := s₁.heap) T ⟨⟨KX, _, _, _, _, topRead_of TB⟩, below_caller _, ⟨by show callerA.depth + 1 + 90 < recursionLimit; decide, by show callerA.units + 3 + 10 * 90 < cLine; decide, rfl⟩, rfl, hk⟩ TB rfl (thI prog w) (G := s₁.gens) (O := s₁.os) ⟨F, N, ?_, rfl, rfl⟩ h1 h2 h3 hla hi (by omega) h
  have nd : ∀ n : Nat, ([n + 1 + 1 + 1, n + 1 + 1, n + 1] : List Nat).Nodup := by
    intro n
    refine List.nodup_cons.mpr ⟨fun m => ?_, List.nodup_cons.mpr ⟨fun m => ?_, List.nodup_cons.mpr ⟨fun m => (by cases m), List.nodup_nil⟩⟩⟩
    · rcases List.mem_cons.mp m with q | m
      · omega
      · rcases List.mem_cons.mp m with q | m
        · omega
        · cases m
    · rcases List.mem_cons.mp m with q | m
      · omega
      · cases m
  exact nd _
end
section
open PySem PySem.W PyProof.Rows PySem.Calls
set_option Elab.async false
set_option maxRecDepth 100000
set_option maxHeartbeats 8000000
set_option pp.deepTerms false
set_option pp.maxSteps 3000
theorem cw : PySem.Challenge.rw_eu0034_01.Holds := Mine.hd (by
  k_go0
  all_goals try k_fold
  refine law_start (T := ?T) (by assumption) (by assumption) (by assumption) ?hbl (by assumption) (by assumption) (by assumption) (by assumption) ?hcl ?hk (by assumption) (by assumption) (by assumption) ?h
  case hbl => exact bindL_is rfl
  case hcl => rfl
  case hk => rfl
  case T =>
    exact ⟨_, _, _, _, _, _, _, _, _, _, _, _, _, _, _, _, _, _, _, _, by k_is⟩
  case h =>
    intro s' kp hgn hos
    show GoodW _ _ _ _ _ (Except.ok (Flow.ret (Value.bool true))) _
    refine ⟨.inl ⟨.bool true, .bool true, [], rfl, ?r, .bool true, ?post, ?u⟩, kp, hos, hgn.trans (by assumption)⟩
    case r => exact raisesW_false (by wrow_none_raised)
    case post => wrow_post
    case u => exact fun _ => ⟨List.nodup_nil, fun _ m => by cases m⟩)
end
end Mine
theorem PySem.Challenge.cw_eu0034_01_holds : PySem.Challenge.rw_eu0034_01.Holds :=
  Mine.cw
