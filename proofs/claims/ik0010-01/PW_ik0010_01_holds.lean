import PyProof.Rows.All
import Wide.All
import OpenK.AllK
import Wide.FinOn
import Lean
import PySem.Challenge.RW_ik0010_01
set_option Elab.async false
section
open PySem PySem.W PyProof.Rows
namespace Mine
set_option maxRecDepth 100000 in
set_option maxHeartbeats 8000000 in
open_top lawTop for PySem.Challenge.rw_ik0010_01
end Mine
end
section
open PySem PySem.W PyProof.Rows PySem.Spec PySem.Calls
set_option maxRecDepth 100000
namespace Mine
abbrev PR : Program := PySem.Challenge.rw_ik0010_01.row.prog
noncomputable abbrev PV : Program := lawTop.view_39
noncomputable abbrev LS : List Str := looseW lawTop.view_39 [Str.ofString "filterfalse"]
abbrev lo (vs : List Value) (n : Nat) : Obj := { cls := .type "list", data := .seq vs.toArray n }
abbrev aTop (dp un : Nat) (gd : Option (List Code)) (fs : List Env) : Around := { handled := none, depth := dp, frames := some fs, guards := gd, units := un }
abbrev fad (fs : List Env) : List Addr := fs.filterMap (·.frame)
theorem off1_mem {D : Addr} : ∀ {l : List (Addr × Obj)}, LCg.Off1 D l → ∀ p ∈ l, p.1 ≠ D
  | [], _, _, h => nomatch h
  | _ :: _, x, p, h => by
    rcases List.mem_cons.mp h with rfl | h
    · exact x.1
    · exact off1_mem x.2 p h
structure Up (ex as : List Addr) (h h' : Heap) : Prop where
  keep : ∀ b o, h.get? b = some o → b ∉ ex → b ∉ as → h'.get? b = some o
  slot : ∀ b o, h.get? b = some o → b ∈ as → ∃ sl, h'.get? b = some { o with slots := sl }
theorem Up.refl {ex as : List Addr} {h : Heap} : Up ex as h h := ⟨fun _ _ e _ _ => e, fun _ o e _ => ⟨o.slots, e⟩⟩
theorem Up.trans {as : List Addr} {h h₁ h₂ : Heap} (x : Up [] as h h₁) (y : Up [] as h₁ h₂) : Up [] as h h₂ :=
  ⟨fun b o e n m => y.keep b o (x.keep b o e n m) n m, fun b o e m => by
    obtain ⟨s1, h1⟩ := x.slot b o e m
    obtain ⟨s2, h2⟩ := y.slot b _ h1 m
    exact ⟨s2, h2⟩⟩
def FrL (as : List Addr) (h : Heap) (fr : List (Addr × Obj)) : Prop :=
  fr.map (·.1) = as ∧ ∀ p ∈ fr, ∃ o sl, h.get? p.1 = some o ∧ p.2 = { o with slots := sl } ∧ ∀ vs, o.data ≠ .fields vs
structure Cx (w : World) (mean : ExcName → Option Value) (mg mb : Str → Option Value) (b₀ : Heap) (fs : List Env) (h : Heap) : Prop where
  X : (lawTop.heap_39 w.params).In b₀
  T : Top PV LS mean mg mb b₀
  st : ∀ b o, b₀.get? b = some o → h.get? b = some o
  ff : h.FunFrames b₀ fs
theorem frL_start {h b₀ : Heap} : ∀ {fs : List Env}, h.FunFrames b₀ fs → ∃ fr, FrL (fad fs) h fr ∧ (∀ p ∈ fr, h.get? p.1 = some p.2) ∧ ∀ a ∈ fad fs, b₀.get? a = none
  | [], _ => ⟨[], ⟨rfl, fun _ hp => (nomatch hp)⟩, fun _ hp => (nomatch hp), fun _ ha => (nomatch ha)⟩
  | env :: fs, ⟨_, ⟨L, o, hf, hn, ho, hd⟩, hr⟩ => by
    obtain ⟨fr, ⟨e1, e2⟩, e3, e4⟩ := frL_start hr
    have hfad : fad (env :: fs) = L :: fad fs := by simp [fad, hf]
    refine ⟨(L, o) :: fr, ⟨by rw [hfad, List.map_cons, e1], fun p hp => ?_⟩, fun p hp => ?_, fun a ha => ?_⟩
    · rcases List.mem_cons.mp hp with rfl | hp
      · exact ⟨o, o.slots, ho, rfl, hd⟩
      · exact e2 p hp
    · rcases List.mem_cons.mp hp with rfl | hp
      · exact ho
      · exact e3 p hp
    · rw [hfad] at ha
      rcases List.mem_cons.mp ha with rfl | ha
      · exact hn
      · exact e4 a ha
theorem funFrames_frL {s₀ h b₀ : Heap} : ∀ {fs : List Env} {fr : List (Addr × Obj)}, s₀.FunFrames b₀ fs → (∀ p ∈ fr, h.get? p.1 = some p.2) → (∀ a ∈ fad fs, a ∈ fr.map (·.1)) → (∀ p ∈ fr, ∃ o sl, s₀.get? p.1 = some o ∧ p.2 = { o with slots := sl } ∧ ∀ vs, o.data ≠ .fields vs) → h.FunFrames b₀ fs
  | [], _, _, _, _, _ => trivial
  | env :: fs, fr, ⟨hk, ⟨L, o, hf, hn, ho, hd⟩, hr⟩, h1, h2, h3 => by
    have hfad : fad (env :: fs) = L :: fad fs := by simp [fad, hf]
    rw [hfad] at h2
    obtain ⟨p, hp, hpe⟩ := List.mem_map.mp (h2 L List.mem_cons_self)
    obtain ⟨o', sl, g1, g2, g3⟩ := h3 p hp
    refine ⟨hk, ⟨L, p.2, hf, hn, hpe ▸ h1 p hp, ?_⟩, funFrames_frL hr h1 (fun a ha => h2 a (List.mem_cons_of_mem _ ha)) h3⟩
    rw [g2]; exact g3
section
variable {w : World} {mean : ExcName → Option Value} {mg mb : Str → Option Value} {b₀ g s₀ h h' : Heap} {fs : List Env} {L : Addr} {m : Str → Option Value} {fr made : List (Addr × Obj)} {ex : List Addr}
/-- the context at a call out of a frame -/
theorem cx_of {env : Env} (C : Cx w mean mg mb b₀ fs s₀) (st : ∀ b o, b₀.get? b = some o → g.get? b = some o) (F : Fr g L h m) (N : News g L h fr) (K : FrL (fad fs) s₀ fr) (hf : env.frame = some L) (hk : env.scope.kind ≠ .module) : Cx w mean mg mb b₀ (env :: fs) h := by
  refine ⟨C.X, C.T, fun b o e => F.keep b o (st b o e), hk, ⟨L, ?_⟩, ?_⟩
  · obtain ⟨oL, es, ep, hL, hLd, _⟩ := F.ns
    refine ⟨oL, hf, ?_, hL, fun vs e => ?_⟩
    · cases q : b₀.get? L with
      | none => rfl
      | some o => exact absurd (Nat.lt_of_lt_of_le (Heap.lt_size (st L o q)) F.above) (Nat.lt_irrefl _)
    · rw [hLd] at e; cases e
  · exact funFrames_frL C.ff (fun p hp => (N p hp).1) (fun a ha => by rw [K.1]; exact ha) K.2
/-- what a frame keeps when a call comes back -/
theorem after (F : Fr g L h m) (N : News g L h (made ++ fr)) (K : FrL (fad fs) s₀ fr) (U : Up ex (L :: fad fs) h h') (ap : ∀ p ∈ made, p.1 ∉ ex ∧ p.1 ∉ fad fs) (exg : ∀ a ∈ ex, g.get? a = none) (exL : L ∉ ex) :
    ∃ fr', FrL (fad fs) s₀ fr' ∧ Fr g L h' m ∧ News g L h' (made ++ fr') := by
  have gL : g.get? L = none := by
    cases q : g.get? L with
    | none => rfl
    | some o => exact absurd (Nat.lt_of_lt_of_le (Heap.lt_size q) F.above) (Nat.lt_irrefl _)
  have gf : ∀ a ∈ fad fs, g.get? a = none := fun a ha => by
    rw [← K.1] at ha
    obtain ⟨p, hp, rfl⟩ := List.mem_map.mp ha
    exact (N p (List.mem_append_right _ hp)).2.2
  have one : ∀ p ∈ fr, ∃ sl, h'.get? p.1 = some { p.2 with slots := sl } := fun p hp => U.slot p.1 p.2 (N p (List.mem_append_right _ hp)).1 (List.mem_cons_of_mem _ (K.1 ▸ List.mem_map_of_mem hp))
  refine ⟨fr.map fun p => (p.1, (h'.get? p.1).getD p.2), ⟨?_, fun q hq => ?_⟩, ⟨?_, fun b o e => ?_, F.above⟩, fun q hq => ?_⟩
  · rw [List.map_map]; exact K.1
  · obtain ⟨p, hp, rfl⟩ := List.mem_map.mp hq
    obtain ⟨o, sl, g1, g2, g3⟩ := K.2 p hp
    obtain ⟨sl', e⟩ := one p hp
    refine ⟨o, sl', g1, ?_, g3⟩
    show (h'.get? p.1).getD p.2 = _
    rw [e, g2]; rfl
  · obtain ⟨oL, es, ep, hL, hLd, hLk, hLf⟩ := F.ns
    obtain ⟨sl, e⟩ := U.slot L oL hL List.mem_cons_self
    exact ⟨_, es, ep, e, hLd, hLk, hLf⟩
  · refine U.keep b o (F.keep b o e) (fun q => ?_) fun q => ?_
    · rw [exg b q] at e; cases e
    · rcases List.mem_cons.mp q with rfl | q
      · rw [gL] at e; cases e
      · rw [gf b q] at e; cases e
  · rcases List.mem_append.mp hq with hq | hq
    · have z := N q (List.mem_append_left _ hq)
      refine ⟨U.keep _ _ z.1 (ap q hq).1 fun hm => ?_, z.2⟩
      rcases List.mem_cons.mp hm with e | hm
      · exact z.2.1 e
      · exact (ap q hq).2 hm
    · obtain ⟨p, hp, rfl⟩ := List.mem_map.mp hq
      have z := N p (List.mem_append_right _ hp)
      obtain ⟨sl', e⟩ := one p hp
      refine ⟨?_, z.2⟩
      show h'.get? p.1 = some ((h'.get? p.1).getD p.2)
      rw [e]; rfl
/-- what the whole call has kept, told at its end -/
theorem up_of (gk : ∀ b o, s₀.get? b = some o → b ∉ ex → b ∉ fad fs → g.get? b = some o) (F : Fr g L h m) (N : News g L h fr) (K : FrL (fad fs) s₀ fr) : Up ex (fad fs) s₀ h := by
  refine ⟨fun b o e n1 n2 => F.keep b o (gk b o e n1 n2), fun b o e hm => ?_⟩
  rw [← K.1] at hm
  obtain ⟨p, hp, rfl⟩ := List.mem_map.mp hm
  obtain ⟨o', sl, g1, g2, _⟩ := K.2 p hp
  rw [e] at g1; cases g1
  exact ⟨sl, g2 ▸ (N p hp).1⟩
end
section
variable {w : World} {mean : ExcName → Option Value} {mg mb : Str → Option Value} {b₀ : Heap} {fs : List Env} {prog : Program} {A : Around} {s : Shared}
  {R : Result → Shared → Prop} {name qual : Str} {params : Arguments} {body : List Stmt} {scope : Scope} {dV kV doc pm cdv ct oc : Value} {an od : Option Addr} {osl : Array (Option Value)} {f : Addr} {args : Args} {binds : List (Str × Value)} {hid : List (Addr × Obj)}
/-- into a def, on a ground that hides the frames below (and what the call may change) -/
theorem enter0 (C : Cx w mean mg mb b₀ fs s.heap) (hh : ∀ p ∈ hid, s.heap.get? p.1 = some p.2 ∧ p.1 ∉ fad fs ∧ b₀.get? p.1 = none) (hroom : A.depth < recursionLimit)
    (ho : (lawTop.heap_39 w.params).lookup f = some ⟨oc, od, .func (fnOf name qual params body scope dV kV doc pm an cdv ct), osl⟩) (hcd : codeIn (lawTop.heap_39 w.params) cdv qual = true)
    (hbind : BindsTo s (fnOf name qual params body scope dV kV doc pm an cdv ct) args binds) (hloc : ∀ y ∈ binds, scope.names.lookup y.1 = some .local)
    (h : ∀ g L h₁ fr, Fr g L h₁ (fun y => binds.reverse.lookup y) → News g L h₁ (hid ++ fr) → FrL (fad fs) s.heap fr → (∀ p ∈ hid ++ fr, p.1 < L) → (lawTop.heap_39 w.params).In g → Top PV LS mean mg mb g →
      (∀ b o, b₀.get? b = some o → g.get? b = some o) → (∀ b o, s.heap.get? b = some o → b ∉ hid.map (·.1) → b ∉ fad fs → g.get? b = some o) →
      wpAny (model prog w) (A.deeper (envOf qual scope L f cdv)) (execs body (envOf qual scope L f cdv))
        (fun fl s' => R (.ok (.ret (match fl with | .ret v => v | _ => .none))) s')
        (fun e s' => wpAny (model prog w) (A.deeper (envOf qual scope L f cdv)) (leaving (envOf qual scope L f cdv) e) (fun _ s'' => R (.error e) s'') (fun e' s'' => R (.error e') s'') s')
        { s with heap := h₁, toks := s.toks + binds.length })
    (hco : scope.isCoroutine = false) (hgen : scope.isGenerator = false) (hk : scope.kind = .function)
    (hcell : ∀ x ∈ scope.names, x.2 ≠ .cell) : codeAny (model prog w) A (.call (.ref f) args) R s := by
  have Xs : (lawTop.heap_39 w.params).In s.heap := fun a o e => C.st _ _ (C.X a o e)
  obtain ⟨fr, K, frh, nf⟩ := frL_start C.ff
  have stg : ∀ b o, b₀.get? b = some o → (hideAll s.heap (hid.map (·.1) ++ fad fs)).get? b = some o := fun b o e => hideAll_get _ (C.st b o e) fun q => by
    rcases List.mem_append.mp q with q | q
    · obtain ⟨p, hp, rfl⟩ := List.mem_map.mp q
      rw [(hh p hp).2.2] at e; cases e
    · rw [nf b q] at e; cases e
  refine codeAny_call_def (fd := fnX name qual params body scope [] dV kV doc pm an cdv ct) (body := body) (binds := binds) hroom (Xs _ _ ho) rfl (C.T.nolimit.keeps C.st) (codeRec_of Xs hcd) rfl hbind hcell hloc (fun h₁ hns hk₁ => ?_) hco hgen hk
  refine h (hideAll s.heap (hid.map (·.1) ++ fad fs)) s.heap.objs.size h₁ fr ⟨hns, fun b o e => hk₁ b o (of_hideAll _ e), Nat.le_of_eq (hideAll_size _ _)⟩ (fun p hp => ?_) K (fun p hp => ?_) (fun a o e => stg _ _ (C.X a o e)) (C.T.keeps stg) stg fun b o e n1 n2 => hideAll_get _ e fun q => (List.mem_append.mp q).elim n1 n2
  · rcases List.mem_append.mp hp with hp | hp
    · exact ⟨hk₁ _ _ (hh p hp).1, Nat.ne_of_lt (Heap.lt_size (hh p hp).1), hideAll_none _ (List.mem_append_left _ (List.mem_map_of_mem hp))⟩
    · exact ⟨hk₁ _ _ (frh p hp), Nat.ne_of_lt (Heap.lt_size (frh p hp)), hideAll_none _ (List.mem_append_right _ (K.1 ▸ List.mem_map_of_mem hp))⟩
  · rcases List.mem_append.mp hp with hp | hp
    · exact Heap.lt_size (hh p hp).1
    · exact Heap.lt_size (frh p hp)
/-- the same for a def whose locals are captured -/
theorem enterC (C : Cx w mean mg mb b₀ fs s.heap) (hroom : A.depth < recursionLimit)
    (ho : (lawTop.heap_39 w.params).lookup f = some ⟨oc, od, .func (fnOf name qual params body scope dV kV doc pm an cdv ct), osl⟩) (hcd : codeIn (lawTop.heap_39 w.params) cdv qual = true)
    (hbind : BindsTo s (fnOf name qual params body scope dV kV doc pm an cdv ct) args binds)
    (hkind : (binds.all fun y => scope.names.lookup y.1 == some .local || scope.names.lookup y.1 == some .cell) = true)
    (hnd : ((cellsFrom 0 scope.names []).map (·.1)).Nodup)
    (h : ∀ g L h₁ tk fr cells, Fr g L h₁ (bindL (envOfC qual scope L f cdv).kindOf binds fun _ => none) → News g L h₁ (cells ++ fr) → CellsAre (bindC (envOfC qual scope L f cdv).kindOf binds fun _ => none) (cellsFrom (L + 1) scope.names []) cells → FrL (fad fs) s.heap fr → (∀ p ∈ fr, p.1 < L) → (lawTop.heap_39 w.params).In g → Top PV LS mean mg mb g →
      (∀ b o, b₀.get? b = some o → g.get? b = some o) → (∀ b o, s.heap.get? b = some o → b ∉ fad fs → g.get? b = some o) →
      wpAny (model prog w) (A.deeper (envOfC qual scope L f cdv)) (execs body (envOfC qual scope L f cdv))
        (fun fl s' => R (.ok (.ret (match fl with | .ret v => v | _ => .none))) s')
        (fun e s' => wpAny (model prog w) (A.deeper (envOfC qual scope L f cdv)) (leaving (envOfC qual scope L f cdv) e) (fun _ s'' => R (.error e) s'') (fun e' s'' => R (.error e') s'') s')
        { s with heap := h₁, toks := tk })
    (hco : scope.isCoroutine = false) (hgen : scope.isGenerator = false) (hk : scope.kind = .function) : codeAny (model prog w) A (.call (.ref f) args) R s := by
  have Xs : (lawTop.heap_39 w.params).In s.heap := fun a o e => C.st _ _ (C.X a o e)
  obtain ⟨fr, K, frh, nf⟩ := frL_start C.ff
  have stg : ∀ b o, b₀.get? b = some o → (hideAll s.heap (fad fs)).get? b = some o := fun b o e => hideAll_get _ (C.st b o e) fun q => by
    rw [nf b q] at e; cases e
  refine codeAny_call_function hroom (Xs _ _ ho) rfl hco hgen rfl (codeRec_of Xs hcd) (hbind _ _ _ _ ?_)
  refine wpAny_newFunctionEnv_cells hk (kindsX hkind _) fun env' he s' x => ?_
  subst he
  refine ⟨(C.T.nolimit.keeps C.st).keeps x.toInCall.keep, codeAny_func ?_⟩
  obtain ⟨h₁, tk, rfl, _⟩ := x.done
  have hk₁ := x.toInCall.keep
  obtain ⟨cells, NC, Y⟩ := Cl.news (h₀ := s.heap) (Nat.le_refl _) fun n c hm => ⟨x.cell n c (lookup_of_mem_nodup (cellsFrom_names scope.names 0 (s.heap.objs.size + 1) [] [] rfl ▸ hnd) hm), x.above n c hm⟩
  refine h (hideAll s.heap (fad fs)) s.heap.objs.size h₁ tk fr cells ⟨x.toInCall.ns, fun b o e => hk₁ b o (of_hideAll _ e), Nat.le_of_eq (hideAll_size _ _)⟩ (fun p hp => ?_) Y K (fun p hp => Heap.lt_size (frh p hp)) (fun a o e => stg _ _ (C.X a o e)) (C.T.keeps stg) stg fun b o e n2 => hideAll_get _ e n2
  rcases List.mem_append.mp hp with hp | hp
  · refine ⟨(NC p hp).1, (NC p hp).2.1, ?_⟩
    cases q : (hideAll s.heap (fad fs)).get? p.1 with
    | none => rfl
    | some o => have := of_hideAll _ q; rw [(NC p hp).2.2] at this; cases this
  · exact ⟨hk₁ _ _ (frh p hp), Nat.ne_of_lt (Heap.lt_size (frh p hp)), hideAll_none _ (K.1 ▸ List.mem_map_of_mem hp)⟩
end
end Mine
end
section
open PySem PySem.W PyProof.Rows PySem.Spec PySem.Calls
namespace Mine
abbrev bit (c k : Int) : Prop := Int.fmod (Int.fdiv c (2 ^ k.toNat)) 2 = 1
def points (c : Int) : List Int := (rangeKs 0 4).foldl (fun l k => if bit c k then l ++ [k] else l) []
theorem fresh_of {g s₀ : Heap} {as : List Addr} {r : Addr} (gk : ∀ b o, s₀.get? b = some o → b ∉ as → g.get? b = some o) (hg : g.get? r = none) (hr : r ∉ as) : s₀.get? r = none := by
  cases q : s₀.get? r with
  | none => rfl
  | some o => have := gk r o q hr; rw [hg] at this; cases this
theorem notIn_fr {fr : List (Addr × Obj)} {as : List Addr} {r : Addr} (e : fr.map (·.1) = as) (h : ∀ p ∈ fr, p.1 ≠ r) : r ∉ as := by
  rw [← e]; intro q
  obtain ⟨p, hp, e⟩ := List.mem_map.mp q
  exact h p hp e
set_option maxRecDepth 100000 in
set_option maxHeartbeats 8000000 in
theorem lp_spec {w : World} {mean : ExcName → Option Value} {mg mb : Str → Option Value} {dp un : Nat} {gd : Option (List Code)} {fs : List Env} {b₀ : Heap} {s : Shared} {Q E : Value → Shared → Prop} {c : Int} {t : Tok}
    (hc0 : 0 ≤ c) (hc1 : c < 16) (C : Cx w mean mg mb b₀ fs s.heap) (hd : dp + 4 < recursionLimit) (_hu : un + 64 < cLine)
    (ret : ∀ r vs h' tk', Up [] (fad fs) s.heap h' → s.heap.get? r = none → h'.get? r = some (LCg.lst vs) → IntsAre vs (points c) → Q (.ref r) { s with heap := h', toks := tk' }) :
    wpAny (model PR w) (aTop dp un gd fs) (call (.ref 63) [.int c t]) Q E s := by
  have hT : (lawTop.heap_39 w.params).In b₀ ∧ PR = PySem.Challenge.rw_ik0010_01.row.prog := ⟨C.X, rfl⟩
  revert hT
  w_top off
  k_fill
  intro hT
  clear hT
  k_dflt (refine wpAny_call ?_)
  k_dflt (refine' enterC C ?k8 ?k6 ?k7 ?k9 ?kB ?kD ?_ ?c2 ?c3 ?c4; (case k6 => k_is); (case k7 => k_is); (case k8 => ktr_room); (case k9 => exact BindsTo.of_eq (binds := [(Str.ofString "code", Value.int c t)]) rfl); (case kB => exact rfl); (case kD => decide +kernel); (case c2 => exact rfl); (case c3 => exact rfl); (case c4 => exact rfl))
  intro g1 L1 h1 tk1 fr1 cells F1 N1 Y1 K1 lt1 X1 T1 st1 gk1
  have hY := CellsAre.one Y1
  obtain ⟨o1, hE, d1⟩ := hY
  subst hE
  clear Y1
  simp only [List.cons_append, List.nil_append] at N1
  replace F1 : Fr g1 L1 h1 (fun _ => none) := F1
  replace d1 : o1.data = .cell (some (.int c t)) := d1
  dsimp only
  walk1
  walk1
  k_dflt (refine LCt.ListComp_T (F₀ := by k_asm) (by with_unfolding_all rfl) (by decide) (by rfl) (by decide) (by rfl) ?_)
  k_steps
  k_dflt (refine LCt.CompSrcT.range (by rfl) (by k_asm) (by k_asm) (by assumption) (by decide) (by rfl) (by exact Nat.le_of_ble_eq_true rfl) ?_)
  intro g2
  k_dflt (refine kci_range (fun l k => if bit c k then l ++ [k] else l) (fun k' t' I' oI' C' oC' D' m' ys' l' h' tk' E' hlo' hhi' hI' hC' hx' F' N' off' ne' hMark' => ?_) ?_ ?_)
  · k_steps
    · refine LCg.CompEnd.intro (by assumption) (by assumption) _ (fun _ h => h) (by assumption) trivial ?_
      exact ⟨rfl, k', t', rfl, if_pos (by assumption)⟩
    · refine LCg.CompEnd.intro (by assumption) (by assumption) _ (fun _ h => h) (by assumption) trivial ?_
      exact ⟨rfl, if_neg (by assumption)⟩
  · unfold KPfDone
    intro ys hys hlen
    unfold LCg.FinE
    intro D hh tkk FF NN off
    have nD := NN _ List.mem_cons_self
    have nf : D ∉ fad fs := notIn_fr K1.1 (off1_mem off.2)
    exact ret D ys _ _ (up_of (fun b o e _ n2 => gk1 b o e n2) FF (fun p hp => NN p (List.mem_cons_of_mem _ (List.mem_cons_of_mem _ hp))) K1) (fresh_of gk1 nD.2.2 nf) nD.1 hys
  · intro l k
    dsimp only
    split
    · rw [List.length_append]; exact Nat.le_refl _
    · exact Nat.le_succ _
end Mine
end
section
open PySem PySem.W PyProof.Rows PySem.Spec PySem.Calls
set_option maxRecDepth 100000
namespace Mine
theorem lk_contains : typeLookup (.type "list") "__contains__" = pure (some (.builtin "list.__contains__")) := F.slot_list_contains.lookup
theorem ty_contains : typeOf (.builtin "list.__contains__") = pure (.type "wrapper_descriptor") := by show builtinType _ = _; rw [builtinType_eq_fast]; kernel_rfl
theorem slot_wd_get : Slot "wrapper_descriptor" "__get__" "wrapper_descriptor.__get__" :=
  .of (owner := "wrapper_descriptor") (n := "__get__") (by rw [typeLookup_type, builtinLookup_eq_fast]; kernel_rfl) (by decide +kernel) (by decide +kernel) (by decide +kernel)
    (by first | exact .inl (by decide +kernel) | exact .inr (by decide +kernel)) (by rw [isSubtype_type]; kernel_rfl)
theorem entry_wd_get : entryFor table "wrapper_descriptor.__get__" = some Builtin.«wrapper_descriptor.__get__» := entryFor_of_tree (by kernel_rfl)
theorem args_wd_get (a b c : Value) : argsOk "wrapper_descriptor.__get__" ⟨[a, b, c], []⟩ := by unfold argsOk; kernel_rfl
theorem lk_wd_set : typeLookup (.type "wrapper_descriptor") "__set__" = pure none := by rw [typeLookup_type, builtinLookup_eq_fast]; kernel_rfl
theorem lk_wd_del : typeLookup (.type "wrapper_descriptor") "__delete__" = pure none := by rw [typeLookup_type, builtinLookup_eq_fast]; kernel_rfl
abbrev mw (l : Addr) : Obj := { cls := .type "method-wrapper", data := .fields #[.builtin "list.__contains__", .ref l] }
theorem owner_lc : (".".intercalate ("list.__contains__".cutAt '.').dropLast) = "list" := by
  have e0 : "list.__contains__".cutAt '.' = ["list", "__contains__"] := by first | rfl | decide +kernel
  rw [e0]; decide +kernel
theorem sub_lc_owner : isSubtype (.type "list") (.type (".".intercalate ("list.__contains__".cutAt '.').dropLast)) = pure true := by
  rw [owner_lc, isSubtype_type]; kernel_rfl
theorem wd_get {prog : Program} {w : World} {A : Around} {h : Heap} {g : Array GenState} {d : Drawn} {t : Nat} {os : OsState} {a : Addr} {o : Obj} {R : Result → Shared → Prop}
    (hx : h.get? a = some o) (hc : o.cls = .type "list")
    (hq : R (.ok (.ret (.ref h.objs.size))) ⟨h.push (mw a), g, d, t, os⟩) :
    codeAny (model prog w) A (.call (.builtin "wrapper_descriptor.__get__") ⟨[.builtin "list.__contains__", .ref a, .type "list"], []⟩) R ⟨h, g, d, t, os⟩ := by
  have hT : (⟨h, g, d, t, os⟩ : Shared).TypeIs (.ref a) "list" := ⟨_, hx, hc⟩
  have hT5 : (⟨h, g, d, t, os⟩ : Shared).TypeIs (.builtin "list.__contains__") "wrapper_descriptor" := ty_contains
  have f8 := sub_lc_owner
  refine codeAny_call_builtin slot_wd_get.plain entry_wd_get (slot_wd_get.check _ _ _ _ _ _ _ _ hT5 (args_wd_get _ _ _) ?_)
  repeat (any_goals (first | assumption | wp_step))
theorem ga_entry {prog : Program} {w : World} {A : Around} {h : Heap} {g : Array GenState} {d : Drawn} {t : Nat} {os : OsState} {a : Addr} {xs : Array Value} {k : Nat} {sl : Array (Option Value)} {E : Value → Shared → Prop} {tk : Tok} {Q : Fin → Shared → Prop}
    (hx : h.get? a = some { cls := .type "list", data := .seq xs k, slots := sl })
    (hq : Q (.done (.ret (.ref h.objs.size))) ⟨h.push (mw a), g, d, t, os⟩) :
    wpAny (model prog w) A (Builtin.«object.__getattribute__» ⟨[.ref a, .str "__contains__" tk], []⟩) Q E ⟨h, g, d, t, os⟩ := by
  have hT : (⟨h, g, d, t, os⟩ : Shared).TypeIs (.ref a) "list" := ⟨_, hx, rfl⟩
  have f6 := lk_contains
  have f7 := ty_contains
  have f8 := slot_wd_get.lookup
  have f9 := lk_wd_set
  have f10 := lk_wd_del
  repeat (any_goals (first | assumption | wp_step))
  refine wd_get hx rfl ?_
  repeat (any_goals (first | assumption | wp_step))
theorem ga_call {prog : Program} {w : World} {A : Around} {h : Heap} {g : Array GenState} {d : Drawn} {t : Nat} {os : OsState} {a : Addr} {xs : Array Value} {k : Nat} {sl : Array (Option Value)} {tk : Tok} {R : Result → Shared → Prop}
    (hx : h.get? a = some { cls := .type "list", data := .seq xs k, slots := sl })
    (hq : R (.ok (.ret (.ref h.objs.size))) ⟨h.push (mw a), g, d, t, os⟩) :
    codeAny (model prog w) A (.call (.builtin "list.__getattribute__") ⟨[.ref a, .str "__contains__" tk], []⟩) R ⟨h, g, d, t, os⟩ :=
  codeAny_call_builtin F.slot_list_getattribute.plain F.entry_list_ga (F.slot_list_getattribute.check _ _ _ _ _ _ _ _ (show (⟨h, g, d, t, os⟩ : Shared).TypeIs (.ref a) "list" from ⟨_, hx, rfl⟩) (F.args_list_getattribute_2 _ _) (ga_entry hx hq))
theorem ga_contains {prog : Program} {w : World} {A : Around} {E : Value → Shared → Prop} {s : Shared} {a : Addr} {xs : Array Value} {k : Nat} {sl : Array (Option Value)} {Q : Value → Shared → Prop}
    (hx : s.heap.get? a = some { cls := .type "list", data := .seq xs k, slots := sl })
    (h : ∀ tk, Q (.ref s.heap.objs.size) { s with heap := s.heap.push (mw a), toks := tk }) :
    wpAny (model prog w) A (getAttr (.ref a) "__contains__" true) Q E s := by
  obtain ⟨hp, g, d, tk, os⟩ := s
  have hT : ∀ tk', (⟨hp, g, d, tk', os⟩ : Shared).TypeIs (.ref a) "list" := fun _ => ⟨_, hx, rfl⟩
  have f3 := F.slot_list_getattribute.lookup
  have f4 := F.slot_list_getattribute.bind (.ref a)
  have f5 := am_list_getattr_none
  unfold getAttr getAttrBy
  repeat (any_goals (first | assumption | exact hT _ | wp_step))
  refine ga_call hx ?_
  repeat (any_goals (first | assumption | exact h _ | wp_step))
end Mine
end
section
open PySem PySem.W PyProof.Rows PySem.Spec PySem.Calls
set_option maxRecDepth 100000
namespace Mine
abbrev itr (l : Addr) (i : Nat) : Obj := { cls := .type "list_iterator", data := .fields #[.ref l, .int i 0] }
section
variable {prog : Program} {w : World} {A : Around} {E : Value → Shared → Prop} {s : Shared} {h₀ : Heap} {L a l I q : Addr} {m : Str → Option Value} {news : List (Addr × Obj)} {vs ws : List Value} {i n : Nat} {Q : Value → Shared → Prop}
theorem ga_contains_N (F : Fr h₀ L s.heap m) (N : News h₀ L s.heap news) (hl : s.heap.get? a = some (lo vs n))
    (h : ∀ q h' tk, Fr h₀ L h' m → News h₀ L h' ((q, mw a) :: news) → (∀ p ∈ news, p.1 < q) → Q (.ref q) { s with heap := h', toks := tk }) :
    wpAny (model prog w) A (getAttr (.ref a) "__contains__" true) Q E s :=
  ga_contains hl fun tk => h _ _ _ (F.push _) (N.push F _) fun p hp => Heap.lt_size (N p hp).1
theorem isList_lo {h : Heap} (e : h.get? l = some (lo vs n)) : h.IsList l vs.toArray := ⟨_, e, rfl, n, rfl⟩
theorem iter_N (F : Fr h₀ L s.heap m) (N : News h₀ L s.heap news) (hl : s.heap.get? l = some (lo vs n))
    (h : ∀ I h', Fr h₀ L h' m → News h₀ L h' ((I, itr l 0) :: news) → (∀ p ∈ news, p.1 < I) → Q (.ref I) { s with heap := h' }) :
    wpAny (model prog w) A (call (.builtin "iter") [.ref l]) Q E s := by
  refine call_function_entry (by decide +kernel) (by decide +kernel) kdk_entry_iter (kdk_args_iter _) ?_
  unfold Builtin.«iter»
  refine wpAny_bind (m := someArgs "iter" 1 2 _) (wpAny_of_eq (a := [Value.ref l]) (by first | rfl | kernel_rfl!) ?_)
  show wpAny _ _ (pyIter (.ref l) >>= _) _ _ _
  refine wpAny_bind (wpAny_pyIter_list (isList_lo hl) ?_)
  exact wpAny_pure ⟨_, rfl, h _ _ (F.push _) (N.push F _ rfl) (fun p hp => Heap.lt_size (N p hp).1)⟩
theorem news_setHead {h h' : Heap} {o : Obj} {rest : List (Addr × Obj)} {oI : Obj} (N : News h₀ L h ((I, oI) :: rest)) (hr : ∀ p ∈ rest, p.1 ≠ I) (hs : Heap.SameBut I h h') (e : h'.get? I = some o) : News h₀ L h' ((I, o) :: rest) := fun p hp => by
  rcases List.mem_cons.mp hp with rfl | hp
  · exact ⟨e, (N (I, oI) List.mem_cons_self).2⟩
  · have z := N p (List.mem_cons_of_mem _ hp)
    exact ⟨(hs.2 p.1 (hr p hp)).trans z.1, z.2⟩
theorem next_special {rest : List (Addr × Obj)} {x : Value} {Q : Option Value → Shared → Prop} (F : Fr h₀ L s.heap m) (N : News h₀ L s.heap ((I, itr l i) :: rest)) (hr : ∀ p ∈ rest, p.1 ≠ I) (hol : s.heap.get? l = some (lo vs n)) (hx : vs[i]? = some x)
    (h : ∀ h', Fr h₀ L h' m → News h₀ L h' ((I, itr l (i + 1)) :: rest) → Q (some x) { s with heap := h' }) :
    wpAny (model prog w) A (callSpecial? (.ref I) (Str.ofString "__next__")) Q E s := by
  have ho := (N (I, itr l i) List.mem_cons_self).1
  have hL := (N (I, itr l i) List.mem_cons_self).2
  have hit : s.heap.IsListIter I l i := ⟨_, ho, rfl, rfl⟩
  refine wpAny_callSpecial?_slot (name := Str.ofString "__next__") hit.typeIs slot_listiter_next
    (wpAny_call_entry slot_listiter_next hit.typeIs entry_listiter_next ?_ (args_listiter_next _))
  show wpAny _ _ (field (.ref I) 0 >>= _) _ _ s
  refine wpAny_bind (wpAny_field ho rfl (x := .ref l) rfl ?_)
  show wpAny _ _ (if (Value.ref l == Value.none) = true then _ else _) _ _ s
  rw [if_neg (show ¬ ((Value.ref l == Value.none) = true) from Bool.false_ne_true)]
  show wpAny _ _ (field (.ref I) 1 >>= _) _ _ s
  refine wpAny_bind (wpAny_field ho rfl (x := .int i 0) rfl ?_)
  show wpAny _ _ (seqItems? (.ref l) >>= _) _ _ s
  refine wpAny_bind (wpAny_seqItems hol rfl ?_)
  have hx' : vs.toArray[((i : Nat) : Int).toNat]? = some x := by simpa using hx
  simp only [hx']
  have hsb : Heap.SameBut I s.heap (s.heap.update I (Obj.mapFields (·.setIfInBounds 1 (rawInt ((i : Int) + 1))))) := Heap.SameBut.update ..
  refine wpAny_bind (wpAny_setField ho rfl (by simp) (wpAny_pure ⟨x, rfl, h _ (F.change hsb hL.1 hL.2) (news_setHead N hr hsb ?_)⟩))
  rw [Heap.get?_update_self _ ho rfl]
  rfl
theorem next_stop {rest : List (Addr × Obj)} {Q : Option Value → Shared → Prop} (hh : A.handled = none) (F : Fr h₀ L s.heap m) (N : News h₀ L s.heap ((I, itr l i) :: rest)) (hr : ∀ p ∈ rest, p.1 ≠ I) (hol : s.heap.get? l = some (lo vs n)) (hx : vs[i]? = none)
    (h : ∀ h₁ h' e, Fr h₀ L h₁ m → News h₀ L h₁ rest → Heap.NewExc h₁ h' e "StopIteration" → E (.ref e) { s with heap := h' }) :
    wpAny (model prog w) A (callSpecial? (.ref I) (Str.ofString "__next__")) Q E s := by
  have ho := (N (I, itr l i) List.mem_cons_self).1
  have hL := (N (I, itr l i) List.mem_cons_self).2
  have hit : s.heap.IsListIter I l i := ⟨_, ho, rfl, rfl⟩
  refine wpAny_callSpecial?_slot (name := Str.ofString "__next__") hit.typeIs slot_listiter_next
    (wpAny_call_entry slot_listiter_next hit.typeIs entry_listiter_next ?_ (args_listiter_next _))
  show wpAny _ _ (field (.ref I) 0 >>= _) _ _ s
  refine wpAny_bind (wpAny_field ho rfl (x := .ref l) rfl ?_)
  show wpAny _ _ (if (Value.ref l == Value.none) = true then _ else _) _ _ s
  rw [if_neg (show ¬ ((Value.ref l == Value.none) = true) from Bool.false_ne_true)]
  show wpAny _ _ (field (.ref I) 1 >>= _) _ _ s
  refine wpAny_bind (wpAny_field ho rfl (x := .int i 0) rfl ?_)
  show wpAny _ _ (seqItems? (.ref l) >>= _) _ _ s
  refine wpAny_bind (wpAny_seqItems hol rfl ?_)
  have hx' : vs.toArray[((i : Nat) : Int).toNat]? = none := by simpa using hx
  simp only [hx']
  refine wpAny_bind (wpAny_rule (wpAny_bind (wpAny_setField ho rfl (by simp) ?_)))
  generalize hH : s.heap.update I (Obj.mapFields (·.setIfInBounds 0 Value.none)) = H
  have hsb : Heap.SameBut I s.heap H := hH ▸ Heap.SameBut.update ..
  have FH : Fr h₀ L H m := F.change hsb hL.1 hL.2
  have NH : News h₀ L H rest := fun p hp => by
    have z := N p (List.mem_cons_of_mem _ hp)
    exact ⟨(hsb.2 p.1 (hr p hp)).trans z.1, z.2⟩
  show wpAny _ _ (newExc (.type "StopIteration") [] >>= _) _ _ _
  refine wpAny_bind ?_
  simp only [newExc, newTuple]
  refine wpAny_bind (wpAny_newObj_type ?_ (by size_fits))
  refine wpAny_bind (m := firstArgMember _ _) (wpAny_of_eq (a := Value.none) (by first | rfl | (simp only [firstArgMember]; rfl)) ?_)
  refine wpAny_newObj_type ?_ (by size_fits)
  simp only [raiseNew]
  refine wpAny_bind (wpAny_handled ?_)
  rw [show A.in1.handled = none from hh]
  refine wpAny_bind (wpAny_pure (wpAny_throw ?_))
  refine h H _ _ FH NH ⟨fun b o e => Heap.get?_push_of_some _ (Heap.get?_push_of_some _ e), ?_, ?_⟩
  · refine Heap.get?_none_of_le ?_
    rw [Heap.size_push]; exact Nat.le_succ _
  · exact ⟨_, _, Heap.get?_push_size _ rfl, rfl, rfl⟩
theorem next_open {Q : Value → Shared → Prop} {I : Addr} (hT : s.TypeIs (.ref I) "list_iterator") (h : wpAny (model prog w) A.in1 (callSpecial? (.ref I) (Str.ofString "__next__")) (fun r s' => ∃ v, r = some v ∧ Q v s') E s) :
    wpAny (model prog w) A (call (.builtin "next") [.ref I]) Q E s := by
  refine call_function_entry (by decide +kernel) (by decide +kernel) kdk_entry_next (kdk_args_next _) ?_
  unfold Builtin.«next»
  refine wpAny_bind (m := someArgs "next" 1 2 _) (wpAny_of_eq (a := [Value.ref I]) (by first | rfl | kernel_rfl!) ?_)
  dsimp only
  refine wpAny_bind (wpAny_specialOf (name := Str.ofString "__next__") hT slot_listiter_next.lookup ?_)
  refine wpAny_ite_split (fun hab => absurd hab (by decide)) (fun _ => ?_)
  refine wpAny_bind (wpAny_mono h (fun r s' hr => ?_) fun _ _ e => e)
  obtain ⟨v, rfl, hv⟩ := hr
  exact wpAny_pure ⟨_, rfl, hv⟩
def ieq (x : Int) : Value → Bool
  | .int a _ => a == x
  | _ => false
theorem ieq_gives {ws : List Value} {ys : List Int} (hi : IntsAre ws ys) (x : Int) (t : Tok) : ∀ y, y ∈ ws.toArray → MeetsSeq.EqGives y (.int x t) (ieq x y) := by
  intro y hy
  have hy' : y ∈ ws := by simpa using hy
  clear hy
  induction hi with
  | nil => cases hy'
  | cons a u h ih =>
    rcases List.mem_cons.mp hy' with rfl | h'
    · exact MeetsSeq.EqGives.int a x u t
    · exact ih h'
theorem ieq_any {ws : List Value} {ys : List Int} (hi : IntsAre ws ys) (x : Int) : ws.toArray.any (ieq x) = ys.contains x := by
  rw [List.any_toArray]
  induction hi with
  | nil => rfl
  | cons a u h ih =>
    rw [List.any_cons, ih, List.contains_cons]
    show ((a == x) || _) = ((x == a) || _)
    rw [Bool.beq_comm]
theorem checkBound_lc (l : Addr) (x : Value) : checkBoundCall "list.__contains__" ⟨[.ref l, x], []⟩ = pure () := by kernel_rfl
theorem mw_call {ys : List Int} {x : Int} {t : Tok} (hqo : s.heap.get? q = some (mw l)) (hlo : s.heap.get? l = some (lo ws n)) (hi : IntsAre ws ys) (h : Q (.bool (ys.contains x)) s) :
    wpAny (model prog w) A (call (.ref q) [.int x t]) Q E s := by
  obtain ⟨hh, g, dr, tk, os⟩ := s
  refine wpAny_call (codeAny_of_tree ?_)
  show wpAny _ _ (callAny (.ref q) _) _ _ _
  dsimp only at hqo hlo
  refine nd_load hqo ?_
  show wpAny _ _ (checkBoundCall "list.__contains__" ⟨[.ref l, .int x t], []⟩ >>= fun _ => again (.builtin "list.__contains__" ⟨[.ref l, .int x t], []⟩) >>= fun r => pure r) _ _ _
  refine wpAny_bind (wpAny_of_eq (checkBound_lc l _) ?_)
  refine wpAny_pure ⟨plainId_quiet F.slot_list_contains.plain _, codeAny_builtin F.entry_list_contains ?_⟩
  rw [Around.under_plainId F.slot_list_contains.plain _]
  refine SeqInW.list_containsW l ws.toArray n none #[] (.int x t) (ieq x) (ieq_gives hi x t) prog w _ _ _ ⟨hlo, ?_⟩
  rw [ieq_any hi x]
  exact h
end
end Mine
end
section
open PySem PySem.W PyProof.Rows PySem.Spec PySem.Calls
set_option maxRecDepth 100000
namespace Mine
theorem leave_up {M : Model} {A : Around} {E : Value → Shared → Prop} {s' : Shared} {b₀ h₁ : Heap} {env : Env} {fs : List Env} {L e : Addr} {cls : String} {Q : Unit → Shared → Prop}
    (hA : A.frames = some (env :: fs)) (hf : env.frame = some L) (ff : h₁.FunFrames b₀ (env :: fs)) (hx : Heap.NewExc h₁ s'.heap e cls)
    (hQ : ∀ h', Up [] (L :: fad fs) h₁ h' → (∃ ob, h'.get? e = some ob ∧ ob.cls = .type cls) → Q () { s' with heap := h' }) :
    wpAny M A (leaving env (.ref e)) Q E s' := by
  have hfad : fad (env :: fs) = L :: fad fs := by simp [fad, hf]
  have hin : ∀ env' ∈ (env :: fs), ∀ b, env'.frame = some b → b ∈ fad (env :: fs) := fun env' he b hb => List.mem_filterMap.mpr ⟨env', he, hb⟩
  have ff' := (funFrames_hide ff hin).of_keeps (h' := s'.heap) fun b o hb _ => ⟨o, hx.keeps b o hb, rfl⟩
  obtain ⟨ob, tp, he, hcls, hd⟩ := hx.there
  have hen : (hideAll h₁ (fad (env :: fs))).get? e = none := by
    cases q : (hideAll h₁ (fad (env :: fs))).get? e with
    | none => rfl
    | some o => have := of_hideAll _ q; rw [hx.new] at this; cases this
  refine wpAny_leaving_firstW (a0 := tp) hA ff' hf he (fun b o hb => hx.keeps b o (of_hideAll _ hb)) hen hd rfl rfl fun h' hL => ?_
  obtain ⟨k1, _, k3, k4⟩ := hL
  refine hQ h' ⟨fun b o e' _ n => k1 b o (hideAll_get _ e' (hfad ▸ n)), fun b o e' hm => ?_⟩ ?_
  · rw [← hfad] at hm
    obtain ⟨_, o', ho', hnf⟩ := ff.mem hm
    rw [e'] at ho'; cases ho'
    exact k4 b o (hx.keeps b o e') hnf
  · obtain ⟨oe, vs, T, oT, ts, he', ⟨hc', _⟩, _⟩ := k3
    exact ⟨oe, he', hc'.trans hcls⟩
abbrev fobj (q I dx : Addr) : Obj := { cls := .ref 47, dict := some dx, data := .plain, slots := #[some (.ref q), some (.ref I)] }
end Mine
namespace Mine
section
variable {M : Model} {A : Around} {E : Value → Shared → Prop} {s : Shared} {env : Env} {pos : Pos} {first : List Value} {Q : Value → Shared → Prop}
theorem callWith_mw {q l : Addr} {e : Expr} {rest : List Expr} (h : wpAny M A (spliced (backTo pos (starEach (e :: rest) env))) (fun vs s₁ => s₁.heap.get? q = some (mw l) ∧ wpAny M A (call (.ref q) (first ++ vs)) Q E s₁) E s)
    (he : starEach (e :: rest) env = (false, eval e env) :: starEach rest env := by rfl) (hplain : (backTo pos (starEach rest env)).any (·.1) = false := by rfl) :
    wpAny M A (callWith pos (.ref q) first (backTo pos (starEach (e :: rest) env)) []) Q E s := by
  rw [he] at h ⊢
  refine callWith_of (P := fun h => h.get? q = some (mw l)) (by show ((false || (backTo pos (starEach rest env)).any (·.1)) || false) = false; rw [hplain]; rfl) (fun h X => ⟨.machine, .inr (.inl rfl), ?_⟩) (evalArgs_plain h)
  exact (Looks.ld (part := none) X).andThen .now
end
theorem get_ne {h : Heap} {a b : Addr} {o o' : Obj} (ha : h.get? a = some o) (hb : h.get? b = some o') (hne : o.cls ≠ o'.cls) : a ≠ b := fun e => by
  subst e
  rw [ha] at hb
  cases hb
  exact hne rfl
end Mine
namespace Mine
theorem c_it_x : Value.type "list_iterator" ≠ Value.ref 47 := by decide
theorem c_it_d : Value.type "list_iterator" ≠ Value.type "dict" := by decide
theorem c_mw_it : Value.type "method-wrapper" ≠ Value.type "list_iterator" := by decide
theorem c_mw_x : Value.type "method-wrapper" ≠ Value.ref 47 := by decide
theorem c_mw_d : Value.type "method-wrapper" ≠ Value.type "dict" := by decide
theorem c_l_it : Value.type "list" ≠ Value.type "list_iterator" := by decide
theorem c_l_x : Value.type "list" ≠ Value.ref 47 := by decide
theorem c_l_d : Value.type "list" ≠ Value.type "dict" := by decide
theorem fr_ne {as : List Addr} {h : Heap} {fr : List (Addr × Obj)} {x : Addr} (K : FrL as h fr) (hx : x ∉ as) : ∀ p ∈ fr, p.1 ≠ x := fun p hp e => hx (by
  have := List.mem_map_of_mem (f := fun p : Addr × Obj => p.1) hp
  rw [K.1] at this
  exact e ▸ this)
end Mine
end
section
open PySem PySem.W PyProof.Rows PySem.Spec PySem.Calls
set_option maxRecDepth 100000
namespace Mine
def nxM (q x : Addr) (u : Str → Option Value) : Str → Option Value := fun y => if y = Str.ofString "item" then u y else if y = Str.ofString "func" then some (Value.ref q) else if y = Str.ofString "self" then some (.ref x) else none
def nxJ (q I x dx l1 : Addr) (fr : List (Addr × Obj)) (xs ys : List Int) (i : Nat) (k : Nat) (m : Str → Option Value) (nw : List (Addr × Obj)) : Prop :=
  ∃ (i' : Nat) (u : Str → Option Value), nw = (I, itr l1 i') :: (x, fobj q I dx) :: (dx, dictOf [] 0) :: fr ∧ k = xs.length + 1 - i' ∧ i' ≤ xs.length ∧ (xs.drop i).filter (fun v => !ys.contains v) = (xs.drop i').filter (fun v => !ys.contains v) ∧ m = nxM q x u
theorem nxM_start (q x : Addr) : (fun y => if y = Str.ofString "func" then some (Value.ref q) else List.lookup y [(Str.ofString "self", Value.ref x)].reverse) = nxM q x (fun _ => none) := by
  funext y
  unfold nxM
  by_cases h1 : y = Str.ofString "item"
  · subst h1; rfl
  · rw [if_neg h1]
    by_cases h2 : y = Str.ofString "func"
    · rw [if_pos h2, if_pos h2]
    · rw [if_neg h2, if_neg h2]
      by_cases h3 : y = Str.ofString "self"
      · subst h3; rfl
      · rw [if_neg h3]
        show List.lookup y [(Str.ofString "self", Value.ref x)] = none
        rw [List.lookup_cons, beq_false_of_ne h3]; rfl
theorem up_hid {g s₀ h : Heap} {L I x dx : Addr} {oI ox od : Obj} {m : Str → Option Value} {fr : List (Addr × Obj)} {fs : List Env} (hx : s₀.get? x = some ox) (hdx : s₀.get? dx = some od)
    (gk : ∀ b o, s₀.get? b = some o → b ∉ List.map (fun x => x.1) [(I, oI), (x, ox), (dx, od)] → b ∉ fad fs → g.get? b = some o) (F : Fr g L h m) (N : News g L h ((x, ox) :: (dx, od) :: fr)) (K : FrL (fad fs) s₀ fr) : Up [I] (fad fs) s₀ h := by
  have U := up_of gk F (fun p hp => N p (List.mem_cons_of_mem _ (List.mem_cons_of_mem _ hp))) K
  refine ⟨fun b o e n1 n2 => ?_, U.slot⟩
  by_cases h1 : b = x
  · subst h1
    rw [hx] at e; cases e
    exact (N _ List.mem_cons_self).1
  · by_cases h2 : b = dx
    · subst h2
      rw [hdx] at e; cases e
      exact (N _ (List.mem_cons_of_mem _ List.mem_cons_self)).1
    · refine U.keep b o e ?_ n2
      simp only [List.map_cons, List.map_nil, List.mem_cons, List.not_mem_nil, or_false, not_or] at n1 ⊢
      exact ⟨n1, h1, h2⟩
theorem drop_get {xs : List Int} {i : Nat} {k : Int} (h : xs[i]? = some k) : xs.drop i = k :: xs.drop (i + 1) := by
  obtain ⟨hlt, rfl⟩ := List.getElem?_eq_some_iff.mp h
  exact List.drop_eq_getElem_cons hlt
set_option maxHeartbeats 8000000 in
theorem nx_spec {w : World} {mean : ExcName → Option Value} {mg mb : Str → Option Value} {dp un : Nat} {gd : Option (List Code)} {fs : List Env} {b₀ : Heap} {s : Shared} {Q E : Value → Shared → Prop}
    {I x dx q l1 l2 : Addr} {i n1 n2 : Nat} {vs ws : List Value} {xs ys : List Int} (I1 : IntsAre vs xs) (I2 : IntsAre ws ys)
    (C : Cx w mean mg mb b₀ fs s.heap) (hd : dp + 4 < recursionLimit) (_hu : un + 64 < cLine) (hi : i ≤ xs.length)
    (hI : s.heap.get? I = some (itr l1 i)) (hx : s.heap.get? x = some (fobj q I dx)) (hdx : s.heap.get? dx = some (dictOf [] 0)) (hq : s.heap.get? q = some (mw l2)) (h1 : s.heap.get? l1 = some (lo vs n1)) (h2 : s.heap.get? l2 = some (lo ws n2))
    (nb : ∀ p ∈ [(I, itr l1 i), (x, fobj q I dx), (dx, dictOf [] 0)], p.1 ∉ fad fs ∧ b₀.get? p.1 = none) (nf : ∀ a ∈ [q, l1, l2], a ∉ fad fs)
    (item : ∀ j k t h' tk', (xs.drop i).filter (fun v => !ys.contains v) = k :: (xs.drop (j + 1)).filter (fun v => !ys.contains v) → vs[j]? = some (.int k t) → Up [I] (fad fs) s.heap h' → h'.get? I = some (itr l1 (j + 1)) → Q (.int k t) { s with heap := h', toks := tk' })
    (stop : ∀ h' tk' e, (xs.drop i).filter (fun v => !ys.contains v) = [] → Up [I] (fad fs) s.heap h' → (∃ ob, h'.get? e = some ob ∧ ob.cls = .type "StopIteration") → E (.ref e) { s with heap := h', toks := tk' }) :
    wpAny (model PR w) (aTop dp un gd fs) (call (.ref 43) [.ref x]) Q E s := by
  have hT : (lawTop.heap_39 w.params).In b₀ ∧ PR = PySem.Challenge.rw_ik0010_01.row.prog := ⟨C.X, rfl⟩
  revert hT
  w_top off
  k_fill
  intro hT
  clear hT
  have hhid : ∀ p ∈ [(I, itr l1 i), (x, fobj q I dx), (dx, dictOf [] 0)], s.heap.get? p.1 = some p.2 ∧ p.1 ∉ fad fs ∧ b₀.get? p.1 = none := by
    intro p hp
    refine ⟨?_, nb p hp⟩
    simp only [List.mem_cons, List.not_mem_nil, or_false] at hp
    rcases hp with rfl | rfl | rfl <;> assumption
  k_dflt (refine wpAny_call ?_)
  k_dflt (refine' enter0 C hhid ?k8 ?k6 ?k7 ?k9 ?kB ?_ ?c2 ?c3 ?c4 ?c5; (case k6 => k_is); (case k7 => k_is); (case k8 => ktr_room); (case k9 => exact BindsTo.of_eq (binds := [(Str.ofString "self", Value.ref x)]) rfl); (case kB => exact locs rfl); (case c2 => exact rfl); (case c3 => exact rfl); (case c4 => exact rfl); (case c5 => decide))
  intro g1 L1 h1' fr1 F1 N1 K1 lt1 X1 T1 st1 gk1
  simp only [List.cons_append, List.nil_append] at N1
  dsimp only
  iterate 8 (first | walk1 | (dsimp only; walk1))
  rename Fr g1 L1 _ _ => F2
  rename News g1 L1 _ _ => N2
  rw [nxM_start] at F2
  k_dflt (refine While_inv2 (nxJ q I x dx l1 fr1 xs ys i) (n₀ := xs.length + 1 - i) F2 N2 ⟨i, fun _ => none, rfl, rfl, hi, rfl, rfl⟩ ?_)
  rintro k m1 nw h2' tk2 F3 N3 ⟨i', u, rfl, rfl, e3, e4, rfl⟩
  unfold nxM at F3
  clear F2 N2
  have hIx : I ≠ x := get_ne hI hx c_it_x
  have hIdx : I ≠ dx := get_ne hI hdx c_it_d
  have hIf : I ∉ fad fs := (nb (I, itr l1 i) (by simp)).1
  have hr : ∀ p ∈ (x, fobj q I dx) :: (dx, dictOf [] 0) :: fr1, p.1 ≠ I := by
    intro p hp
    rcases List.mem_cons.mp hp with rfl | hp
    · exact Ne.symm hIx
    · rcases List.mem_cons.mp hp with rfl | hp
      · exact Ne.symm hIdx
      · intro e
        apply hIf
        rw [← e, ← K1.1]
        exact List.mem_map_of_mem hp
  have hgk : ∀ a o, a ∈ [q, l1, l2] → s.heap.get? a = some o → o.cls ≠ .type "list_iterator" → o.cls ≠ .ref 47 → o.cls ≠ .type "dict" → g1.get? a = some o := fun a o ha e n1 n2 n3 => gk1 a o e (by
    simp only [List.map_cons, List.map_nil, List.mem_cons, List.not_mem_nil, or_false, not_or]
    exact ⟨get_ne e hI n1, get_ne e hx n2, get_ne e hdx n3⟩) (nf a ha)
  have hql : g1.get? q = some (mw l2) := hgk _ _ (by simp) hq c_mw_it c_mw_x c_mw_d
  have h1l : g1.get? l1 = some (lo vs n1) := hgk _ _ (by simp) h1 c_l_it c_l_x c_l_d
  have h2l : g1.get? l2 = some (lo ws n2) := hgk _ _ (by simp) h2 c_l_it c_l_x c_l_d
  k_steps
  k_dflt (refine next_open ⟨_, (N3 _ List.mem_cons_self).1, rfl⟩ ?_)
  rcases hv : vs[i']? with _ | v
  · k_dflt (refine next_stop rfl F3 N3 hr (F3.keep _ _ h1l) hv (fun ha hb e F4 N4 hxe => ?_))
    have N5 : News g1 L1 ha ([(x, fobj q I dx), (dx, dictOf [] 0)] ++ fr1) := N4
    have N6 : News g1 L1 ha fr1 := fun p hp => N4 p (List.mem_cons_of_mem _ (List.mem_cons_of_mem _ hp))
    k_dflt (refine leave_up (L := L1) (fs := fs) rfl rfl (cx_of C st1 F4 N6 K1 rfl (by intro e; cases e)).ff hxe (fun hc U ob => ?_))
    obtain ⟨fr', K', F', N'⟩ := after (ex := []) F4 N5 K1 U (by
      intro p hp
      simp only [List.mem_cons, List.not_mem_nil, or_false] at hp
      rcases hp with rfl | rfl
      · exact ⟨List.not_mem_nil, (nb _ (by simp)).1⟩
      · exact ⟨List.not_mem_nil, (nb _ (by simp)).1⟩) (fun a ha => nomatch ha) List.not_mem_nil
    refine stop hc _ e ?_ ?_ ob
    · rw [e4]
      have : xs.drop i' = [] := by
        rw [List.drop_eq_nil_iff]
        have := IntsAre.length I1
        rw [List.getElem?_eq_none_iff] at hv
        omega
      rw [this]; rfl
    · exact up_hid (oI := itr l1 i) hx hdx gk1 F' N' K'
  · obtain ⟨k, t, rfl, hk⟩ := IntsAre.at I1 i' v hv
    k_dflt (refine next_special F3 N3 hr (F3.keep _ _ h1l) hv (fun ha F4 N4 => ⟨_, rfl, ?_⟩))
    clear F3 N3
    k_steps
    k_dflt (refine callWith_mw (l := l2) ?_)
    k_steps
    rename Fr g1 L1 _ _ => F5
    rename News g1 L1 _ _ => N5
    k_dflt (refine mw_call (F5.keep _ _ hql) (F5.keep _ _ h2l) I2 ?_)
    rcases hc : ys.contains k
    · k_steps
      rename Fr g1 L1 _ _ => F6
      rename News g1 L1 _ _ => N6
      refine item i' k t _ _ ?_ hv (up_hid (oI := itr l1 i) hx hdx gk1 F6 (fun p hp => N6 p (List.mem_cons_of_mem _ hp)) K1) (N6 _ List.mem_cons_self).1
      rw [e4, drop_get hk, List.filter_cons, if_pos (by simp only [hc, Bool.not_false])]
    · k_steps
      rename Fr g1 L1 _ _ => F6
      rename News g1 L1 _ _ => N6
      have hlt : i' < xs.length := (List.getElem?_eq_some_iff.mp hk).1
      refine ⟨_, _, _, _, xs.length + 1 - (i' + 1), rfl, F6, N6, by omega, i' + 1, fun _ => some (.int k t), rfl, rfl, hlt, ?_, ?_⟩
      · rw [e4, drop_get hk, List.filter_cons, if_neg (by simp only [hc, Bool.not_true, Bool.false_eq_true, not_false_eq_true])]
      · funext y
        unfold nxM
        by_cases hy : y = Str.ofString "item"
        · rw [if_pos hy, if_pos hy]
        · rw [if_neg hy, if_neg hy, if_neg hy]
end Mine
end
section
open PySem PySem.W PyProof.Rows PySem.Spec PySem.Calls
set_option maxRecDepth 100000
namespace Mine
local macro_rules | `(tactic| k_all) => `(tactic| assumption)
theorem c_l_t (T : String) (h : T ≠ "list") : Value.type "list" ≠ Value.type T := fun e => h (Value.type.inj e).symm
set_option maxHeartbeats 8000000 in
theorem in_spec {w : World} {mean : ExcName → Option Value} {mg mb : Str → Option Value} {dp un : Nat} {gd : Option (List Code)} {fs : List Env} {b₀ : Heap} {s : Shared} {R : Result → Shared → Prop}
    {x dx q l1 : Addr} {n1 : Nat} {vs : List Value}
    (C : Cx w mean mg mb b₀ fs s.heap) (hd : dp + 4 < recursionLimit)
    (hx : s.heap.get? x = some (instObj 47 dx)) (hdx : s.heap.get? dx = some (dictOf [] 0)) (h1 : s.heap.get? l1 = some (lo vs n1))
    (nb : ∀ p ∈ [(x, instObj 47 dx), (dx, dictOf [] 0)], p.1 ∉ fad fs ∧ b₀.get? p.1 = none) (nf : l1 ∉ fad fs)
    (ret : ∀ I h' tk', Up [x] (fad fs) s.heap h' → s.heap.get? I = none → h'.get? I = some (itr l1 0) → h'.get? x = some (fobj q I dx) → R (.ok (.ret .none)) { s with heap := h', toks := tk' }) :
    codeAny (model PR w) (aTop dp un gd fs) (.call (.ref 29) ⟨[.ref x, .ref q, .ref l1], []⟩) R s := by
  have hT : (lawTop.heap_39 w.params).In b₀ ∧ PR = PySem.Challenge.rw_ik0010_01.row.prog := ⟨C.X, rfl⟩
  revert hT
  w_top off
  k_fill
  intro hT
  clear hT
  have hhid : ∀ p ∈ [(x, instObj 47 dx), (dx, dictOf [] 0)], s.heap.get? p.1 = some p.2 ∧ p.1 ∉ fad fs ∧ b₀.get? p.1 = none := by
    intro p hp
    refine ⟨?_, nb p hp⟩
    simp only [List.mem_cons, List.not_mem_nil, or_false] at hp
    rcases hp with rfl | rfl <;> assumption
  k_dflt (refine' enter0 C hhid ?k8 ?k6 ?k7 ?k9 ?kB ?_ ?c2 ?c3 ?c4 ?c5; (case k6 => k_is); (case k7 => k_is); (case k8 => ktr_room); (case k9 => exact BindsTo.of_eq (binds := [(Str.ofString "self", Value.ref x), (Str.ofString "function", Value.ref q), (Str.ofString "iterable", Value.ref l1)]) rfl); (case kB => exact locs rfl); (case c2 => exact rfl); (case c3 => exact rfl); (case c4 => exact rfl); (case c5 => decide))
  intro g1 L1 h1' fr1 F1 N1 K1 lt1 X1 T1 st1 gk1
  simp only [List.cons_append, List.nil_append] at N1
  have hxd : x ≠ dx := get_ne hx hdx (by intro e; cases e)
  have h1l : g1.get? l1 = some (lo vs n1) := gk1 _ _ h1 (by
    simp only [List.map_cons, List.map_nil, List.mem_cons, List.not_mem_nil, or_false, not_or]
    exact ⟨get_ne h1 hx c_l_x, get_ne h1 hdx c_l_d⟩) nf
  k_steps
  k_dflt (refine iter_N F1 N1 (F1.keep _ _ h1l) (fun I hI F2 N2 l2 => ?_))
  have l1' : I ≠ x ∧ I ≠ dx ∧ I ∉ fad fs := by
    refine ⟨Ne.symm (Nat.ne_of_lt (l2 _ List.mem_cons_self)), Ne.symm (Nat.ne_of_lt (l2 _ (List.mem_cons_of_mem _ List.mem_cons_self))), ?_⟩
    rw [← K1.1]
    intro hm
    obtain ⟨p, hp, e⟩ := List.mem_map.mp hm
    exact Nat.ne_of_lt (l2 p (List.mem_cons_of_mem _ (List.mem_cons_of_mem _ hp))) e
  have l3 : @LT.lt Nat _ x I := l2 _ List.mem_cons_self
  have l4 : @LT.lt Nat _ dx I := l2 _ (List.mem_cons_of_mem _ List.mem_cons_self)
  have l5 : @Ne Nat x dx := hxd
  have hfx : ∀ p ∈ fr1, p.1 ≠ x := fr_ne K1 (nb (x, instObj 47 dx) (by simp)).1
  clear F1 N1
  k_steps
  rename Fr g1 L1 _ _ => F3
  rename News g1 L1 _ _ => N3
  have hnI := (N3 _ List.mem_cons_self)
  refine ret I _ _ ?_ ?_ hnI.1 (N3 _ (List.mem_cons_of_mem _ List.mem_cons_self)).1
  · have U := up_of gk1 F3 (fun p hp => N3 p (List.mem_cons_of_mem _ (List.mem_cons_of_mem _ (List.mem_cons_of_mem _ hp)))) K1
    refine ⟨fun b o e n1 n2 => ?_, U.slot⟩
    by_cases h2 : b = dx
    · subst h2
      rw [hdx] at e; cases e
      exact (N3 _ (List.mem_cons_of_mem _ (List.mem_cons_of_mem _ List.mem_cons_self))).1
    · refine U.keep b o e ?_ n2
      simp only [List.map_cons, List.map_nil, List.mem_cons, List.not_mem_nil, or_false, not_or] at n1 ⊢
      exact ⟨n1, h2⟩
  · cases qq : s.heap.get? I with
    | none => rfl
    | some o =>
      have := gk1 I o qq (by
        simp only [List.map_cons, List.map_nil, List.mem_cons, List.not_mem_nil, or_false, not_or]
        exact ⟨l1'.1, l1'.2.1⟩) l1'.2.2
      rw [hnI.2.2] at this; cases this
end Mine
end
section
open PySem PySem.W PyProof.Rows PySem.Spec PySem.Calls
set_option maxRecDepth 100000
namespace Mine
noncomputable abbrev KF (w : World) : Frag := lawTop.heap_39 w.params
theorem Cx.up {w : World} {mean : ExcName → Option Value} {mg mb : Str → Option Value} {b₀ h h' : Heap} {fs : List Env} {ex : List Addr} (C : Cx w mean mg mb b₀ fs h) (U : Up ex (fad fs) h h') (hex : ∀ a ∈ ex, b₀.get? a = none) : Cx w mean mg mb b₀ fs h' := by
  obtain ⟨fr, K, frh, nf⟩ := frL_start C.ff
  refine ⟨C.X, C.T, fun b o e => U.keep b o (C.st b o e) (fun q => by rw [hex b q] at e; cases e) (fun q => by rw [nf b q] at e; cases e), ?_⟩
  have go : ∀ l : List Env, (∀ a ∈ fad l, a ∈ fad fs) → h.FunFrames b₀ l → h'.FunFrames b₀ l := by
    intro l
    induction l with
    | nil => intro _ _; trivial
    | cons env l ih =>
      intro hs ⟨hk, ⟨L, o, hf, hn, ho, hd⟩, hr⟩
      have hfad : fad (env :: l) = L :: fad l := by simp [fad, hf]
      rw [hfad] at hs
      obtain ⟨sl, e⟩ := U.slot L o ho (hs L List.mem_cons_self)
      exact ⟨hk, ⟨L, _, hf, hn, e, hd⟩, ih (fun a ha => hs a (List.mem_cons_of_mem _ ha)) hr⟩
  exact go fs (fun _ h => h) C.ff
theorem Up.mono {ex ex' as : List Addr} {h h' : Heap} (U : Up ex as h h') (hs : ∀ a ∈ ex, a ∈ ex') : Up ex' as h h' := ⟨fun b o e n m => U.keep b o e (fun q => n (hs b q)) m, U.slot⟩
theorem Up.trans' {ex as : List Addr} {h h₁ h₂ : Heap} (x : Up ex as h h₁) (y : Up ex as h₁ h₂) : Up ex as h h₂ :=
  ⟨fun b o e n m => y.keep b o (x.keep b o e n m) n m, fun b o e m => by
    obtain ⟨s1, h1⟩ := x.slot b o e m
    obtain ⟨s2, h2⟩ := y.slot b _ h1 m
    exact ⟨s2, h2⟩⟩
theorem Up.but {ex as : List Addr} {h h' : Heap} {S : Addr} (hS : S ∈ ex) (hf : S ∉ as) (k : ∀ b o, b ≠ S → h.get? b = some o → h'.get? b = some o) : Up ex as h h' :=
  ⟨fun b o e n _ => k b o (fun q => n (q ▸ hS)) e, fun b o e m => ⟨o.slots, k b o (fun q => hf (q ▸ m)) e⟩⟩
set_option maxHeartbeats 8000000 in
theorem it_spec {w : World} {mean : ExcName → Option Value} {mg mb : Str → Option Value} {dp un : Nat} {gd : Option (List Code)} {fs : List Env} {b₀ : Heap} {s : Shared} {Q E : Value → Shared → Prop} {x : Addr}
    (C : Cx w mean mg mb b₀ fs s.heap) (hd : dp + 4 < recursionLimit) (ret : ∀ h' tk', Up [] (fad fs) s.heap h' → Q (.ref x) { s with heap := h', toks := tk' }) :
    wpAny (model PR w) (aTop dp un gd fs) (call (.ref 36) [.ref x]) Q E s := by
  have hT : (lawTop.heap_39 w.params).In b₀ ∧ PR = PySem.Challenge.rw_ik0010_01.row.prog := ⟨C.X, rfl⟩
  revert hT
  w_top off
  k_fill
  intro hT
  clear hT
  k_dflt (refine wpAny_call ?_)
  k_dflt (refine' enter0 (hid := []) C (fun _ h => nomatch h) ?k8 ?k6 ?k7 ?k9 ?kB ?_ ?c2 ?c3 ?c4 ?c5; (case k6 => k_is); (case k7 => k_is); (case k8 => ktr_room); (case k9 => exact BindsTo.of_eq (binds := [(Str.ofString "self", Value.ref x)]) rfl); (case kB => exact locs rfl); (case c2 => exact rfl); (case c3 => exact rfl); (case c4 => exact rfl); (case c5 => decide))
  intro g1 L1 h1' fr1 F1 N1 K1 lt1 X1 T1 st1 gk1
  simp only [List.nil_append] at N1
  k_steps
  exact ret _ _ (up_of (fun b o e _ n2 => gk1 b o e List.not_mem_nil n2) F1 N1 K1)
section
variable {M : Model} {A : Around} {E : Value → Shared → Prop} {s : Shared} {K : Frag} {x C f g' : Addr} {ox : Obj} {od : Option Obj}
theorem pn_own {Q : Option Value → Shared → Prop} (X : K.In s.heap) (I : InstAt s.heap x ox C od) (hs : findIn K (.ref C) "__next__" = some (some (.ref f))) (hf : typeIn K (.ref f) = some (.type "function"))
    (h : wpAny M A (call (.ref f) [.ref x]) (fun v s' => Q (some v) s') (fun e s' => ∃ a ob, e = .ref a ∧ s'.heap.get? a = some ob ∧ ob.cls = .type "StopIteration" ∧ Q none s') s) : wpAny M A (pyNext (.ref x)) Q E s := by
  unfold pyNext
  refine wpAny_bind (wpAny_attempt (special_fn (name := "__next__") (args := []) X I hs hf (wpAny_mono h (fun v s' hq => wpAny_pure hq) fun e s' he => ?_)))
  obtain ⟨a, ob, rfl, ho, hc, hq⟩ := he
  refine wpAny_bind (wpAny_isInstance (T := "StopIteration") (b := true) ⟨ob, ho, hc⟩ isSubtype_stop ?_)
  exact wpAny_pure hq
theorem pi_own {Q : Value → Shared → Prop} {gv : Value} (X : K.In s.heap) (I : InstAt s.heap x ox C od) (hs : findIn K (.ref C) "__iter__" = some (some (.ref f))) (hf : typeIn K (.ref f) = some (.type "function")) (hn : findIn K (.ref C) "__next__" = some (some gv))
    (h : wpAny M A (call (.ref f) [.ref x]) (fun v s' => v = .ref x ∧ K.In s'.heap ∧ InstAt s'.heap x ox C od ∧ Q (.ref x) s') E s) : wpAny M A (pyIter (.ref x)) Q E s := by
  have fin : wpAny M A (call (.ref f) [.ref x] >>= fun v => pure (some v)) (fun r s' => r = some (.ref x) ∧ K.In s'.heap ∧ InstAt s'.heap x ox C od ∧ Q (.ref x) s') E s :=
    wpAny_bind (wpAny_mono h (fun v s' h' => wpAny_pure ⟨by rw [h'.1], h'.2⟩) fun _ _ z => z)
  have one : ∀ refuse : Sem Value, wpAny M A (callSpecialIfBoundUnlessNone? (.ref x) "__iter__" refuse) (fun r s' => r = some (.ref x) ∧ K.In s'.heap ∧ InstAt s'.heap x ox C od ∧ Q (.ref x) s') E s := by
    intro refuse
    simp only [callSpecialIfBoundUnlessNone?, bindSpecialIfBound?]
    refine wpAny_holding (wpAny_bind (wpAny_bind (wpAny_bind (I.type.here ((looks_findIn X hs).here ?_)))))
    refine wpAny_bind (wpAny_askSetting (wpAny_ite ?_))
    have fin2 : wpAny M A (if (Value.ref f == Value.none) = true then (refuse >>= fun v => pure (some v)) else (call (.ref f) [.ref x] >>= fun v => pure (some v))) (fun r s' => r = some (.ref x) ∧ K.In s'.heap ∧ InstAt s'.heap x ox C od ∧ Q (.ref x) s') E s := by
      rw [if_neg (show ¬ ((Value.ref f == Value.none) = true) from Bool.false_ne_true)]
      exact fin
    split
    · exact wpAny_bind ((bind_fn X _ hf).here (wpAny_pure (by exact fin2)))
    · exact wpAny_tryCatch (wpAny_bind ((bind_fn X _ hf).here (wpAny_pure (by exact fin2))))
  unfold pyIter
  refine wpAny_bind (wpAny_bind (I.type.here ((looks_findIn X hs).here ?_)))
  show wpAny M A (callSpecialIfBoundUnlessNone? (.ref x) "__iter__" _ >>= _) Q E s
  refine wpAny_bind (wpAny_mono (one _) (fun r s' hr => ?_) fun _ _ z => z)
  obtain ⟨rfl, X', I', hq⟩ := hr
  refine wpAny_bind (wpAny_bind (I'.type.here ((looks_findIn X' hn).here ?_)))
  exact wpAny_pure hq
end
end Mine
end
section
open PySem PySem.W PyProof.Rows PySem.Spec PySem.Calls
set_option maxRecDepth 100000
namespace Mine
structure ItS (vs ws : List Value) (n1 n2 : Nat) (x dx q I l1 l2 : Addr) (i : Nat) (h : Heap) : Prop where
  hI : h.get? I = some (itr l1 i)
  hx : h.get? x = some (fobj q I dx)
  hdx : h.get? dx = some (dictOf [] 0)
  hq : h.get? q = some (mw l2)
  h1 : h.get? l1 = some (lo vs n1)
  h2 : h.get? l2 = some (lo ws n2)
theorem ItS.up {vs ws : List Value} {n1 n2 : Nat} {x dx q I l1 l2 : Addr} {i j : Nat} {h h' : Heap} {ex as : List Addr} (T : ItS vs ws n1 n2 x dx q I l1 l2 i h) (U : Up ex as h h') (hI : h'.get? I = some (itr l1 j))
    (hex : ∀ a ∈ [x, dx, q, l1, l2], a ∉ ex) (has : ∀ a ∈ [x, dx, q, l1, l2], a ∉ as) : ItS vs ws n1 n2 x dx q I l1 l2 j h' :=
  ⟨hI, U.keep _ _ T.hx (hex _ (by simp)) (has _ (by simp)), U.keep _ _ T.hdx (hex _ (by simp)) (has _ (by simp)), U.keep _ _ T.hq (hex _ (by simp)) (has _ (by simp)), U.keep _ _ T.h1 (hex _ (by simp)) (has _ (by simp)), U.keep _ _ T.h2 (hex _ (by simp)) (has _ (by simp))⟩
theorem ItS.ne_I {vs ws : List Value} {n1 n2 : Nat} {x dx q I l1 l2 : Addr} {i : Nat} {h : Heap} (T : ItS vs ws n1 n2 x dx q I l1 l2 i h) : ∀ a ∈ [x, dx, q, l1, l2], a ∉ [I] := by
  intro a ha hm
  rw [List.mem_singleton] at hm
  subst hm
  simp only [List.mem_cons, List.not_mem_nil, or_false] at ha
  rcases ha with e | e | e | e | e
  · exact get_ne T.hI T.hx c_it_x e
  · exact get_ne T.hI T.hdx c_it_d e
  · exact get_ne T.hI T.hq (Ne.symm c_mw_it) e
  · exact get_ne T.hI T.h1 (Ne.symm c_l_it) e
  · exact get_ne T.hI T.h2 (Ne.symm c_l_it) e
theorem lo_push (vs : List Value) (v : Value) (n : Nat) : Obj.mapSeq (·.push v) (lo vs n) = lo (vs ++ [v]) (n + 1) := by
  show Obj.mapSeq _ ⟨.type "list", none, .seq vs.toArray n, #[]⟩ = _
  unfold Obj.mapSeq
  simp
theorem ItS.inst {vs ws : List Value} {n1 n2 : Nat} {x dx q I l1 l2 : Addr} {i : Nat} {h : Heap} (T : ItS vs ws n1 n2 x dx q I l1 l2 i h) : InstAt h x (fobj q I dx) 47 (some (dictOf [] 0)) := ⟨T.hx, rfl, rfl, T.hdx⟩
abbrev ffp (ys : List Int) : Int → Bool := fun v => !ys.contains v
section
variable {w : World} {mean : ExcName → Option Value} {mg mb : Str → Option Value} {gd : Option (List Code)} {fs : List Env} {b₀ : Heap} {x dx q I l1 l2 S : Addr} {n1 n2 : Nat} {vs ws : List Value} {xs ys : List Int}
set_option maxHeartbeats 4000000 in
theorem ext_loop (I1 : IntsAre vs xs) (I2 : IntsAre ws ys) (dp : Nat) (hd : dp + 4 < recursionLimit) (hbig : xs.length ≤ 1000)
    (nb : ∀ a ∈ [I, x, dx, S], a ∉ fad fs ∧ b₀.get? a = none) (nf : ∀ a ∈ [x, dx, q, l1, l2], a ∉ fad fs) (nS : ∀ a ∈ [I, x, dx, q, l1, l2], a ≠ S) (res : Value) (R : Result → Shared → Prop)
    (hns : findIn (KF w) (.ref 47) "__next__" = some (some (.ref 43))) (hft : typeIn (KF w) (.ref 43) = some (.type "function")) :
    ∀ (k un i : Nat) (s : Shared) (acc : List Value) (accx : List Int) (c : Nat), ((xs.drop i).filter (ffp ys)).length = k → i ≤ xs.length → un + 65 < cLine → Cx w mean mg mb b₀ fs s.heap → s.heap.get? S = some (lo acc c) → IntsAre acc accx → acc.length + k ≤ 2000 → ItS vs ws n1 n2 x dx q I l1 l2 i s.heap →
      (∀ rs n h' tk', Up [S, I] (fad fs) s.heap h' → h'.get? S = some (lo rs n) → IntsAre rs (accx ++ (xs.drop i).filter (ffp ys)) → R (.ok (.ret res)) { s with heap := h', toks := tk' }) →
      codeAny (model PR w) (aTop dp un gd fs) (.builtin "list.extend.loop" ⟨[.ref S, .ref x, res], []⟩) R s := by
  intro k
  induction k with
  | zero =>
    intro un i s acc accx c hk hi hu C hS hacc hlen T hR
    refine codeAny_builtin F.entry_extend_loop ?_
    rw [Around.under_plainId F.plain_extend_loop _]
    show wpAny _ (aTop dp (un + 1) gd fs) (pyNext (.ref x) >>= _) _ _ s
    refine wpAny_bind (pn_own (K := KF w) (fun a o e => C.st _ _ (C.X a o e)) T.inst hns hft ?_)
    refine nx_spec I1 I2 C hd (by omega) hi T.hI T.hx T.hdx T.hq T.h1 T.h2 ?_ (fun a ha => nf a (by revert ha; simp only [List.mem_cons, List.not_mem_nil, or_false]; intro h; rcases h with h | h | h <;> simp [h])) (fun j k t h' tk' he _ _ _ => ?_) (fun h' tk' e he U ob => ?_)
    · intro p hp
      simp only [List.mem_cons, List.not_mem_nil, or_false] at hp
      rcases hp with rfl | rfl | rfl <;> exact nb _ (by simp)
    · rw [he] at hk; cases hk
    · obtain ⟨ob, ho, hc⟩ := ob
      refine ⟨e, ob, rfl, ho, hc, ?_⟩
      refine wpAny_pure (hR acc c h' tk' (U.mono (by simp)) (U.keep _ _ hS ?_ (nb S (by simp)).1) ?_)
      · rw [List.mem_singleton]; exact Ne.symm (nS I (by simp))
      · rw [he, List.append_nil]; exact hacc
  | succ k ih =>
    intro un i s acc accx c hk hi hu C hS hacc hlen T hR
    refine codeAny_builtin F.entry_extend_loop ?_
    rw [Around.under_plainId F.plain_extend_loop _]
    show wpAny _ (aTop dp (un + 1) gd fs) (pyNext (.ref x) >>= _) _ _ s
    refine wpAny_bind (pn_own (K := KF w) (fun a o e => C.st _ _ (C.X a o e)) T.inst hns hft ?_)
    refine nx_spec I1 I2 C hd (by omega) hi T.hI T.hx T.hdx T.hq T.h1 T.h2 ?_ (fun a ha => nf a (by revert ha; simp only [List.mem_cons, List.not_mem_nil, or_false]; intro h; rcases h with h | h | h <;> simp [h])) (fun j kk t h' tk' he hv U hI' => ?_) (fun h' tk' e he U ob => ?_)
    · intro p hp
      simp only [List.mem_cons, List.not_mem_nil, or_false] at hp
      rcases hp with rfl | rfl | rfl <;> exact nb _ (by simp)
    · have hS' : h'.get? S = some (lo acc c) := U.keep _ _ hS (by rw [List.mem_singleton]; exact Ne.symm (nS I (by simp))) (nb S (by simp)).1
      have C' := C.up U (fun a ha => by rw [List.mem_singleton] at ha; subst ha; exact (nb a (by simp)).2)
      have T' : ItS vs ws n1 n2 x dx q I l1 l2 (j + 1) h' := T.up U hI' T.ne_I nf
      show wpAny _ (aTop dp (un + 1) gd fs) (updateSeq S (·.push (.int kk t)) >>= _) _ _ _
      refine wpAny_bind ?_
      have hup := Heap.get?_update_self (Obj.mapSeq (·.push (.int kk t))) hS' rfl
      rw [lo_push] at hup
      have oth : ∀ b o, b ≠ S → h'.get? b = some o → (h'.update S (Obj.mapSeq (·.push (.int kk t)))).get? b = some o := fun b o hb e => (Heap.get?_update_other _ _ (Ne.symm hb)).trans e
      have U2 : Up [S] (fad fs) h' (h'.update S (Obj.mapSeq (·.push (.int kk t)))) := Up.but (by simp) (nb S (by simp)).1 oth
      have hjl : j < xs.length := by
        have := IntsAre.length I1
        have := (List.getElem?_eq_some_iff.mp hv).1
        omega
      have hk2 : ((xs.drop (j + 1)).filter (ffp ys)).length = k := by
        have h5 : k + 1 = ((xs.drop (j + 1)).filter (ffp ys)).length + 1 := hk.symm.trans (congrArg List.length he)
        omega
      refine wpAny_updateSeq hS' rfl (wpAny_pure ⟨plainId_quiet F.plain_extend_loop _, ?_⟩) (by rw [List.size_toArray, sizeLine_eq]; omega) (by rw [Array.size_push, List.size_toArray, sizeLine_eq]; omega)
      refine ih un (j + 1) _ (acc ++ [.int kk t]) (accx ++ [kk]) (c + 1) hk2 hjl hu (C'.up U2 (fun a ha => by rw [List.mem_singleton] at ha; subst ha; exact (nb a (by simp)).2)) hup (IntsAre.append hacc (.cons kk t .nil)) (by rw [List.length_append, List.length_singleton]; omega)
        (T'.up U2 (oth _ _ (nS I (by simp)) hI') (fun a ha hm => nS a (List.mem_cons_of_mem _ ha) (List.mem_singleton.mp hm)) nf) (fun rs n h'' tk'' U3 hS3 hrs => ?_)
      refine hR rs n h'' tk'' (Up.trans' (U.mono (by simp)) (Up.trans' (U2.mono (by simp)) U3)) hS3 ?_
      have he' : (xs.drop i).filter (ffp ys) = _ := he
      rw [he']
      rw [List.append_assoc] at hrs
      exact hrs
    · exfalso
      have he' : (xs.drop i).filter (ffp ys) = [] := he
      rw [he'] at hk; cases hk
end
end Mine
end
section
open PySem PySem.W PyProof.Rows PySem.Spec PySem.Calls
set_option maxRecDepth 100000
namespace Mine
theorem get_size_none (h : Heap) : h.get? h.objs.size = none := by
  cases q : h.get? h.objs.size with
  | none => rfl
  | some o => exact absurd (Heap.lt_size q) (Nat.lt_irrefl _)
theorem Cx.new_ok {w : World} {mean : ExcName → Option Value} {mg mb : Str → Option Value} {b₀ h : Heap} {fs : List Env} (C : Cx w mean mg mb b₀ fs h) {r : Addr} (hr : h.get? r = none) : r ∉ fad fs ∧ b₀.get? r = none := by
  refine ⟨fun q => ?_, ?_⟩
  · obtain ⟨_, o, ho, _⟩ := C.ff.mem q
    rw [hr] at ho; cases ho
  · cases q : b₀.get? r with
    | none => rfl
    | some o => have := C.st _ _ q; rw [hr] at this; cases this
section
variable {w : World} {mean : ExcName → Option Value} {mg mb : Str → Option Value} {gd : Option (List Code)} {fs : List Env} {b₀ : Heap} {x dx q I l1 l2 S : Addr} {n1 n2 : Nat} {vs ws : List Value} {xs ys : List Int}
set_option maxHeartbeats 4000000 in
theorem ls_spec {dp un : Nat} {s : Shared} {Q E : Value → Shared → Prop} (I1 : IntsAre vs xs) (I2 : IntsAre ws ys) (hd : dp + 4 < recursionLimit) (hu : un + 70 < cLine) (hbig : xs.length ≤ 1000) (C : Cx w mean mg mb b₀ fs s.heap) (T : ItS vs ws n1 n2 x dx q I l1 l2 0 s.heap)
    (nb : ∀ a ∈ [I, x, dx], a ∉ fad fs ∧ b₀.get? a = none) (nf : ∀ a ∈ [x, dx, q, l1, l2], a ∉ fad fs)
    (ret : ∀ r rs n h' tk', Up [I] (fad fs) s.heap h' → s.heap.get? r = none → h'.get? r = some (lo rs n) → IntsAre rs (xs.filter (ffp ys)) → Q (.ref r) { s with heap := h', toks := tk' })
    (hns : findIn (KF w) (.ref 47) "__next__" = some (some (.ref 43))) (hft : typeIn (KF w) (.ref 43) = some (.type "function"))
    (his : findIn (KF w) (.ref 47) "__iter__" = some (some (.ref 36))) (hfi : typeIn (KF w) (.ref 36) = some (.type "function"))
    (hln : findIn (KF w) (.ref 47) "__len__" = some none) (hlh : findIn (KF w) (.ref 47) "__length_hint__" = some none) :
    wpAny (model PR w) (aTop dp un gd fs) (call (.type "list") [.ref x]) Q E s := by
  refine callType_codes (Q₁ := fun obj s₁ => obj = .ref s.heap.objs.size ∧ s₁ = { s with heap := s.heap.push { cls := .type "list", data := .seq #[] } }) F.called_list (F.typeCall_list_1 _) F.entry_list_init
    (code_list_new _ ⟨rfl, rfl⟩) fun obj s₁ h₁ => ?_
  obtain ⟨rfl, rfl⟩ := h₁
  have hSn := get_size_none s.heap
  have nS := C.new_ok hSn
  generalize hS0 : s.heap.objs.size = S at *
  have hS : (s.heap.push { cls := .type "list", data := .seq #[] }).get? S = some (lo [] 0) := hS0 ▸ Heap.get?_push_size _ rfl
  have push : ∀ b o, s.heap.get? b = some o → (s.heap.push { cls := .type "list", data := .seq #[] }).get? b = some o := fun b o e => Heap.get?_push_of_some _ e
  have Up0 : Up [] (fad fs) s.heap (s.heap.push { cls := .type "list", data := .seq #[] }) := ⟨fun b o e _ _ => push b o e, fun b o e _ => ⟨o.slots, push b o e⟩⟩
  generalize s.heap.push { cls := .type "list", data := .seq #[] } = H at *
  have neS : ∀ a o, s.heap.get? a = some o → a ≠ S := fun a o e q => by rw [q, hSn] at e; cases e
  have nSs : ∀ a ∈ [I, x, dx, q, l1, l2], a ≠ S := by
    intro a ha
    simp only [List.mem_cons, List.not_mem_nil, or_false] at ha
    rcases ha with rfl | rfl | rfl | rfl | rfl | rfl
    · exact neS _ _ T.hI
    · exact neS _ _ T.hx
    · exact neS _ _ T.hdx
    · exact neS _ _ T.hq
    · exact neS _ _ T.h1
    · exact neS _ _ T.h2
  refine ⟨⟨_, hS, rfl⟩, F.args_list_init_2 _ _, ?_⟩
  show wpAny _ (aTop dp (un + 2) gd fs) (do let old ← Builtin.List.listItems (.ref S); Builtin.List.listUpdate (.ref S) (fun _ => #[]); letGo old.toList.reverse; Builtin.List.listExtendWith (.ref S) (.ref x) .none) _ _ _
  refine wpAny_bind ?_
  unfold Builtin.List.listItems
  refine wpAny_bind (wpAny_seqItems hS rfl (wpAny_pure ?_))
  show wpAny _ (aTop dp (un + 2) gd fs) (updateSeq S (fun _ => #[]) >>= fun _ => letGo (([] : List Value).toArray).toList.reverse >>= fun _ => Builtin.List.listExtendWith (.ref S) (.ref x) .none) _ _ _
  refine wpAny_bind (wpAny_updateSeq hS rfl ?_)
  have hS₂ : (H.update S (Obj.mapSeq (fun _ => (#[] : Array Value)))).get? S = some (lo [] 0) := Heap.get?_update_self (Obj.mapSeq (fun _ => (#[] : Array Value))) hS rfl
  have U2 : Up [S] (fad fs) H (H.update S (Obj.mapSeq (fun _ => (#[] : Array Value)))) := Up.but (by simp) nS.1 fun b o hb e => (Heap.get?_update_other _ _ (Ne.symm hb)).trans e
  generalize H.update S (Obj.mapSeq (fun _ => (#[] : Array Value))) = H2 at *
  refine wpAny_bind (wpAny_letGo ?_)
  have U02 : Up [S] (fad fs) s.heap H2 := Up.trans' (Up0.mono (by simp)) U2
  have exS : ∀ a ∈ [S], b₀.get? a = none := fun a ha => by rw [List.mem_singleton] at ha; subst ha; exact nS.2
  have C2 : Cx w mean mg mb b₀ fs H2 := C.up U02 exS
  have memS : ∀ a ∈ [x, dx, q, l1, l2], a ∉ [S] := fun a ha hm => nSs a (List.mem_cons_of_mem _ ha) (List.mem_singleton.mp hm)
  have T2 : ItS vs ws n1 n2 x dx q I l1 l2 0 H2 := T.up U02 (U02.keep _ _ T.hI (fun hm => nSs I (by simp) (List.mem_singleton.mp hm)) (nb I (by simp)).1) memS nf
  unfold Builtin.List.listExtendWith
  have X2 : (KF w).In H2 := fun a o e => C2.st _ _ (C2.X a o e)
  refine wpAny_bind (T2.inst.type (M := model PR w) _ _ _ _ (fun _ _ e => e) ?_)
  have h1 : Builtin.List.listSameRef (.ref S) (.ref x) = false := by
    have := nSs x (by simp)
    simp [Builtin.List.listSameRef, Ne.symm this]
  have h2 : (Value.ref 47 == Value.type "list") = false := by decide
  have h3 : (Value.ref 47 == Value.type "tuple") = false := by decide
  simp only [h1, h2, h3, Bool.or_false, Bool.false_eq_true, if_false]
  refine wpAny_bind (pi_own (K := KF w) X2 T2.inst his hfi hns ?_)
  refine it_spec C2 hd (fun H3 tk3 U3 => ?_)
  have C3 : Cx w mean mg mb b₀ fs H3 := C2.up U3 (fun a ha => nomatch ha)
  have T3 : ItS vs ws n1 n2 x dx q I l1 l2 0 H3 := T2.up U3 (U3.keep _ _ T2.hI List.not_mem_nil (nb I (by simp)).1) (fun a _ => List.not_mem_nil) nf
  have X3 : (KF w).In H3 := fun a o e => C3.st _ _ (C3.X a o e)
  have hS3 : H3.get? S = some (lo [] 0) := U3.keep _ _ hS₂ List.not_mem_nil nS.1
  refine ⟨rfl, X3, T3.inst, ?_⟩
  refine wpAny_bind (wpAny_holding ?_)
  unfold Builtin.List.listLengthHint
  refine wpAny_bind (wpAny_bind (T3.inst.type (M := model PR w) _ _ _ _ (fun _ _ e => e) (looks_findIn X3 hln _ _ _ _ (fun _ _ e => e) ?_)))
  refine wpAny_bind (wpAny_bind (T3.inst.type (M := model PR w) _ _ _ _ (fun _ _ e => e) (looks_findIn X3 hlh _ _ _ _ (fun _ _ e => e) ?_)))
  refine wpAny_pure ?_
  show wpAny _ (aTop dp (un + 2) gd fs) (rule "list.extend.makes-room" >>= fun _ => Builtin.List.listTouch (.ref S) >>= fun _ =>
    again (.builtin "list.extend.loop" ⟨[.ref S, .ref x, .none], []⟩)) _ _ _
  refine wpAny_bind (wpAny_rule ?_)
  refine wpAny_bind ?_
  show wpAny _ (aTop dp (un + 2) gd fs) (updateSeq S (·.push .none) >>= fun _ => updateSeq S (·.pop)) _ _ _
  refine wpAny_bind (wpAny_updateSeq hS3 rfl ?_)
  have hS4 := Heap.get?_update_self (Obj.mapSeq (·.push Value.none)) hS3 rfl
  have U4 : Up [S] (fad fs) H3 (H3.update S (Obj.mapSeq (·.push Value.none))) := Up.but (by simp) nS.1 fun b o hb e => (Heap.get?_update_other _ _ (Ne.symm hb)).trans e
  refine wpAny_updateSeq (hz := by seq_fits) hS4 rfl ?_
  have hS5 := Heap.get?_update_self (Obj.mapSeq (·.pop)) hS4 rfl
  have U5 : Up [S] (fad fs) (H3.update S (Obj.mapSeq (·.push Value.none))) ((H3.update S (Obj.mapSeq (·.push Value.none))).update S (Obj.mapSeq (·.pop))) := Up.but (by simp) nS.1 fun b o hb e => (Heap.get?_update_other _ _ (Ne.symm hb)).trans e
  have hS6 : ((H3.update S (Obj.mapSeq (·.push Value.none))).update S (Obj.mapSeq (·.pop))).get? S = some (lo [] 2) := hS5
  generalize (H3.update S (Obj.mapSeq (·.push Value.none))).update S (Obj.mapSeq (·.pop)) = H5 at *
  have U35 : Up [S] (fad fs) H3 H5 := Up.trans' U4 U5
  have C5 : Cx w mean mg mb b₀ fs H5 := C3.up U35 exS
  have T5 : ItS vs ws n1 n2 x dx q I l1 l2 0 H5 := T3.up U35 (U35.keep _ _ T3.hI (fun hm => nSs I (by simp) (List.mem_singleton.mp hm)) (nb I (by simp)).1) memS nf
  refine wpAny_pure ⟨plainId_quiet F.plain_extend_loop _, ?_⟩
  refine ext_loop I1 I2 dp hd hbig ?_ nf nSs .none _ hns hft _ (un + 1) 0 _ [] [] 2 rfl (Nat.zero_le _) (by omega) C5 hS6 .nil ?_ T5 (fun rs n h' tk' U6 hr hrs => ⟨rfl, ?_⟩)
  · intro a ha
    simp only [List.mem_cons, List.not_mem_nil, or_false] at ha
    rcases ha with rfl | rfl | rfl | rfl
    · exact nb _ (by simp)
    · exact nb _ (by simp)
    · exact nb _ (by simp)
    · exact nS
  · have := List.length_filter_le (ffp ys) (xs.drop 0)
    rw [List.drop_zero] at this ⊢
    simp only [List.length_nil]; omega
  · rw [List.drop_zero, List.nil_append] at hrs
    refine ret S rs n h' tk' ?_ hSn hr hrs
    have UA : Up [S, I] (fad fs) s.heap h' := Up.trans' (U02.mono (by simp)) (Up.trans' (U3.mono (by simp)) (Up.trans' (U35.mono (by simp)) U6))
    refine ⟨fun b o e n1 n2 => UA.keep b o e ?_ n2, UA.slot⟩
    intro hm
    rcases List.mem_cons.mp hm with rfl | hm
    · rw [hSn] at e; cases e
    · exact n1 hm
end
end Mine
end
section
open PySem PySem.W PyProof.Rows PySem.Spec PySem.Calls
set_option maxRecDepth 100000
namespace Mine
theorem notIn_of_ne {as : List Addr} {h : Heap} {fr : List (Addr × Obj)} {x : Addr} (K : FrL as h fr) (hx : ∀ p ∈ fr, p.1 ≠ x) : x ∉ as := by
  rw [← K.1]; intro q
  obtain ⟨p, hp, e⟩ := List.mem_map.mp q
  exact hx p hp e
set_option maxHeartbeats 8000000 in
theorem fi_spec {w : World} {mean : ExcName → Option Value} {mg mb : Str → Option Value} {dp un : Nat} {gd : Option (List Code)} {fs : List Env} {b₀ : Heap} {s : Shared} {Q E : Value → Shared → Prop} {l1 l2 : Addr} {n1 n2 : Nat} {vs ws : List Value} {xs ys : List Int}
    (I1 : IntsAre vs xs) (I2 : IntsAre ws ys) (hbig : xs.length ≤ 1000) (C : Cx w mean mg mb b₀ fs s.heap) (hd : dp + 8 < recursionLimit) (hu : un + 100 < cLine)
    (h1 : s.heap.get? l1 = some (lo vs n1)) (h2 : s.heap.get? l2 = some (lo ws n2)) (nf1 : l1 ∉ fad fs) (nf2 : l2 ∉ fad fs)
    (ret : ∀ r rs n h' tk', Up [] (fad fs) s.heap h' → s.heap.get? r = none → h'.get? r = some (lo rs n) → IntsAre rs (xs.filter (ffp ys)) → Q (.ref r) { s with heap := h', toks := tk' }) :
    wpAny (model PR w) (aTop dp un gd fs) (call (.ref 58) [.ref l1, .ref l2]) Q E s := by
  have hT : (lawTop.heap_39 w.params).In b₀ ∧ PR = PySem.Challenge.rw_ik0010_01.row.prog := ⟨C.X, rfl⟩
  revert hT
  w_top off
  k_fill
  intro hT
  clear hT
  k_dflt (refine wpAny_call ?_)
  k_dflt (refine' enter0 (hid := []) C (fun _ h => nomatch h) ?k8 ?k6 ?k7 ?k9 ?kB ?_ ?c2 ?c3 ?c4 ?c5; (case k6 => k_is); (case k7 => k_is); (case k8 => ktr_room); (case k9 => exact BindsTo.of_eq (binds := [(Str.ofString "flist", .ref l1), (Str.ofString "skip", .ref l2)]) rfl); (case kB => exact locs rfl); (case c2 => exact rfl); (case c3 => exact rfl); (case c4 => exact rfl); (case c5 => decide))
  intro g1 L1 h1' fr1 F1 N1 K1 lt1 X1 T1 st1 gk1
  simp only [List.nil_append] at N1 lt1
  have g1l : g1.get? l1 = some (lo vs n1) := gk1 _ _ h1 List.not_mem_nil nf1
  have g2l : g1.get? l2 = some (lo ws n2) := gk1 _ _ h2 List.not_mem_nil nf2
  k_steps
  k_dflt (refine ga_contains_N F1 N1 (F1.keep _ _ g2l) (fun q hq tkq F2 N2 lt2 => ?_))
  clear F1 N1
  k_steps
  have hmk : makesIn (lawTop.heap_39 w.params) 47 = true := by k_is
  have hin : findIn (lawTop.heap_39 w.params) (.ref 47) "__init__" = some (some (.ref 29)) := by k_is
  have hfn : typeIn (lawTop.heap_39 w.params) (.ref 29) = some (.type "function") := by k_is
  k_dflt (refine wpAny_call (make_K F2 N2 (X1.keeps F2.keep) hmk hin hfn (fun x dx h3 F3 N3 lt3 lt3' => ?_)))
  clear F2 N2
  have hns : findIn (lawTop.heap_39 w.params) (.ref 47) "__next__" = some (some (.ref 43)) := by k_is
  have hft : typeIn (lawTop.heap_39 w.params) (.ref 43) = some (.type "function") := by k_is
  have his : findIn (lawTop.heap_39 w.params) (.ref 47) "__iter__" = some (some (.ref 36)) := by k_is
  have hfi : typeIn (lawTop.heap_39 w.params) (.ref 36) = some (.type "function") := by k_is
  have hln : findIn (lawTop.heap_39 w.params) (.ref 47) "__len__" = some none := by k_is
  have hlh : findIn (lawTop.heap_39 w.params) (.ref 47) "__length_hint__" = some none := by k_is
  have gL : g1.get? L1 = none := kts_self F3
  have hx3 := N3 _ List.mem_cons_self
  have hdx3 := N3 _ (List.mem_cons_of_mem _ List.mem_cons_self)
  have hq3 := N3 _ (List.mem_cons_of_mem _ (List.mem_cons_of_mem _ List.mem_cons_self))
  have Nf3 : News g1 L1 h3 fr1 := fun p hp => N3 p (List.mem_cons_of_mem _ (List.mem_cons_of_mem _ (List.mem_cons_of_mem _ hp)))
  have xf : x ∉ fad fs := notIn_of_ne K1 fun p hp => Nat.ne_of_lt (Nat.lt_trans (lt3 p (List.mem_cons_of_mem _ hp)) lt3')
  have dxf : dx ∉ fad fs := notIn_of_ne K1 fun p hp => Nat.ne_of_lt (lt3 p (List.mem_cons_of_mem _ hp))
  have qf : q ∉ fad fs := notIn_of_ne K1 fun p hp => Nat.ne_of_lt (lt2 p hp)
  have l1L : l1 ≠ L1 := fun e => by rw [e, gL] at g1l; cases g1l
  have l2L : l2 ≠ L1 := fun e => by rw [e, gL] at g2l; cases g2l
  have bn : ∀ a, g1.get? a = none → b₀.get? a = none := fun a e => kts_none st1 e
  have cons_nf : ∀ a, a ≠ L1 → a ∉ fad fs → a ∉ L1 :: fad fs := fun a n1 n2 h => (List.mem_cons.mp h).elim n1 n2
  k_dflt (refine in_spec (fs := _ :: fs) (vs := vs) (n1 := n1) (cx_of C st1 F3 Nf3 K1 rfl (by intro e; cases e)) ?_ hx3.1 hdx3.1 (F3.keep _ _ g1l) ?_ (cons_nf _ l1L nf1) (fun I h4 tk4 U4 nI hI4 hx4 => ?_))
  · show dp + 1 + 1 + 4 < recursionLimit
    omega
  · intro p hp
    simp only [List.mem_cons, List.not_mem_nil, or_false] at hp
    rcases hp with rfl | rfl
    · exact ⟨cons_nf _ hx3.2.1 xf, bn _ hx3.2.2⟩
    · exact ⟨cons_nf _ hdx3.2.1 dxf, bn _ hdx3.2.2⟩
  · have xdx : x ≠ dx := Ne.symm (Nat.ne_of_lt lt3')
    have xq : x ≠ q := Ne.symm (Nat.ne_of_lt (Nat.lt_trans (lt3 _ List.mem_cons_self) lt3'))
    have N3m : News g1 L1 h3 ([(dx, dictOf [] 0), (q, mw l2)] ++ fr1) := fun p hp => N3 p (List.mem_cons_of_mem _ hp)
    obtain ⟨fr2, K2, F4, N4⟩ := after (made := [(dx, dictOf [] 0), (q, mw l2)]) F3 N3m K1 U4 (by
      intro p hp
      simp only [List.mem_cons, List.not_mem_nil, or_false] at hp
      rcases hp with rfl | rfl
      · exact ⟨fun e => xdx (List.mem_singleton.mp e).symm, dxf⟩
      · exact ⟨fun e => xq (List.mem_singleton.mp e).symm, qf⟩) (fun a ha => by rw [List.mem_singleton] at ha; subst ha; exact hx3.2.2) (fun e => hx3.2.1 (List.mem_singleton.mp e).symm)
    have gI : g1.get? I = none := kts_none F3.keep nI
    have IL : I ≠ L1 := fun e => by
      obtain ⟨oL, _, _, hL, _⟩ := F3.ns
      rw [e] at nI
      have nI' : h3.get? L1 = none := nI
      rw [hL] at nI'; cases nI'
    have If : I ∉ fad fs := fun e => by
      rw [← K1.1] at e
      obtain ⟨p, hp, e⟩ := List.mem_map.mp e
      have := (Nf3 p hp).1
      rw [e] at this
      have nI' : h3.get? I = none := nI
      rw [nI'] at this; cases this
    have N5 : News g1 L1 h4 ((I, itr l1 0) :: (x, fobj q I dx) :: (dx, dictOf [] 0) :: (q, mw l2) :: fr2) := fun p hp => by
      rcases List.mem_cons.mp hp with rfl | hp
      · exact ⟨hI4, IL, gI⟩
      · rcases List.mem_cons.mp hp with rfl | hp
        · exact ⟨hx4, hx3.2⟩
        · exact N4 p hp
    clear F3 N3 N3m Nf3
    refine ⟨rfl, ?_⟩
    k_steps
    have hx5 := N5 _ (List.mem_cons_of_mem _ List.mem_cons_self)
    have hdx5 := N5 _ (List.mem_cons_of_mem _ (List.mem_cons_of_mem _ List.mem_cons_self))
    have hq5 := N5 _ (List.mem_cons_of_mem _ (List.mem_cons_of_mem _ (List.mem_cons_of_mem _ List.mem_cons_self)))
    have Nf5 : News g1 L1 h4 fr2 := fun p hp => N5 p (List.mem_cons_of_mem _ (List.mem_cons_of_mem _ (List.mem_cons_of_mem _ (List.mem_cons_of_mem _ hp))))
    k_dflt (refine ls_spec (fs := _ :: fs) (x := x) (dx := dx) (q := q) (I := I) (l1 := l1) (l2 := l2) (n1 := n1) (n2 := n2) I1 I2 ?_ ?_ hbig (cx_of C st1 F4 Nf5 K2 rfl (by intro e; cases e)) ⟨hI4, hx4, hdx5.1, hq5.1, F4.keep _ _ g1l, F4.keep _ _ g2l⟩ ?_ ?_ (fun r rs n h5 tk5 U5 nr hr hrs => ?_) hns hft his hfi hln hlh)
    · show dp + 1 + 4 < recursionLimit
      omega
    · show un + 3 + 70 < cLine
      omega
    · intro a ha
      simp only [List.mem_cons, List.not_mem_nil, or_false] at ha
      rcases ha with rfl | rfl | rfl
      · exact ⟨cons_nf _ IL If, bn _ gI⟩
      · exact ⟨cons_nf _ hx5.2.1 xf, bn _ hx5.2.2⟩
      · exact ⟨cons_nf _ hdx5.2.1 dxf, bn _ hdx5.2.2⟩
    · intro a ha
      simp only [List.mem_cons, List.not_mem_nil, or_false] at ha
      rcases ha with rfl | rfl | rfl | rfl | rfl
      · exact cons_nf _ hx5.2.1 xf
      · exact cons_nf _ hdx5.2.1 dxf
      · exact cons_nf _ hq5.2.1 qf
      · exact cons_nf _ l1L nf1
      · exact cons_nf _ l2L nf2
    · have Nf5' : News g1 L1 h4 ([] ++ fr2) := Nf5
      obtain ⟨fr3, K3, F6, N6⟩ := after (made := []) F4 Nf5' K2 U5 (fun p hp => nomatch hp) (fun a ha => by rw [List.mem_singleton] at ha; subst ha; exact gI) (fun e => IL (List.mem_singleton.mp e).symm)
      refine ret r rs n h5 _ (up_of (fun b o e _ n2 => gk1 b o e List.not_mem_nil n2) F6 N6 K3) ?_ hr hrs
      have nr' : h4.get? r = none := nr
      have rf : r ∉ fad fs := fun e => by
        rw [← K2.1] at e
        obtain ⟨p, hp, e⟩ := List.mem_map.mp e
        have := (Nf5 p hp).1
        rw [e, nr'] at this; cases this
      exact fresh_of (fun b o e n2 => gk1 b o e List.not_mem_nil n2) (kts_none F4.keep nr') rf
end Mine
end
section
open PySem PySem.W PyProof.Rows PySem.Spec PySem.Calls
set_option maxRecDepth 100000
namespace Mine
section
variable {prog : Program} {w : World} {A : Around} {E : Value → Shared → Prop} {s : Shared} {env : Env} {h₀ : Heap} {L : Addr}
def ForEnd (h₀ : Heap) (L : Addr) (I : Addr) (oI : Obj) (J : (Str → Option Value) → List (Addr × Obj) → Prop) (s₁ s₂ : Shared) : Prop :=
  ∃ h' tk' m' news', s₂ = { s₁ with heap := h', toks := tk' } ∧ Fr h₀ L h' m' ∧ News h₀ L h' ((I, oI) :: news') ∧ (∀ p ∈ news', p.1 ≠ I) ∧ J m' news'
def ForPost (h₀ : Heap) (L : Addr) (I : Addr) (oI : Obj) (J : (Str → Option Value) → List (Addr × Obj) → Prop) (s₁ : Shared) (Q : Flow → Shared → Prop) (f : Flow) (s₂ : Shared) : Prop := match f with
  | .next | .cont => ForEnd h₀ L I oI J s₁ s₂
  | .brk => Q .next s₂
  | .ret v => Q (.ret v) s₂
def ForSrc (h₀ : Heap) (L : Addr) (J : Nat → (Str → Option Value) → List (Addr × Obj) → Prop) (s : Shared) (n : Nat) (xv : Value) (s₁ : Shared) : Prop :=
  ∃ r b t u v m news h tk, xv = .ref r ∧ s₁ = { s with heap := h, toks := tk } ∧ IsRange h r 0 b 1 t u v ∧ Builtin.Range.small 0 b 1 = true ∧ Builtin.Range.rangeSize 0 b 1 = ((n : Nat) : Int) ∧ Fr h₀ L h m ∧ News h₀ L h news ∧ J 0 m news
theorem for_range {x : Str} {px pos : Pos} {iter : Expr} {body : List Stmt} {Q : Flow → Shared → Prop} {n : Nat} (J : Nat → (Str → Option Value) → List (Addr × Obj) → Prop)
    (hh : A.handled = none)
    (h : wpAny (model prog w) A (eval iter env) (ForSrc h₀ L J s n) E s)
    (turn : ∀ i t m₁ news₁ I oI h tk, i < n → J i m₁ news₁ → Fr h₀ L h m₁ → News h₀ L h ((I, oI) :: news₁) → (∀ p ∈ news₁, p.1 ≠ I) →
      wpAny (model prog w) A (storeName env x (.int (i : Int) t)) (fun _ s₂ => wpAny (model prog w) A (execs body env) (ForPost h₀ L I oI (J (i + 1)) s Q) E s₂) E { s with heap := h, toks := tk })
    (done : ∀ m₁ news₁ h tk, J n m₁ news₁ → Fr h₀ L h m₁ → News h₀ L h news₁ → Q .next { s with heap := h, toks := tk })
    (hs : ∀ x, foldedSetIterable iter env x = pure x := by intro _; rfl) (hE : PassesOwn (model prog w) A env E := by passes_own) :
    wpAny (model prog w) A (exec (.For (.Name x px) iter body [] pos) env) Q E s := by
  refine wpAny_For (wpAny_mono h (fun xv s₁ h₁ => ?_) fun _ _ z => z) hs
  obtain ⟨r, b, t, u, v, m, news, hp, tk, rfl, rfl, hr, hsm, hn, F, N, hJ⟩ := h₁
  refine wpAny_pyIter_range hr hsm ?_
  dsimp only at hr F N ⊢
  have W := LCg.range_walks (prog := prog) (w := w) (A := A) (I := hp.objs.size) hh 0 n
  have up : ∀ c o, hp.get? c = some o → (hp.push { cls := .type "range_iterator", data := .fields #[rawInt 0, rawInt (Builtin.Range.rangeSize 0 b 1), rawInt 1] }).get? c = some o := fun c o e => Heap.get?_push_of_some _ e
  refine codeAny_forLoop (R := fun r s' => match r with | .ok f => Q f s' | .error e => cameBackBy (model prog w) A env E e s')
    (fun k s' => ∃ h' tk' i m' news' oI, s' = { s with heap := h', toks := tk' } ∧ i ≤ n ∧ k = n + 1 - i ∧ IsRangeIter h' hp.objs.size (0 + (i : Nat) * 1) ((n : Int) - (i : Nat)) 1 ∧ Fr h₀ L h' m' ∧ News h₀ L h' ((hp.objs.size, oI) :: news') ∧ (∀ p ∈ news', p.1 ≠ hp.objs.size) ∧ J i m' news') ?_ (n + 1) ?_
  · rintro k s' ⟨h', tk', i, m', news', oI, rfl, hi, rfl, hst, F', N', off, hJ'⟩
    have hI := N' _ List.mem_cons_self
    have Nr : News h₀ L h' news' := fun p hp => N' p (List.mem_cons_of_mem _ hp)
    by_cases hlt : i < n
    · refine wpAny_passesOwn hE (W.item i _ _ _ hlt hst fun v h₂ tk₂ hPv hst₂ hk₂ => ?_)
      obtain ⟨tv, rfl⟩ := hPv
      rw [Int.zero_add]
      have F₂ : Fr h₀ L h₂ m' := LCg.fr_but F' hk₂ (Ne.symm hI.2.1) hI.2.2
      have N₂ : News h₀ L h₂ news' := LCg.news_but Nr hk₂ off
      obtain ⟨o2, ho2⟩ : ∃ o2, h₂.get? hp.objs.size = some o2 := ⟨_, hst₂⟩
      have N₃ : News h₀ L h₂ ((hp.objs.size, o2) :: news') := fun p hp' => by
        rcases List.mem_cons.mp hp' with rfl | hp'
        · exact ⟨ho2, hI.2⟩
        · exact N₂ p hp'
      refine wpAny_passesOwn hE (wpAny_assign_Name (wpAny_mono (turn i tv m' news' _ o2 h₂ tk₂ hlt hJ' F₂ N₃ off) (fun _ s₂ h₂' => wpAny_passesOwn hE (wpAny_mono h₂' (fun f s₃ h₃ => ?_) fun _ _ z => z)) fun _ _ z => z))
      have fin : ForEnd h₀ L hp.objs.size o2 (J (i + 1)) s s₃ → ∃ m, m < n + 1 - i ∧ ∃ h' tk' i m' news' oI, s₃ = { s with heap := h', toks := tk' } ∧ i ≤ n ∧ m = n + 1 - i ∧ IsRangeIter h' hp.objs.size (0 + (i : Nat) * 1) ((n : Int) - (i : Nat)) 1 ∧ Fr h₀ L h' m' ∧ News h₀ L h' ((hp.objs.size, oI) :: news') ∧ (∀ p ∈ news', p.1 ≠ hp.objs.size) ∧ J i m' news' := by
        rintro ⟨h4, tk4, m4, news4, rfl, F4, N4, off4, hJ4⟩
        have e4 := (N4 _ List.mem_cons_self).1
        refine ⟨n + 1 - (i + 1), by omega, h4, tk4, i + 1, m4, news4, o2, rfl, hlt, rfl, ?_, F4, N4, off4, hJ4⟩
        have st' : h₂.get? hp.objs.size = some _ := hst₂
        show h4.get? hp.objs.size = some _
        rw [show h4.get? hp.objs.size = some o2 from e4, ← ho2]; exact st'
      cases f with
      | next => exact fin h₃
      | cont => exact fin h₃
      | brk => exact h₃
      | ret v => exact h₃
    · obtain rfl : i = n := Nat.le_antisymm hi (Nat.not_lt.mp hlt)
      refine wpAny_passesOwn hE (W.done _ _ _ hst fun h₂ tk₂ hk₂ => ?_)
      exact wpAny_execs_nil (done m' news' h₂ tk₂ hJ' (LCg.fr_but F' hk₂ (Ne.symm hI.2.1) hI.2.2) (LCg.news_but Nr hk₂ off))
  · refine ⟨_, _, 0, m, news, _, rfl, Nat.zero_le _, rfl, ?_, F.keeps up, News.push F N _ rfl, fun p hp' => Nat.ne_of_lt (Heap.lt_size (N p hp').1), hJ⟩
    show Heap.get? _ _ = _
    rw [hn]
    simpa using Heap.get?_push_size hp rfl
end
end Mine
end
section
open PySem PySem.W PyProof.Rows PySem.Spec PySem.Calls
set_option maxRecDepth 100000
namespace Mine
inductive LL (P : Addr → Obj → Prop) : List Value → List (List Int) → Prop
  | nil : LL P [] []
  | cons {a : Addr} {ws : List Value} {n : Nat} {l : List Int} {vs : List Value} {ls : List (List Int)} : P a (lo ws n) → IntsAre ws l → LL P vs ls → LL P (.ref a :: vs) (l :: ls)
theorem LL.imp {P P' : Addr → Obj → Prop} (h : ∀ a o, P a o → P' a o) : ∀ {vs : List Value} {ls : List (List Int)}, LL P vs ls → LL P' vs ls
  | _, _, .nil => .nil
  | _, _, .cons hp hi r => .cons (h _ _ hp) hi (r.imp h)
theorem LL.length {P : Addr → Obj → Prop} : ∀ {vs : List Value} {ls : List (List Int)}, LL P vs ls → vs.length = ls.length
  | _, _, .nil => rfl
  | _, _, .cons _ _ r => by rw [List.length_cons, List.length_cons, r.length]
theorem LL.append {P : Addr → Obj → Prop} : ∀ {vs us : List Value} {ls ms : List (List Int)}, LL P vs ls → LL P us ms → LL P (vs ++ us) (ls ++ ms)
  | _, _, _, _, .nil, h => h
  | _, _, _, _, .cons hp hi r, h => .cons hp hi (r.append h)
theorem LL.at {P : Addr → Obj → Prop} : ∀ {vs : List Value} {ls : List (List Int)}, LL P vs ls → ∀ (i : Nat) (v : Value), vs[i]? = some v → ∃ a ws n l, v = .ref a ∧ P a (lo ws n) ∧ IntsAre ws l ∧ ls[i]? = some l
  | _, _, .cons (a := a) (ws := ws) (n := n) (l := l) hp hi _, 0, v, e => by
    simp at e
    exact ⟨a, ws, n, l, e.symm, hp, hi, rfl⟩
  | _, _, .cons _ _ r, i + 1, v, e => by simpa using r.at i v (by simpa using e)
def dI (l : List Int) : PyData := .list (l.map PyData.int)
def dL (ls : List (List Int)) : PyData := .list (ls.map dI)
theorem LL.reads {P : Addr → Obj → Prop} {h : Heap} (hP : ∀ a o, P a o → h.get? a = some o) : ∀ {vs : List Value} {ls : List (List Int)}, LL P vs ls → ∃ as, ReadsAll h vs (ls.map dI) as
  | _, _, .nil => ⟨_, .nil⟩
  | _, _, .cons hp hi r => by
    obtain ⟨as, ra⟩ := r.reads hP
    exact ⟨_, .cons (reads_of_ints (isList_lo (hP _ _ hp)) hi) ra⟩
theorem lay_dI (l : List Int) : (dI l).canLay0 = true := by
  show PyData.canLay0 (.list _) = true
  simp only [PyData.canLay0]; exact canLayAll0_ints l
theorem layAll_dL : ∀ ls : List (List Int), PyData.canLayAll0 (ls.map dI) = true
  | [] => by simp [PyData.canLayAll0]
  | l :: r => by
    rw [List.map_cons]
    simp only [PyData.canLayAll0, lay_dI, layAll_dL r, Bool.and_self]
theorem depth_dI (l : List Int) : (dI l).depth ≤ 2 := by
  have := W.depthAll_ints l
  show PyData.depth (.list _) ≤ 2
  simp only [PyData.depth]; omega
theorem depthAll_dL : ∀ ls : List (List Int), PyData.depthAll (ls.map dI) ≤ 2
  | [] => by simp [PyData.depthAll]
  | l :: r => by
    have h1 := depthAll_dL r
    have h2 := depth_dI l
    rw [List.map_cons]
    simp only [PyData.depthAll]; omega
theorem shaped_dL (ls : List (List Int)) : SeqAt.shaped (dL ls) = true := by
  have h1 := depthAll_dL ls
  have h2 : PyData.depth (dL ls) ≤ 64 := by
    show PyData.depth (.list _) ≤ 64
    simp only [PyData.depth]; omega
  show (PyData.canLay0 (dL ls) && decide (PyData.depth (dL ls) ≤ 64)) = true
  rw [Bool.and_eq_true]
  exact ⟨by show PyData.canLay0 (.list _) = true; simp only [PyData.canLay0]; exact layAll_dL ls, decide_eq_true h2⟩
theorem eqv_dI (l m : List Int) : PyData.eqv (dI l) (dI m) = decide (l = m) := by
  show PyData.eqv (.list _) (.list _) = _
  simp only [PyData.eqv]; exact ked_eqvAll l m
theorem eqv_dL : ∀ ls ms : List (List Int), PyData.eqvAll (ls.map dI) (ms.map dI) = decide (ls = ms)
  | [], [] => by simp [PyData.eqvAll]
  | [], _ :: _ => by simp [PyData.eqvAll]
  | _ :: _, [] => by simp [PyData.eqvAll]
  | a :: r, b :: t => by
    simp only [List.map_cons, PyData.eqvAll, eqv_dI, eqv_dL r t]
    by_cases h : a = b <;> by_cases h' : r = t <;> simp [h, h']
section
variable {prog : Program} {w : World} {A : Around} {E : Value → Shared → Prop} {s : Shared} {a b : Addr} {vs us : List Value} {n k : Nat} {ls ms : List (List Int)} {P P' : Addr → Obj → Prop} {Q : Value → Shared → Prop}
theorem reads_LL {h : Heap} (ha : h.get? a = some (lo vs n)) (hP : ∀ a o, P a o → h.get? a = some o) (H : LL P vs ls) : ∃ as, Reads h (.ref a) (dL ls) as := by
  obtain ⟨as, r⟩ := H.reads hP
  exact ⟨_, Reads.list ha rfl rfl (by simpa using r)⟩
theorem eq_LL (ha : s.heap.get? a = some (lo vs n)) (hb : s.heap.get? b = some (lo us k)) (hP : ∀ a o, P a o → s.heap.get? a = some o) (hP' : ∀ a o, P' a o → s.heap.get? a = some o) (H : LL P vs ls) (H' : LL P' us ms) (hu : A.units + 64 < cLine)
    (h : Q (.bool (decide (ls = ms))) s) : wpAny (model prog w) A (compareOp .Eq (.ref a) (.ref b)) Q E s := by
  obtain ⟨as, ra⟩ := reads_LL ha hP H
  obtain ⟨bs, rb⟩ := reads_LL hb hP' H'
  refine eq_dataH ra rb (shaped_dL ls) (shaped_dL ms) hu ?_
  show Q (.bool (PyData.eqv (.list _) (.list _))) s
  simp only [PyData.eqv]
  rw [eqv_dL]; exact h
theorem ne_LL (ha : s.heap.get? a = some (lo vs n)) (hb : s.heap.get? b = some (lo us k)) (hP : ∀ a o, P a o → s.heap.get? a = some o) (hP' : ∀ a o, P' a o → s.heap.get? a = some o) (H : LL P vs ls) (H' : LL P' us ms) (hu : A.units + 64 < cLine)
    (h : Q (.bool (!decide (ls = ms))) s) : wpAny (model prog w) A (compareOp .NotEq (.ref a) (.ref b)) Q E s := by
  obtain ⟨as, ra⟩ := reads_LL ha hP H
  obtain ⟨bs, rb⟩ := reads_LL hb hP' H'
  refine ne_dataH ra rb (shaped_dL ls) (shaped_dL ms) hu ?_
  show Q (.bool (!PyData.eqv (.list _) (.list _))) s
  simp only [PyData.eqv]
  rw [eqv_dL]; exact h
end
section
variable {prog : Program} {w : World} {A : Around} {s s₀ : Shared} {g : Heap} {L : Addr} {m : Str → Option Value} {env : Env} {ct : Expr} {px : Pos} {x : Str} {scope : Scope} {cl : List (Str × Addr)} {S : List (Addr × Obj) → Prop} {Fin : List Value → List (Addr × Obj) → Prop} {made fr : List (Addr × Obj)} {as : List Addr}
/-- what a test of a comprehension gives back -/
def TestEnd (as : List Addr) (s₀ : Shared) (g : Heap) (L : Addr) (m : Str → Option Value) (top made : List (Addr × Obj)) (s₁ : Shared) (p : Bool) (b : Bool) (s' : Shared) : Prop :=
  ∃ h' tk' fr', b = p ∧ s' = { s₁ with heap := h', toks := tk' } ∧ FrL as s₀.heap fr' ∧ Fr g L h' m ∧ News g L h' (top ++ (made ++ fr'))
theorem crt_ind {vs : List Value} {ls : List (List Int)} {M : Addr → Obj → Prop} (p : List Int → Bool) (H : LL M vs ls)
    (hS : ∀ fr', FrL as s₀.heap fr' → S (made ++ fr'))
    (hl : ∀ C, (compEnvC scope cl C env).scope.kind = .function ∧ (compEnvC scope cl C env).kindOf x = some .local) (hxd : (x == ("__debug__" : Str)) = false)
    (turn : ∀ a ws n l fr' I oI C oC D ys m₂ h tk (E' : Value → Shared → Prop), M a (lo ws n) → IntsAre ws l → l ∈ ls → FrL as s₀.heap fr' → LCg.NsObj oC m₂ → m₂ x = some (.ref a) → Fr g L h m → News g L h ((I, oI) :: (C, oC) :: (D, LCg.lst ys) :: (made ++ fr')) → LCg.Off3 I C D (made ++ fr') → ((@Ne Nat I C) ∧ (@Ne Nat I D) ∧ (@Ne Nat C D)) →
      wpAny (model prog w) A (isTrue ct (compEnvC scope cl C env) (eval ct (compEnvC scope cl C env))) (TestEnd as s₀ g L m [(I, oI), (C, oC), (D, LCg.lst ys)] made { s with heap := h, toks := tk } (p l)) E' { s with heap := h, toks := tk })
    (fin : ∀ ys fr', FrL as s₀.heap fr' → LL M ys (ls.filter p) → Fin ys (made ++ fr')) (hfr : FrL as s₀.heap fr) :
    LCt.CompRestT prog w A g L m env ct (.Name x px) x scope cl s S (fun i v => vs.toArray[i]? = some v) Fin vs.toArray.size 0 [] (made ++ fr) := by
  have key : ∀ (j i : Nat) (ys : List Value) (fr' : List (Addr × Obj)), i + j = vs.length → FrL as s₀.heap fr' → LL M ys ((ls.take i).filter p) →
      LCt.CompRestT prog w A g L m env ct (.Name x px) x scope cl s S (fun i v => vs.toArray[i]? = some v) Fin j i ys (made ++ fr') := by
    intro j
    induction j with
    | zero =>
      intro i ys fr' hi hf hy
      have : ls.take i = ls := by rw [List.take_of_length_le]; rw [← H.length]; omega
      rw [this] at hy
      exact LCt.CompRestT.zero (fin ys fr' hf hy)
    | succ j ih =>
      intro i ys fr' hi hf hy
      refine LCt.CompRestT.succ ?_
      intro v I oI C oC D m₂ h tk E' hv hC hx F N off ne
      obtain ⟨a, ws, n, l, rfl, hM, hI, hl'⟩ := H.at i v (by simpa using hv)
      have htake : (ls.take (i + 1)).filter p = (ls.take i).filter p ++ (if p l = true then [l] else []) := by
        rw [List.take_add_one, hl', List.filter_append]
        simp [List.filter_cons]
      refine wpAny_mono (turn a ws n l fr' I oI C oC D ys m₂ h tk E' hM hI (List.mem_of_getElem? hl') hf hC hx F N off ne) (fun b s₂ hq => ?_) fun _ _ e => e
      obtain ⟨h', tk', fr'', rfl, rfl, hf', F', N'⟩ := hq
      have hadr : (made ++ fr').map (·.1) = (made ++ fr'').map (·.1) := by rw [List.map_append, List.map_append, hf.1, hf'.1]
      have off' : LCg.Off3 I C D (made ++ fr'') := LCg.Off3.of fun q hq => by
        have hq' : q.1 ∈ (made ++ fr').map (·.1) := hadr ▸ List.mem_map_of_mem hq
        obtain ⟨q', hq2, e⟩ := List.mem_map.mp hq'
        have := off.mem q' hq2
        rw [e] at this; exact this
      cases hb : p l with
      | true =>
        simp only [if_true]
        refine LCgL.ld_own N' (List.mem_cons_of_mem _ List.mem_cons_self) hC hx ?_ (hl C).1 (hl C).2 hxd
        refine LCg.CompEnd.intro F' N' (made ++ fr'') (fun _ h => h) off' (hS _ hf') ?_
        refine ih (i + 1) _ fr'' (by omega) hf' ?_
        rw [htake, hb, if_pos rfl]
        exact hy.append (.cons hM hI .nil)
      | false =>
        simp only [Bool.false_eq_true, if_false]
        refine LCg.CompEnd.intro F' N' (made ++ fr'') (fun _ h => h) off' (hS _ hf') ?_
        refine ih (i + 1) _ fr'' (by omega) hf' ?_
        rw [htake, hb, if_neg (by decide), List.append_nil]
        exact hy
  have := key vs.length 0 [] fr (by omega) hfr (by simpa using LL.nil)
  rw [List.size_toArray]
  exact this
end
end Mine
end
section
open PySem PySem.W PyProof.Rows PySem.Spec PySem.Calls
set_option maxRecDepth 100000
namespace Mine
def noneOf (p l : List Int) : Bool := decide (l.filter (ffp p) = [])
def allOf (p l : List Int) : Bool := decide (l.filter (ffp p) = l)
def blockStep (fam found : List (List Int)) (c : Int) : List (List Int) :=
  if found.filter (noneOf (points c)) = [] then if fam.filter (allOf (points c)) = [] then found ++ [points c] else found else found
theorem bs_skip1 {fam found : List (List Int)} {c : Int} (h : ¬ found.filter (noneOf (points c)) = []) : blockStep fam found c = found := by
  unfold blockStep; rw [if_neg h]
theorem bs_skip2 {fam found : List (List Int)} {c : Int} (h2 : ¬ fam.filter (allOf (points c)) = []) : blockStep fam found c = found := by
  unfold blockStep; rw [if_neg h2]; split <;> rfl
theorem bs_add {fam found : List (List Int)} {c : Int} (h : found.filter (noneOf (points c)) = []) (h2 : fam.filter (allOf (points c)) = []) : blockStep fam found c = found ++ [points c] := by
  unfold blockStep; rw [if_pos h, if_pos h2]
def blockerF (fam : List (List Int)) : List (List Int) := (rangeKs 0 16).foldl (blockStep fam) []
def bkM (S lf : Addr) (u : Str → Option Value) : Str → Option Value := fun y => if y = Str.ofString "code" then u y else if y = Str.ofString "found" then some (.ref S) else if y = Str.ofString "family" then some (.ref lf) else none
def bkJ (S L lf : Addr) (fs : List Env) (s : Shared) (fam : List (List Int)) (i : Nat) (m : Str → Option Value) (nw : List (Addr × Obj)) : Prop :=
  ∃ (fv : List Value) (n : Nat) (pl fr : List (Addr × Obj)) (u : Str → Option Value) (oc : Obj), nw = (S, lo fv n) :: (L + 1, oc) :: (pl ++ fr) ∧ FrL (fad fs) s.heap fr ∧ (∃ v, oc.data = .cell v) ∧ (∀ p ∈ pl, p.1 ≠ S ∧ p.1 ≠ L + 1 ∧ p.1 ∉ fad fs) ∧
    LL (fun a o => (a, o) ∈ pl) fv (((rangeKs 0 16).take i).foldl (blockStep fam) []) ∧ fv.length ≤ i ∧ (∀ l ∈ ((rangeKs 0 16).take i).foldl (blockStep fam) [], l.length ≤ 1000) ∧ m = bkM S lf u
theorem range_step {β : Type} (f : β → Int → β) (b : β) {i : Nat} (hi : i < 16) : ((rangeKs 0 16).take (i + 1)).foldl f b = f (((rangeKs 0 16).take i).foldl f b) (i : Int) := by
  have : (rangeKs 0 16)[i]? = some (i : Int) := by simp [rangeKs, hi]
  rw [List.take_add_one, this]
  simp
theorem points_len (c : Int) : (points c).length ≤ 4 := by
  have := kpf_len (g := fun l k => if bit c k then l ++ [k] else l) (fun l k => by
    split
    · rw [List.length_append]; exact Nat.le_refl _
    · exact Nat.le_succ _) (rangeKs 0 4) []
  simpa [points, rangeKs] using this
theorem bk_end {g1 : Heap} {S L1 lf I : Addr} {oI : Obj} {fs : List Env} {s s₁ : Shared} {fam : List (List Int)} {i : Nat} {Q : Flow → Shared → Prop} {h' : Heap} {tk' : Nat} {u : Str → Option Value} {m' : Str → Option Value} {fv2 : List Value} {n2 : Nat} {oc2 : Obj} {pl2 fr2 : List (Addr × Obj)} {v2 : Option Value}
    (hi : i < 16) (K2 : FrL (fad fs) s.heap fr2) (F : Fr g1 L1 h' m') (hm : m' = bkM S lf u) (N : News g1 L1 h' ((I, oI) :: (S, lo fv2 n2) :: (L1 + 1, oc2) :: (pl2 ++ fr2))) (dc2 : oc2.data = .cell v2)
    (hpl2 : ∀ p ∈ pl2, p.1 ≠ S ∧ p.1 ≠ L1 + 1 ∧ p.1 ∉ fad fs) (hplI : ∀ p ∈ pl2, p.1 ≠ I) (SI : S ≠ I) (cI : L1 + 1 ≠ I) (If : I ∉ fad fs)
    (HL2 : LL (fun a o => (a, o) ∈ pl2) fv2 (blockStep fam (((rangeKs 0 16).take i).foldl (blockStep fam) []) (i : Int))) (hlen : fv2.length ≤ i + 1) (hll : ∀ l ∈ blockStep fam (((rangeKs 0 16).take i).foldl (blockStep fam) []) (i : Int), l.length ≤ 1000) :
    ForPost g1 L1 I oI (bkJ S L1 lf fs s fam (i + 1)) s₁ Q .next { s₁ with heap := h', toks := tk' } := by
  refine ⟨h', tk', m', _, rfl, F, N, fun p hp => ?_, fv2, n2, pl2, fr2, u, oc2, rfl, K2, ⟨v2, dc2⟩, hpl2, ?_, hlen, ?_, hm⟩
  · rcases List.mem_cons.mp hp with rfl | hp
    · exact SI
    rcases List.mem_cons.mp hp with rfl | hp
    · exact cI
    rcases List.mem_append.mp hp with hp | hp
    · exact hplI p hp
    · exact fr_ne K2 If p hp
  · rw [range_step _ _ hi]; exact HL2
  · rw [range_step _ _ hi]; exact hll
theorem bkM_code (S lf : Addr) (u : Str → Option Value) (v : Value) : (fun y => if y = Str.ofString "code" then some v else if y = Str.ofString "code" then u y else if y = Str.ofString "found" then some (Value.ref S) else if y = Str.ofString "family" then some (Value.ref lf) else none) = bkM S lf (fun _ => some v) := by
  funext y
  unfold bkM
  by_cases h1 : y = Str.ofString "code"
  · rw [if_pos h1, if_pos h1]
  · rw [if_neg h1, if_neg h1, if_neg h1]
local macro_rules | `(tactic| k_all) => `(tactic| assumption)
local macro_rules | `(tactic| walk_at "eval ListComp") => `(tactic| (k_here; lct_look; k_dflt (refine LCt.ListComp_T (F₀ := by k_asm) (by with_unfolding_all rfl) (by decide) (by rfl) (by decide) (by rfl) ?_)))
set_option maxHeartbeats 8000000 in
theorem bk_spec {w : World} {mean : ExcName → Option Value} {mg mb : Str → Option Value} {dp un : Nat} {gd : Option (List Code)} {fs : List Env} {b₀ : Heap} {s : Shared} {Q E : Value → Shared → Prop} {lf : Addr} {nf : Nat} {fv : List Value} {fam : List (List Int)}
    (C : Cx w mean mg mb b₀ fs s.heap) (hd : dp + 16 < recursionLimit) (hu : un + 200 < cLine) (hlf : s.heap.get? lf = some (lo fv nf)) (lff : lf ∉ fad fs) (HF : LL (fun a o => s.heap.get? a = some o ∧ a ∉ fad fs) fv fam) (hbig : fam.length ≤ 1000) (hbl : ∀ l ∈ fam, l.length ≤ 1000)
    (ret : ∀ r rs n h' tk', Up [] (fad fs) s.heap h' → s.heap.get? r = none → h'.get? r = some (lo rs n) → LL (fun a o => h'.get? a = some o ∧ s.heap.get? a = none) rs (blockerF fam) → Q (.ref r) { s with heap := h', toks := tk' }) :
    wpAny (model PR w) (aTop dp un gd fs) (call (.ref 68) [.ref lf]) Q E s := by
  have hT : (lawTop.heap_39 w.params).In b₀ ∧ PR = PySem.Challenge.rw_ik0010_01.row.prog := ⟨C.X, rfl⟩
  revert hT
  w_top off
  k_fill
  intro hT
  clear hT
  k_dflt (refine wpAny_call ?_)
  k_dflt (refine' enterC C ?k8 ?k6 ?k7 ?k9 ?kB ?kD ?_ ?c2 ?c3 ?c4; (case k6 => k_is); (case k7 => k_is); (case k8 => ktr_room); (case k9 => exact BindsTo.of_eq (binds := [(Str.ofString "family", Value.ref lf)]) rfl); (case kB => exact rfl); (case kD => decide +kernel); (case c2 => exact rfl); (case c3 => exact rfl); (case c4 => exact rfl))
  intro g1 L1 h1 tk1 fr1 cells F1 N1 Y1 K1 lt1 X1 T1 st1 gk1
  have hY := CellsAre.one Y1
  obtain ⟨o1, hE, d1⟩ := hY
  subst hE
  clear Y1
  simp only [List.cons_append, List.nil_append] at N1
  replace d1 : o1.data = .cell none := d1
  replace F1 : Fr g1 L1 h1 (fun y => if y = Str.ofString "family" then some (Value.ref lf) else none) := F1
  iterate 8 (first | walk1 | (dsimp only; walk1))
  rename_i S hS1 lS hS2 F2 N2
  have gL : g1.get? L1 = none := kts_self F2
  have Sf : S ∉ fad fs := notIn_of_ne K1 fun p hp => Nat.ne_of_lt ((ktn_ltOf lS.2) p hp)
  have cf : L1 + 1 ∉ fad fs := notIn_of_ne K1 fun p hp => Nat.ne_of_lt (Nat.lt_succ_of_lt (lt1 p hp))
  have Sc : S ≠ L1 + 1 := Ne.symm (Nat.ne_of_lt lS.1)
  have F3 : Fr g1 L1 hS2 (bkM S lf (fun _ => none)) := by
    have e : (bkM S lf (fun _ => none)) = (fun y => if y = Str.ofString "found" then some (Value.ref S) else if y = Str.ofString "family" then some (Value.ref lf) else none) := by
      funext y
      unfold bkM
      by_cases h1 : y = Str.ofString "code"
      · subst h1; rfl
      · rw [if_neg h1]
    rw [e]; exact F2
  clear F2
  k_dflt (refine for_range (h₀ := g1) (L := L1) (n := 16) (bkJ S L1 lf fs s fam) rfl ?_ ?_ ?_)
  · k_steps
    rename IsRange _ _ _ _ _ _ _ _ => hR
    rename Fr g1 L1 _ _ => F4
    rename News g1 L1 _ _ => N4
    refine ⟨_, _, _, _, _, _, _, _, _, rfl, rfl, hR, by decide, rfl, F4, N4, [], 0, [], fr1, fun _ => none, o1, rfl, K1, ⟨_, d1⟩, fun p hp => (nomatch hp), LL.nil, Nat.zero_le _, fun l hl => (nomatch hl), rfl⟩
  · rintro i t m₁ news₁ I oI h tk hi ⟨fv', nS, pl, fr', u, oc, rfl, K', ⟨v0, dc⟩, hpl, HL, hlen, hll, rfl⟩ F4 N4 off4
    unfold bkM at F4
    k_steps
    rename Fr g1 L1 _ _ => F5
    rename News g1 L1 _ _ => N5
    have mI := N5 _ List.mem_cons_self
    have If : I ∉ fad fs := notIn_of_ne K' fun p hp => off4 p (List.mem_cons_of_mem _ (List.mem_cons_of_mem _ (List.mem_append_right _ hp)))
    have Nf5 : News g1 L1 _ fr' := fun p hp => N5 p (List.mem_cons_of_mem _ (List.mem_cons_of_mem _ (List.mem_cons_of_mem _ (List.mem_append_right _ hp))))
    have N5m : News g1 L1 _ (((I, oI) :: (S, lo fv' nS) :: (L1 + 1, oc) :: pl) ++ fr') := N5
    k_dflt (refine lp_spec (fs := _ :: fs) (by omega) (by omega) (cx_of C st1 F5 Nf5 K' rfl (by intro e; cases e)) ?_ ?_ (fun r ws h6 tk6 U6 nr hr hws => ?_))
    · show dp + 1 + 4 < recursionLimit
      omega
    · show un + 3 + 64 < cLine
      omega
    have apm : ∀ p ∈ ((I, oI) :: (S, lo fv' nS) :: (L1 + 1, oc) :: pl), p.1 ∉ ([] : List Addr) ∧ p.1 ∉ fad fs := by
      intro p hp
      refine ⟨List.not_mem_nil, ?_⟩
      rcases List.mem_cons.mp hp with rfl | hp
      · exact If
      rcases List.mem_cons.mp hp with rfl | hp
      · exact Sf
      rcases List.mem_cons.mp hp with rfl | hp
      · exact cf
      exact (hpl p hp).2.2
    obtain ⟨fr6, K6, F6, N6⟩ := after F5 N5m K' U6 apm (fun a ha => nomatch ha) List.not_mem_nil
    have nr' : ∀ a o, Heap.get? _ a = some o → a ≠ r := fun a o e q => by rw [q] at e; exact absurd (e.symm.trans nr) (by simp)
    have rL : r ≠ L1 := fun e => by
      obtain ⟨oL, _, _, hL, _⟩ := F5.ns
      exact nr' _ _ hL e.symm
    have rg : g1.get? r = none := kts_none F5.keep nr
    have rm : ∀ p ∈ ((I, oI) :: (S, lo fv' nS) :: (L1 + 1, oc) :: pl) ++ fr', p.1 ≠ r := fun p hp => nr' _ _ (N5m p hp).1
    have rf : r ∉ fad fs := notIn_of_ne K' fun p hp => rm p (List.mem_append_right _ hp)
    have N7 : News g1 L1 h6 ((r, LCg.lst ws) :: (I, oI) :: (S, lo fv' nS) :: (L1 + 1, oc) :: (pl ++ fr6)) := fun p hp => by
      rcases List.mem_cons.mp hp with rfl | hp
      · exact ⟨hr, rL, rg⟩
      · exact N6 p hp
    have q1 : @Ne Nat r (L1 + 1) := Ne.symm (rm (L1 + 1, oc) (by simp))
    have q2 : @Ne Nat I (L1 + 1) := Ne.symm (off4 (L1 + 1, oc) (by simp))
    have q3 : @Ne Nat S (L1 + 1) := Sc
    have q4 : ∀ p ∈ pl ++ fr6, p.1 ≠ L1 + 1 := fun p hp => by
      rcases List.mem_append.mp hp with hp | hp
      · exact (hpl p hp).2.1
      · exact fr_ne K6 cf p hp
    clear F5 N5 N5m Nf5 N6
    k_steps
    rename Fr g1 L1 _ _ => F8
    rename News g1 L1 _ _ => N8
    rename Obj.data _ = Data.cell (some (Value.ref r)) => d8
    rename_i oc8
    have ap2 : ∀ p ∈ (r, LCg.lst ws) :: (I, oI) :: (S, lo fv' nS) :: (L1 + 1, oc8) :: pl, p.1 ∉ ([] : List Addr) ∧ p.1 ∉ fad fs := by
      intro p hp
      refine ⟨List.not_mem_nil, ?_⟩
      rcases List.mem_cons.mp hp with rfl | hp
      · exact rf
      rcases List.mem_cons.mp hp with rfl | hp
      · exact If
      rcases List.mem_cons.mp hp with rfl | hp
      · exact Sf
      rcases List.mem_cons.mp hp with rfl | hp
      · exact cf
      exact (hpl p hp).2.2
    k_dflt (refine LCt.CompSrcT.ledger (by rfl) F8 N8 (its := fv'.toArray) (k := nS) (by simp) (by rw [List.size_toArray, sizeLine_eq]; omega) ?_)
    intro g9
    k_dflt (refine crt_ind (as := fad fs) (s₀ := s) (made := (r, LCg.lst ws) :: (I, oI) :: (S, lo fv' nS) :: (L1 + 1, oc8) :: pl) (fr := fr6) (noneOf (points i)) HL ?_ (fun C => ⟨rfl, rfl⟩) (by decide) ?_ ?_ K6)
    · intro frx _
      exact .inr ⟨lo fv' nS, List.mem_cons_of_mem _ (List.mem_cons_of_mem _ List.mem_cons_self), rfl, nS, rfl⟩
    · intro a wsa na l frx I2 oI2 C2 oC2 D2 ysx m2 hh tkx E2 hMa hIa hla hfx hC2 hm2 F9 N9 off9 ne9
      k_steps
      have ap9 : ∀ p ∈ (I2, oI2) :: (C2, oC2) :: (D2, LCg.lst ysx) :: (r, LCg.lst ws) :: (I, oI) :: (S, lo fv' nS) :: (L1 + 1, oc8) :: pl, p.1 ∉ ([] : List Addr) ∧ p.1 ∉ fad fs := by
        intro p hp
        rcases List.mem_cons.mp hp with rfl | hp
        · exact ⟨List.not_mem_nil, notIn_of_ne hfx fun p hp => (off9.mem p (List.mem_append_right _ hp)).1⟩
        rcases List.mem_cons.mp hp with rfl | hp
        · exact ⟨List.not_mem_nil, notIn_of_ne hfx fun p hp => (off9.mem p (List.mem_append_right _ hp)).2.1⟩
        rcases List.mem_cons.mp hp with rfl | hp
        · exact ⟨List.not_mem_nil, notIn_of_ne hfx fun p hp => (off9.mem p (List.mem_append_right _ hp)).2.2⟩
        exact ap2 p hp
      have N9m : News g1 L1 hh (((I2, oI2) :: (C2, oC2) :: (D2, LCg.lst ysx) :: (r, LCg.lst ws) :: (I, oI) :: (S, lo fv' nS) :: (L1 + 1, oc8) :: pl) ++ frx) := N9
      have Nf9 : News g1 L1 hh frx := fun p hp => N9m p (List.mem_append_right _ hp)
      have ma := N9m (a, lo wsa na) (by simp [hMa])
      have mr := N9m (r, lo ws ws.length) (by simp)
      k_dflt (refine fi_spec (fs := _ :: fs) hIa hws (hll l hla) (cx_of C st1 F9 Nf9 hfx rfl (by intro e; cases e)) ?_ ?_ ma.1 mr.1 ?_ ?_ (fun r2 rs2 n2 h10 tk10 U10 nr2 hr2 hrs2 => ?_))
      · show dp + 1 + 8 < recursionLimit
        omega
      · show un + 3 + 100 < cLine
        omega
      · exact fun hm => (List.mem_cons.mp hm).elim ma.2.1 (ap2 (a, lo wsa na) (by simp [hMa])).2
      · exact fun hm => (List.mem_cons.mp hm).elim rL rf
      obtain ⟨fr10, K10, F10, N10⟩ := after F9 N9m hfx U10 ap9 (fun a ha => nomatch ha) List.not_mem_nil
      have hr2g : g1.get? r2 = none := kts_none F9.keep nr2
      have hr2L : r2 ≠ L1 := fun e => by
        obtain ⟨oL, _, _, hL, _⟩ := F9.ns
        have := nr2
        rw [e] at this
        exact absurd (hL.symm.trans this) (by simp)
      have N11 : News g1 L1 h10 ((r2, lo rs2 n2) :: (I2, oI2) :: (C2, oC2) :: (D2, LCg.lst ysx) :: (r, LCg.lst ws) :: (I, oI) :: (S, lo fv' nS) :: (L1 + 1, oc8) :: (pl ++ fr10)) := fun p hp => by
        rcases List.mem_cons.mp hp with rfl | hp
        · exact ⟨hr2, hr2L, hr2g⟩
        · exact N10 p hp
      clear F9 N9 N9m Nf9 N10
      k_steps
      rename Fr g1 L1 _ _ => F12
      rename News g1 L1 _ _ => N12
      exact ⟨_, _, fr10, rfl, rfl, K10, F12, fun p hp => N12 p (List.mem_cons_of_mem _ (List.mem_cons_of_mem _ hp))⟩
    · intro ys frz hfz hLL
      unfold LCg.FinE
      intro D h13 tk13 F13 N13 off13
      dsimp only
      iterate 3 (first | walk1 | (dsimp only; walk1))
      rename Fr g1 L1 _ _ => F14
      rename News g1 L1 _ _ => N14
      k_dflt (refine eq_LL (P := fun a o => (a, o) ∈ pl) (P' := fun _ _ => False) (N14 (D, lo ys ys.length) (by simp)).1 (N14 _ List.mem_cons_self).1 (fun a o hm => (N14 (a, o) (by simp [hm])).1) (fun _ _ h => h.elim) hLL LL.nil ?_ ?_)
      · show un + 3 + 64 < cLine
        omega
      by_cases hcond : (((rangeKs 0 16).take i).foldl (blockStep fam) []).filter (noneOf (points i)) = []
      · rw [decide_eq_true hcond]
        have N15 : News g1 L1 _ ((r, LCg.lst ws) :: (I, oI) :: (S, lo fv' nS) :: (L1 + 1, oc8) :: (pl ++ frz)) := fun p hp => N14 p (List.mem_cons_of_mem _ (List.mem_cons_of_mem _ hp))
        clear N14 off13
        k_steps
        rename Fr g1 L1 _ _ => F16
        rename News g1 L1 _ _ => N16
        have glf : g1.get? lf = some (lo fv nf) := gk1 _ _ hlf lff
        have HFg : LL (fun a o => g1.get? a = some o) fv fam := HF.imp fun a o h => gk1 a o h.1 h.2
        k_dflt (refine LCt.CompSrcT.base (by rfl) F16 N16 (its := fv.toArray) (isList_lo glf) (by rw [List.size_toArray, sizeLine_eq, HF.length]; omega) ?_)
        intro g17
        k_dflt (refine crt_ind (as := fad fs) (s₀ := s) (made := (r, LCg.lst ws) :: (I, oI) :: (S, lo fv' nS) :: (L1 + 1, oc8) :: pl) (fr := frz) (allOf (points i)) HFg ?_ (fun C => ⟨rfl, rfl⟩) (by decide) ?_ ?_ hfz)
        · intro frx _
          exact .inl (isList_lo glf)
        · intro a wsa na l frx I2 oI2 C2 oC2 D2 ysx m2 hh tkx E2 hMa hIa hla hfx hC2 hm2 F9 N9 off9 ne9
          k_steps
          have ap9 : ∀ p ∈ (I2, oI2) :: (C2, oC2) :: (D2, LCg.lst ysx) :: (r, LCg.lst ws) :: (I, oI) :: (S, lo fv' nS) :: (L1 + 1, oc8) :: pl, p.1 ∉ ([] : List Addr) ∧ p.1 ∉ fad fs := by
            intro p hp
            rcases List.mem_cons.mp hp with rfl | hp
            · exact ⟨List.not_mem_nil, notIn_of_ne hfx fun p hp => (off9.mem p (List.mem_append_right _ hp)).1⟩
            rcases List.mem_cons.mp hp with rfl | hp
            · exact ⟨List.not_mem_nil, notIn_of_ne hfx fun p hp => (off9.mem p (List.mem_append_right _ hp)).2.1⟩
            rcases List.mem_cons.mp hp with rfl | hp
            · exact ⟨List.not_mem_nil, notIn_of_ne hfx fun p hp => (off9.mem p (List.mem_append_right _ hp)).2.2⟩
            exact ap2 p hp
          have N9m : News g1 L1 hh (((I2, oI2) :: (C2, oC2) :: (D2, LCg.lst ysx) :: (r, LCg.lst ws) :: (I, oI) :: (S, lo fv' nS) :: (L1 + 1, oc8) :: pl) ++ frx) := N9
          have Nf9 : News g1 L1 hh frx := fun p hp => N9m p (List.mem_append_right _ hp)
          have mr := N9m (r, lo ws ws.length) (by simp)
          have af : a ∉ fad fs := fun hm => by
            rw [← hfx.1] at hm
            obtain ⟨p, hp, rfl⟩ := List.mem_map.mp hm
            have := (Nf9 p hp).2.2
            rw [hMa] at this; cases this
          have aL : a ≠ L1 := fun e => by rw [e, gL] at hMa; cases hMa
          k_dflt (refine fi_spec (fs := _ :: fs) hIa hws (hbl l hla) (cx_of C st1 F9 Nf9 hfx rfl (by intro e; cases e)) ?_ ?_ (F9.keep _ _ hMa) mr.1 ?_ ?_ (fun r2 rs2 n2 h10 tk10 U10 nr2 hr2 hrs2 => ?_))
          · show dp + 1 + 8 < recursionLimit
            omega
          · show un + 3 + 100 < cLine
            omega
          · exact fun hm => (List.mem_cons.mp hm).elim aL af
          · exact fun hm => (List.mem_cons.mp hm).elim rL rf
          obtain ⟨fr10, K10, F10, N10⟩ := after F9 N9m hfx U10 ap9 (fun a ha => nomatch ha) List.not_mem_nil
          have hr2g : g1.get? r2 = none := kts_none F9.keep nr2
          have hr2L : r2 ≠ L1 := fun e => by
            obtain ⟨oL, _, _, hL, _⟩ := F9.ns
            have := nr2
            rw [e] at this
            exact absurd (hL.symm.trans this) (by simp)
          have N11 : News g1 L1 h10 ((r2, lo rs2 n2) :: (I2, oI2) :: (C2, oC2) :: (D2, LCg.lst ysx) :: (r, LCg.lst ws) :: (I, oI) :: (S, lo fv' nS) :: (L1 + 1, oc8) :: (pl ++ fr10)) := fun p hp => by
            rcases List.mem_cons.mp hp with rfl | hp
            · exact ⟨hr2, hr2L, hr2g⟩
            · exact N10 p hp
          clear F9 N9 N9m Nf9 N10
          iterate 1 (first | walk1 | (dsimp only; walk1))
          rename Fr g1 L1 _ _ => F12
          rename News g1 L1 _ _ => N12
          k_dflt (refine W.ke_eq_ints (isList_lo (N12 (r2, lo rs2 n2) (by simp)).1) (isList_lo (F12.keep _ _ hMa)) hrs2 hIa ?_ ?_)
          · show un + 3 + 64 < cLine
            omega
          k_steps
          exact ⟨_, _, fr10, rfl, rfl, K10, F12, fun p hp => N12 p (List.mem_cons_of_mem _ hp)⟩
        · intro ys2 frz2 hfz2 hLL2
          unfold LCg.FinE
          intro D3 h18 tk18 F18 N18 off18
          dsimp only
          iterate 3 (first | walk1 | (dsimp only; walk1))
          rename Fr g1 L1 _ _ => F19
          rename News g1 L1 _ _ => N19
          k_dflt (refine eq_LL (P := fun a o => g1.get? a = some o) (P' := fun _ _ => False) (N19 (D3, lo ys2 ys2.length) (by simp)).1 (N19 _ List.mem_cons_self).1 (fun a o hm => F19.keep a o hm) (fun _ _ h => h.elim) hLL2 LL.nil ?_ ?_)
          · show un + 3 + 64 < cLine
            omega
          have N20 : News g1 L1 _ ((r, LCg.lst ws) :: (I, oI) :: (S, lo fv' nS) :: (L1 + 1, oc8) :: (pl ++ frz2)) := fun p hp => N19 p (List.mem_cons_of_mem _ (List.mem_cons_of_mem _ hp))
          clear N19 off18
          by_cases hcond2 : fam.filter (allOf (points i)) = []
          · rw [decide_eq_true hcond2]
            have q5 : @Ne Nat r S := Ne.symm (rm (S, lo fv' nS) (by simp))
            have q6 : @Ne Nat I S := Ne.symm (off4 (S, lo fv' nS) (by simp))
            have q7 : ∀ p ∈ pl ++ frz2, p.1 ≠ S := fun p hp => by
              rcases List.mem_append.mp hp with hp | hp
              · exact (hpl p hp).1
              · exact fr_ne hfz2 Sf p hp
            k_steps
            rename Fr g1 L1 _ _ => F21
            rename News g1 L1 _ _ => N21
            have e22 : W.listOf (fv'.toArray.push (Value.ref r)) (nS + 1) = lo (fv' ++ [Value.ref r]) (nS + 1) := by
              show ({ cls := .type "list", data := .seq (fv'.toArray.push (Value.ref r)) (nS + 1) } : Obj) = { cls := .type "list", data := .seq (fv' ++ [Value.ref r]).toArray (nS + 1) }
              rw [List.push_toArray]
            rw [e22] at N21
            have hpl' : ∀ p ∈ (r, LCg.lst ws) :: pl, p.1 ≠ S ∧ p.1 ≠ L1 + 1 ∧ p.1 ∉ fad fs := fun p hp => by
              rcases List.mem_cons.mp hp with rfl | hp
              · exact ⟨q5, q1, rf⟩
              · exact hpl p hp
            exact bk_end (pl2 := (r, LCg.lst ws) :: pl) (fr2 := frz2) (fv2 := fv' ++ [Value.ref r]) (n2 := nS + 1) (oc2 := oc8) hi hfz2 F21 (bkM_code S lf u _) (fun p hp => N21 p (by
              rcases List.mem_cons.mp hp with rfl | hp
              · simp
              rcases List.mem_cons.mp hp with rfl | hp
              · simp
              rcases List.mem_cons.mp hp with rfl | hp
              · simp
              rcases List.mem_cons.mp hp with rfl | hp
              · simp
              · exact List.mem_cons_of_mem _ (List.mem_cons_of_mem _ (List.mem_cons_of_mem _ (List.mem_cons_of_mem _ hp))))) d8 hpl' (fun p hp => by
              rcases List.mem_cons.mp hp with rfl | hp
              · exact Ne.symm (rm (I, oI) (by simp))
              · exact off4 p (by simp [hp])) (off4 (S, lo fv' nS) (by simp)) (off4 (L1 + 1, oc) (by simp)) If
              (by rw [bs_add hcond hcond2]; exact (HL.imp fun a o hm => List.mem_cons_of_mem _ hm).append (.cons (n := ws.length) List.mem_cons_self hws .nil)) (by rw [List.length_append, List.length_singleton]; omega)
              (by rw [bs_add hcond hcond2]; intro l hl; rcases List.mem_append.mp hl with hl | hl
                  · exact hll l hl
                  · rw [List.mem_singleton] at hl; subst hl; have := points_len (i : Int); omega)
          · rw [decide_eq_false hcond2]
            k_steps
            rename Fr g1 L1 _ _ => F21
            rename News g1 L1 _ _ => N21
            exact bk_end (pl2 := pl) (fr2 := frz2) hi hfz2 F21 (bkM_code S lf u _) (fun p hp => N21 p (List.mem_cons_of_mem _ hp)) d8 hpl (fun p hp => off4 p (by simp [hp])) (off4 (S, lo fv' nS) (by simp)) (off4 (L1 + 1, oc) (by simp)) If (by rw [bs_skip2 hcond2]; exact HL) (by omega) (by rw [bs_skip2 hcond2]; exact hll)
      · rw [decide_eq_false hcond]
        have N15 : News g1 L1 _ ((r, LCg.lst ws) :: (I, oI) :: (S, lo fv' nS) :: (L1 + 1, oc8) :: (pl ++ frz)) := fun p hp => N14 p (List.mem_cons_of_mem _ (List.mem_cons_of_mem _ hp))
        clear N14 off13
        k_steps
        rename Fr g1 L1 _ _ => F21
        rename News g1 L1 _ _ => N21
        exact bk_end (pl2 := pl) (fr2 := frz) hi hfz F21 (bkM_code S lf u _) (fun p hp => N21 p (List.mem_cons_of_mem _ hp)) d8 hpl (fun p hp => off4 p (by simp [hp])) (off4 (S, lo fv' nS) (by simp)) (off4 (L1 + 1, oc) (by simp)) If (by rw [bs_skip1 hcond]; exact HL) (by omega) (by rw [bs_skip1 hcond]; exact hll)
  · rintro m₁ news₁ h tk ⟨fv', nS, pl, fr', u, oc, rfl, K', ⟨v0, dc⟩, hpl, HL, hlen, hll, rfl⟩ F4 N4
    unfold bkM at F4
    k_steps
    have mS := N4 _ List.mem_cons_self
    have hfull : (rangeKs 0 16).take 16 = rangeKs 0 16 := rfl
    rw [hfull] at HL
    refine ret S fv' nS h _ (up_of (fun b o e _ n2 => gk1 b o e n2) F4 (fun p hp => N4 p (List.mem_cons_of_mem _ (List.mem_cons_of_mem _ (List.mem_append_right _ hp)))) K') (fresh_of gk1 mS.2.2 Sf) mS.1 (HL.imp fun a o hm => ?_)
    have mp := N4 (a, o) (List.mem_cons_of_mem _ (List.mem_cons_of_mem _ (List.mem_append_left _ hm)))
    exact ⟨mp.1, fresh_of gk1 mp.2.2 (hpl (a, o) hm).2.2⟩
end Mine
end
section
open PySem PySem.W PyProof.Rows PySem.Spec PySem.Calls
set_option maxRecDepth 100000
namespace Mine
def lsM (S lc : Addr) : Str → Option Value := fun y => if y = Str.ofString "least" then some (.ref S) else if y = Str.ofString "codes" then some (.ref lc) else none
abbrev lessB (c o : Int) : Prop := o ≠ c ∧ Builtin.bitAnd o c = o
def leastStep (cs : List Int) (least : List (List Int)) (c : Int) : List (List Int) :=
  if cs.contains c = true then if cs.filter (fun o => decide (lessB c o)) = [] then least ++ [points c] else least else least
def leastF (cs : List Int) : List (List Int) := (rangeKs 0 16).foldl (leastStep cs) []
def lsJ (S L lc : Addr) (fs : List Env) (s : Shared) (cs : List Int) (i : Nat) (m : Str → Option Value) (nw : List (Addr × Obj)) : Prop :=
  ∃ (fv : List Value) (n : Nat) (pl fr : List (Addr × Obj)) (oc : Obj), nw = (S, lo fv n) :: (L + 1, oc) :: (pl ++ fr) ∧ FrL (fad fs) s.heap fr ∧ (∃ v, oc.data = .cell v) ∧ (∀ p ∈ pl, p.1 ≠ S ∧ p.1 ≠ L + 1 ∧ p.1 ∉ fad fs) ∧
    LL (fun a o => (a, o) ∈ pl) fv (((rangeKs 0 16).take i).foldl (leastStep cs) []) ∧ fv.length ≤ i ∧ m = lsM S lc
theorem ls_skip1 {cs : List Int} {least : List (List Int)} {c : Int} (h : cs.contains c = false) : leastStep cs least c = least := by
  unfold leastStep; rw [if_neg (by rw [h]; decide)]
theorem ls_skip2 {cs : List Int} {least : List (List Int)} {c : Int} (h : ¬ cs.filter (fun o => decide (lessB c o)) = []) : leastStep cs least c = least := by
  unfold leastStep; rw [if_neg h]; split <;> rfl
theorem ls_add {cs : List Int} {least : List (List Int)} {c : Int} (h1 : cs.contains c = true) (h : cs.filter (fun o => decide (lessB c o)) = []) : leastStep cs least c = least ++ [points c] := by
  unfold leastStep; rw [if_pos h1, if_pos h]
theorem foldl_less (c : Int) (cs : List Int) : cs.foldl (fun l k => if lessB c k then l ++ [k] else l) [] = cs.filter (fun o => decide (lessB c o)) := by
  have : ∀ (cs l : List Int), cs.foldl (fun l k => if lessB c k then l ++ [k] else l) l = l ++ cs.filter (fun o => decide (lessB c o)) := by
    intro cs
    induction cs with
    | nil => intro l; simp
    | cons a r ih =>
      intro l
      rw [List.foldl_cons, ih, List.filter_cons]
      by_cases h : lessB c a
      · rw [if_pos h, if_pos (decide_eq_true h), List.append_assoc]; rfl
      · rw [if_neg h, if_neg fun e => h (of_decide_eq_true e)]
  simpa using this cs []
theorem ls_end {g1 : Heap} {S L1 lc I : Addr} {oI : Obj} {fs : List Env} {s s₁ : Shared} {cs : List Int} {i : Nat} {Q : Flow → Shared → Prop} {h' : Heap} {tk' : Nat} {m' : Str → Option Value} {fv2 : List Value} {n2 : Nat} {oc2 : Obj} {pl2 fr2 : List (Addr × Obj)} {v2 : Option Value}
    (hi : i < 16) (K2 : FrL (fad fs) s.heap fr2) (F : Fr g1 L1 h' m') (hm : m' = lsM S lc) (N : News g1 L1 h' ((I, oI) :: (S, lo fv2 n2) :: (L1 + 1, oc2) :: (pl2 ++ fr2))) (dc2 : oc2.data = .cell v2)
    (hpl2 : ∀ p ∈ pl2, p.1 ≠ S ∧ p.1 ≠ L1 + 1 ∧ p.1 ∉ fad fs) (hplI : ∀ p ∈ pl2, p.1 ≠ I) (SI : S ≠ I) (cI : L1 + 1 ≠ I) (If : I ∉ fad fs)
    (HL2 : LL (fun a o => (a, o) ∈ pl2) fv2 (leastStep cs (((rangeKs 0 16).take i).foldl (leastStep cs) []) (i : Int))) (hlen : fv2.length ≤ i + 1) :
    ForPost g1 L1 I oI (lsJ S L1 lc fs s cs (i + 1)) s₁ Q .next { s₁ with heap := h', toks := tk' } := by
  refine ⟨h', tk', m', _, rfl, F, N, fun p hp => ?_, fv2, n2, pl2, fr2, oc2, rfl, K2, ⟨v2, dc2⟩, hpl2, ?_, hlen, hm⟩
  · rcases List.mem_cons.mp hp with rfl | hp
    · exact SI
    rcases List.mem_cons.mp hp with rfl | hp
    · exact cI
    rcases List.mem_append.mp hp with hp | hp
    · exact hplI p hp
    · exact fr_ne K2 If p hp
  · rw [range_step _ _ hi]; exact HL2
local macro_rules | `(tactic| k_all) => `(tactic| assumption)
local macro_rules | `(tactic| walk_at "eval ListComp") => `(tactic| (k_here; lct_look; k_dflt (refine LCt.ListComp_T (F₀ := by k_asm) (by with_unfolding_all rfl) (by decide) (by rfl) (by decide) (by rfl) ?_)))
set_option maxHeartbeats 8000000 in
theorem le_spec {w : World} {mean : ExcName → Option Value} {mg mb : Str → Option Value} {dp un : Nat} {gd : Option (List Code)} {fs : List Env} {b₀ : Heap} {s : Shared} {Q E : Value → Shared → Prop} {lc : Addr} {nc : Nat} {cv : List Value} {cs : List Int}
    (C : Cx w mean mg mb b₀ fs s.heap) (hd : dp + 16 < recursionLimit) (hu : un + 200 < cLine) (hlc : s.heap.get? lc = some (lo cv nc)) (lcf : lc ∉ fad fs) (HC : IntsAre cv cs) (hbig : cs.length ≤ 1000)
    (ret : ∀ r rs n h' tk', Up [] (fad fs) s.heap h' → s.heap.get? r = none → h'.get? r = some (lo rs n) → LL (fun a o => h'.get? a = some o ∧ s.heap.get? a = none) rs (leastF cs) → Q (.ref r) { s with heap := h', toks := tk' }) :
    wpAny (model PR w) (aTop dp un gd fs) (call (.ref 73) [.ref lc]) Q E s := by
  have hT : (lawTop.heap_39 w.params).In b₀ ∧ PR = PySem.Challenge.rw_ik0010_01.row.prog := ⟨C.X, rfl⟩
  revert hT
  w_top off
  k_fill
  intro hT
  clear hT
  k_dflt (refine wpAny_call ?_)
  k_dflt (refine' enterC C ?k8 ?k6 ?k7 ?k9 ?kB ?kD ?_ ?c2 ?c3 ?c4; (case k6 => k_is); (case k7 => k_is); (case k8 => ktr_room); (case k9 => exact BindsTo.of_eq (binds := [(Str.ofString "codes", Value.ref lc)]) rfl); (case kB => exact rfl); (case kD => decide +kernel); (case c2 => exact rfl); (case c3 => exact rfl); (case c4 => exact rfl))
  intro g1 L1 h1 tk1 fr1 cells F1 N1 Y1 K1 lt1 X1 T1 st1 gk1
  have hY := CellsAre.one Y1
  obtain ⟨o1, hE, d1⟩ := hY
  subst hE
  clear Y1
  simp only [List.cons_append, List.nil_append] at N1
  replace d1 : o1.data = .cell none := d1
  replace F1 : Fr g1 L1 h1 (fun y => if y = Str.ofString "codes" then some (Value.ref lc) else none) := F1
  iterate 8 (first | walk1 | (dsimp only; walk1))
  rename_i S hS1 lS hS2 F2 N2
  have gL : g1.get? L1 = none := kts_self F2
  have Sf : S ∉ fad fs := notIn_of_ne K1 fun p hp => Nat.ne_of_lt ((ktn_ltOf lS.2) p hp)
  have cf : L1 + 1 ∉ fad fs := notIn_of_ne K1 fun p hp => Nat.ne_of_lt (Nat.lt_succ_of_lt (lt1 p hp))
  have Sc : S ≠ L1 + 1 := Ne.symm (Nat.ne_of_lt lS.1)
  have glc : g1.get? lc = some (lo cv nc) := gk1 _ _ hlc lcf
  have F3 : Fr g1 L1 hS2 (lsM S lc) := F2
  clear F2
  k_dflt (refine for_range (h₀ := g1) (L := L1) (n := 16) (lsJ S L1 lc fs s cs) rfl ?_ ?_ ?_)
  · k_steps
    rename IsRange _ _ _ _ _ _ _ _ => hR
    rename Fr g1 L1 _ _ => F4
    rename News g1 L1 _ _ => N4
    refine ⟨_, _, _, _, _, _, _, _, _, rfl, rfl, hR, by decide, rfl, F4, N4, [], 0, [], fr1, o1, rfl, K1, ⟨_, d1⟩, fun p hp => (nomatch hp), LL.nil, Nat.zero_le _, rfl⟩
  · rintro i t m₁ news₁ I oI h tk hi ⟨fv', nS, pl, fr', oc, rfl, K', ⟨v0, dc⟩, hpl, HL, hlen, rfl⟩ F4 N4 off4
    have If : I ∉ fad fs := notIn_of_ne K' fun p hp => off4 p (List.mem_cons_of_mem _ (List.mem_cons_of_mem _ (List.mem_append_right _ hp)))
    have q2 : @Ne Nat I (L1 + 1) := Ne.symm (off4 (L1 + 1, oc) (by simp))
    have q3 : @Ne Nat S (L1 + 1) := Sc
    have q4 : ∀ p ∈ pl ++ fr', p.1 ≠ L1 + 1 := fun p hp => by
      rcases List.mem_append.mp hp with hp | hp
      · exact (hpl p hp).2.1
      · exact fr_ne K' cf p hp
    unfold lsM at F4
    k_steps
    rename Fr g1 L1 _ _ => F5
    rename News g1 L1 _ _ => N5
    rename_i oc5 _
    k_dflt (refine SeqInW.in_listW (ieq (i : Int)) (ieq_gives HC (i : Int) t) (isList_lo (F5.keep _ _ glc)) ?_)
    rw [ieq_any HC (i : Int)]
    have d5 : oc5.data = Data.cell (some (Value.int (i : Int) t)) := by assumption
    rcases hcon : cs.contains (i : Int)
    · k_steps
      rename Fr g1 L1 _ _ => F6
      rename News g1 L1 _ _ => N6
      exact ls_end (pl2 := pl) (fr2 := fr') hi K' F6 rfl N6 d5 hpl (fun p hp => off4 p (by simp [hp])) (off4 (S, lo fv' nS) (by simp)) (off4 (L1 + 1, oc) (by simp)) If (by rw [ls_skip1 hcon]; exact HL) (by omega)
    · k_steps
      rename Fr g1 L1 _ _ => F6
      rename News g1 L1 _ _ => N6
      k_dflt (refine LCt.CompSrcT.base (by rfl) F6 N6 (its := cv.toArray) (isList_lo glc) (by rw [List.size_toArray, sizeLine_eq, HC.length]; omega) ?_)
      intro g7
      k_dflt (refine kci_list (fun l k => if lessB (i : Int) k then l ++ [k] else l) HC (fun k' t' I' oI' C' oC' D' m' ys' l' h' tk' E' hk' hI' hC' hx' F' N' off' ne' hMark' => ?_) ?_ ?_)
      · k_steps
        · refine LCg.CompEnd.intro (by assumption) (by assumption) _ (fun _ h => h) (by assumption) (.inl (isList_lo glc)) ?_
          exact ⟨rfl, _, _, rfl, if_pos ⟨by assumption, by assumption⟩⟩
        · refine LCg.CompEnd.intro (by assumption) (by assumption) _ (fun _ h => h) (by assumption) (.inl (isList_lo glc)) ?_
          exact ⟨rfl, if_neg fun hh => absurd hh.2 (by assumption)⟩
        · refine LCg.CompEnd.intro (by assumption) (by assumption) _ (fun _ h => h) (by assumption) (.inl (isList_lo glc)) ?_
          exact ⟨rfl, if_neg fun hh => by
            have h1 := hh.1
            first | exact h1 (by assumption) | exact absurd h1 (by assumption)⟩
      · unfold KPfDone
        intro ys hys hlen2
        rw [foldl_less] at hys
        unfold LCg.FinE
        intro D h8 tk8 F8 N8 off8
        dsimp only
        iterate 3 (first | walk1 | (dsimp only; walk1))
        rename Fr g1 L1 _ _ => F9
        rename News g1 L1 _ _ => N9
        k_dflt (refine W.ke_eq_ints (isList_lo (N9 (D, lo ys ys.length) (by simp)).1) (isList_lo (vs := []) (N9 _ List.mem_cons_self).1) hys .nil ?_ ?_)
        · show un + 3 + 64 < cLine
          omega
        have N10 : News g1 L1 _ ((I, oI) :: (S, lo fv' nS) :: (L1 + 1, oc5) :: (pl ++ fr')) := fun p hp => N9 p (List.mem_cons_of_mem _ (List.mem_cons_of_mem _ hp))
        clear N9 off8
        by_cases hcond : cs.filter (fun o => decide (lessB (i : Int) o)) = []
        · rw [decide_eq_true hcond]
          k_steps
          rename Fr g1 L1 _ _ => F11
          rename News g1 L1 _ _ => N11
          have N11m : News g1 L1 _ (((I, oI) :: (S, lo fv' nS) :: (L1 + 1, oc5) :: pl) ++ fr') := N11
          have Nf11 : News g1 L1 _ fr' := fun p hp => N11m p (List.mem_append_right _ hp)
          k_dflt (refine lp_spec (fs := _ :: fs) (by omega) (by omega) (cx_of C st1 F11 Nf11 K' rfl (by intro e; cases e)) ?_ ?_ (fun r ws h12 tk12 U12 nr hr hws => ?_))
          · show dp + 1 + 4 < recursionLimit
            omega
          · show un + 3 + 64 < cLine
            omega
          have apm : ∀ p ∈ ((I, oI) :: (S, lo fv' nS) :: (L1 + 1, oc5) :: pl), p.1 ∉ ([] : List Addr) ∧ p.1 ∉ fad fs := by
            intro p hp
            refine ⟨List.not_mem_nil, ?_⟩
            rcases List.mem_cons.mp hp with rfl | hp
            · exact If
            rcases List.mem_cons.mp hp with rfl | hp
            · exact Sf
            rcases List.mem_cons.mp hp with rfl | hp
            · exact cf
            exact (hpl p hp).2.2
          obtain ⟨fr12, K12, F12, N12⟩ := after F11 N11m K' U12 apm (fun a ha => nomatch ha) List.not_mem_nil
          have nr' : ∀ a o, Heap.get? _ a = some o → a ≠ r := fun a o e q => by rw [q] at e; exact absurd (e.symm.trans nr) (by simp)
          have rL : r ≠ L1 := fun e => by
            obtain ⟨oL, _, _, hL, _⟩ := F11.ns
            exact nr' _ _ hL e.symm
          have rg : g1.get? r = none := kts_none F11.keep nr
          have rm : ∀ p ∈ ((I, oI) :: (S, lo fv' nS) :: (L1 + 1, oc5) :: pl) ++ fr', p.1 ≠ r := fun p hp => nr' _ _ (N11m p hp).1
          have rf : r ∉ fad fs := notIn_of_ne K' fun p hp => rm p (List.mem_append_right _ hp)
          have N13 : News g1 L1 h12 ((r, LCg.lst ws) :: (I, oI) :: (S, lo fv' nS) :: (L1 + 1, oc5) :: (pl ++ fr12)) := fun p hp => by
            rcases List.mem_cons.mp hp with rfl | hp
            · exact ⟨hr, rL, rg⟩
            · exact N12 p hp
          have q1 : @Ne Nat r (L1 + 1) := Ne.symm (rm (L1 + 1, oc5) (by simp))
          have q5 : @Ne Nat r S := Ne.symm (rm (S, lo fv' nS) (by simp))
          have q6 : @Ne Nat I S := Ne.symm (off4 (S, lo fv' nS) (by simp))
          have q7 : ∀ p ∈ pl ++ fr12, p.1 ≠ S := fun p hp => by
            rcases List.mem_append.mp hp with hp | hp
            · exact (hpl p hp).1
            · exact fr_ne K12 Sf p hp
          clear N11 N11m Nf11 N12 F11
          k_steps
          rename Fr g1 L1 _ _ => F21
          rename News g1 L1 _ _ => N21
          have e22 : W.listOf (fv'.toArray.push (Value.ref r)) (nS + 1) = lo (fv' ++ [Value.ref r]) (nS + 1) := by
            show ({ cls := .type "list", data := .seq (fv'.toArray.push (Value.ref r)) (nS + 1) } : Obj) = { cls := .type "list", data := .seq (fv' ++ [Value.ref r]).toArray (nS + 1) }
            rw [List.push_toArray]
          rw [e22] at N21
          have hpl' : ∀ p ∈ (r, LCg.lst ws) :: pl, p.1 ≠ S ∧ p.1 ≠ L1 + 1 ∧ p.1 ∉ fad fs := fun p hp => by
            rcases List.mem_cons.mp hp with rfl | hp
            · exact ⟨q5, q1, rf⟩
            · exact hpl p hp
          exact ls_end (pl2 := (r, LCg.lst ws) :: pl) (fr2 := fr12) (fv2 := fv' ++ [Value.ref r]) (n2 := nS + 1) (oc2 := oc5) hi K12 F21 rfl (fun p hp => N21 p (by
            rcases List.mem_cons.mp hp with rfl | hp
            · simp
            rcases List.mem_cons.mp hp with rfl | hp
            · simp
            rcases List.mem_cons.mp hp with rfl | hp
            · simp
            rcases List.mem_cons.mp hp with rfl | hp
            · simp
            · exact List.mem_cons_of_mem _ (List.mem_cons_of_mem _ (List.mem_cons_of_mem _ (List.mem_cons_of_mem _ hp))))) d5 hpl' (fun p hp => by
            rcases List.mem_cons.mp hp with rfl | hp
            · exact Ne.symm (rm (I, oI) (by simp))
            · exact off4 p (by simp [hp])) (off4 (S, lo fv' nS) (by simp)) (off4 (L1 + 1, oc) (by simp)) If
            (by rw [ls_add hcon hcond]; exact (HL.imp fun a o hm => List.mem_cons_of_mem _ hm).append (.cons (n := ws.length) List.mem_cons_self hws .nil)) (by rw [List.length_append, List.length_singleton]; omega)
        · rw [decide_eq_false hcond]
          k_steps
          rename Fr g1 L1 _ _ => F11
          rename News g1 L1 _ _ => N11
          exact ls_end (pl2 := pl) (fr2 := fr') hi K' F11 rfl N11 d5 hpl (fun p hp => off4 p (by simp [hp])) (off4 (S, lo fv' nS) (by simp)) (off4 (L1 + 1, oc) (by simp)) If (by rw [ls_skip2 hcond]; exact HL) (by omega)
      · intro l k
        dsimp only
        split
        · rw [List.length_append]; exact Nat.le_refl _
        · exact Nat.le_succ _
  · rintro m₁ news₁ h tk ⟨fv', nS, pl, fr', oc, rfl, K', ⟨v0, dc⟩, hpl, HL, hlen, rfl⟩ F4 N4
    unfold lsM at F4
    k_steps
    have mS := N4 _ List.mem_cons_self
    have hfull : (rangeKs 0 16).take 16 = rangeKs 0 16 := rfl
    rw [hfull] at HL
    refine ret S fv' nS h _ (up_of (fun b o e _ n2 => gk1 b o e n2) F4 (fun p hp => N4 p (List.mem_cons_of_mem _ (List.mem_cons_of_mem _ (List.mem_append_right _ hp)))) K') (fresh_of gk1 mS.2.2 Sf) mS.1 (HL.imp fun a o hm => ?_)
    have mp := N4 (a, o) (List.mem_cons_of_mem _ (List.mem_cons_of_mem _ (List.mem_append_left _ hm)))
    exact ⟨mp.1, fresh_of gk1 mp.2.2 (hpl (a, o) hm).2.2⟩
end Mine
end
section
open PySem PySem.W PyProof.Rows PySem.Spec PySem.Calls
set_option maxRecDepth 100000
namespace Mine
section
variable {prog : Program} {w : World} {A : Around} {E : Value → Shared → Prop} {s : Shared} {env : Env} {h₀ : Heap} {L : Addr} {m : Str → Option Value}
def CellSrc (h₀ : Heap) (L : Addr) (m : Str → Option Value) (news : List (Addr × Obj)) (s : Shared) (n : Nat) (xv : Value) (s₁ : Shared) : Prop :=
  ∃ r b t u v h tk, xv = .ref r ∧ s₁ = { s with heap := h, toks := tk } ∧ IsRange h r 0 b 1 t u v ∧ Builtin.Range.small 0 b 1 = true ∧ Builtin.Range.rangeSize 0 b 1 = ((n : Nat) : Int) ∧ Fr h₀ L h m ∧ News h₀ L h news
def CellEnd (h₀ : Heap) (L : Addr) (m : Str → Option Value) (made : List (Addr × Obj)) (s : Shared) (P : Prop) (s₁ : Shared) : Prop :=
  ∃ h tk, s₁ = { s with heap := h, toks := tk } ∧ Fr h₀ L h m ∧ News h₀ L h made ∧ P
theorem take_snoc (n i : Nat) (hi : i < n) : (rangeKs 0 n).take (i + 1) = (rangeKs 0 n).take i ++ [(i : Int)] := by
  have hl : i < (rangeKs 0 n).length := by rw [rangeKs_length]; exact hi
  rw [List.take_succ, List.getElem?_eq_getElem hl]
  simp [rangeKs]
theorem Assign_cell {ct elt iter : Expr} {x y : Str} {px py : Pos} {scope : Scope} {cl : List (Str × Addr)} {pos spos : Pos} {Q : Flow → Shared → Prop} {n : Nat} {news : List (Addr × Obj)} (p : Int → Bool)
    (_F : Fr h₀ L s.heap m) (_N : News h₀ L s.heap news) (hh : A.handled = none) (hLe : env.locals = L)
    (hsw : swapsWith (.ListComp elt [⟨.Name x px, iter, [ct], 0⟩] scope pos) (some (.Name y py)) spos.line env = pure true)
    (hclos : closureFor scope env = pure cl) (hkind : scope.kind = .function)
    (hnames : ∀ z ∈ scope.names, z.2 = .local → scope.names.lookup z.1 = some .local)
    (hcf : ∀ k, cellsFrom k scope.names cl = (x, k) :: cl) (hpc : ∀ h : Heap, pushCells h scope.names = h.push { cls := .type "cell", data := .cell none })
    (hx : (relabel scope env).names.lookup x = some .cell)
    (hy : env.kindOf y = some .local) (hp : (env.scope.kind == .class || (env.scope.kind == .module && env.locals != env.globals)) = false) (hsz : n ≤ sizeLine)
    (h : wpAny (model prog w) A (eval iter env) (CellSrc h₀ L m news s n) E s)
    (turn : ∀ (i : Nat) t I oI C oC c oc D ys h tk (E' : Value → Shared → Prop), i < n → oc.data = .cell (some (.int (i : Int) t)) → Fr h₀ L h m → News h₀ L h ((I, oI) :: (C, oC) :: (c, oc) :: (D, LCg.lst ys) :: news) →
      (∀ q ∈ news, q.1 ≠ I ∧ q.1 ≠ C ∧ q.1 ≠ c ∧ q.1 ≠ D) → ((@Ne Nat I C) ∧ (@Ne Nat I c) ∧ (@Ne Nat I D) ∧ (@Ne Nat C c) ∧ (@Ne Nat C D) ∧ (@Ne Nat c D)) →
      wpAny (model prog w) A (isTrue ct (compEnvC scope ((x, c) :: cl) C env) (eval ct (compEnvC scope ((x, c) :: cl) C env))) (fun ok s' => if ok = true then
        wpAny (model prog w) A (eval elt (compEnvC scope ((x, c) :: cl) C env)) (fun v => CellEnd h₀ L m ((I, oI) :: (C, oC) :: (c, oc) :: (D, LCg.lst ys) :: news) s (p (i : Int) = true ∧ ∃ t, v = .int (i : Int) t)) E' s'
        else CellEnd h₀ L m ((I, oI) :: (C, oC) :: (c, oc) :: (D, LCg.lst ys) :: news) s (p (i : Int) = false) s') E' { s with heap := h, toks := tk })
    (done : ∀ D h tk ys, Fr h₀ L h (fun z => if z = y then some (.ref D) else m z) → News h₀ L h ((D, LCg.lst ys) :: news) → (∀ q ∈ news, @Ne Nat q.1 D) → IntsAre ys ((rangeKs 0 n).filter p) → Q .next { s with heap := h, toks := tk })
    (hs : ∀ x, foldedSetIterable iter env x = pure x := by intro _; rfl) :
    wpAny (model prog w) A (exec (.Assign [.Name y py] (.ListComp elt [⟨.Name x px, iter, [ct], 0⟩] scope pos) spos) env) Q E s := by
  subst hLe
  rw [exec_Assign_Name_used _ _ _ _ hsw]
  refine wpAny_bind (wpAny_standAt (wpAny_bind ?_))
  show wpAny _ A (do let _ ← comprehension (.ListComp elt [⟨.Name x px, iter, [ct], 0⟩] scope pos) scope env _ (newList []) false (eval iter env) (some (assign (.Name y py) env))) _ _ s
  refine wpAny_bind (wpAny_mono (wpAny_comprehension_free (use := some (assign (.Name y py) env)) (Q := fun _ s' => Q .next s') rfl hs hclos hkind hnames
    (wpAny_mono h (fun xv s₁ h₁ => ?_) fun _ _ e => e)) (fun _ s' hq => wpAny_pure (wpAny_pure hq)) fun _ _ e => e)
  obtain ⟨r, b, t, u, v, h₁, tk₁, rfl, rfl, hr, hsm, hn, F, N⟩ := h₁
  refine wpAny_pyIter_range hr hsm ?_
  dsimp only at F N ⊢
  refine wpAny_newObj_type ?_
  simp only [newFunctionEnv, Option.isSome_some, if_true]
  refine wpAny_bind (wpAny_alloc ?_)
  refine wpAny_bind (wpAny_layCells _ (fun name kind cells => by cases hkc : kind == NameKind.cell <;> simp [hkc]) _ _ _ _ ?_)
  rw [List.forIn_nil]
  refine wpAny_bind (wpAny_pure (wpAny_pure ?_))
  dsimp only
  rw [hcf, hpc]
  have W := LCg.range_walks (prog := prog) (w := w) (A := A) (I := h₁.objs.size) hh 0 n
  generalize hH1 : h₁.push { cls := .type "range_iterator", data := .fields #[rawInt 0, rawInt (Builtin.Range.rangeSize 0 b 1), rawInt 1] } = H1
  generalize hH2 : H1.push { cls := .type "list", dict := none, data := .seq ([] : List Value).toArray } = H2
  generalize hH3 : H2.push { cls := .type "dict", data := .dict #[] } = H3
  generalize hH4 : H3.push { cls := .type "cell", data := .cell none } = H4
  have z1 : H1.objs.size = h₁.objs.size + 1 := by rw [← hH1, Heap.size_push]
  have z2 : H2.objs.size = h₁.objs.size + 2 := by rw [← hH2, Heap.size_push, z1]
  have z3 : H3.objs.size = h₁.objs.size + 3 := by rw [← hH3, Heap.size_push, z2]
  have hI1 : H4.get? h₁.objs.size = some { cls := .type "range_iterator", data := .fields #[rawInt 0, rawInt (Builtin.Range.rangeSize 0 b 1), rawInt 1] } := by
    rw [← hH4]; refine Heap.get?_push_of_some _ ?_
    rw [← hH3]; refine Heap.get?_push_of_some _ ?_
    rw [← hH2]; refine Heap.get?_push_of_some _ ?_
    rw [← hH1]; exact Heap.get?_push_size _ rfl
  have hD1 : H4.get? H1.objs.size = some (LCg.lst []) := by
    rw [← hH4]; refine Heap.get?_push_of_some _ ?_
    rw [← hH3]; refine Heap.get?_push_of_some _ ?_
    rw [← hH2]; exact Heap.get?_push_size _ rfl
  have hC1 : H4.Ns H2.objs.size (fun _ => none) := by
    rw [← hH4]
    refine Heap.Ns.keeps ?_ (fun b o e => Heap.get?_push_of_some _ e)
    rw [← hH3]; exact Heap.Ns.new H2 (.type "dict")
  have hc1 : H4.get? H3.objs.size = some { cls := .type "cell", data := .cell none } := by
    rw [← hH4]; exact Heap.get?_push_size _ rfl
  have old : ∀ b o, h₁.get? b = some o → H4.get? b = some o := fun b o e => by
    rw [← hH4]; refine Heap.get?_push_of_some _ ?_
    rw [← hH3]; refine Heap.get?_push_of_some _ ?_
    rw [← hH2]; refine Heap.get?_push_of_some _ ?_
    rw [← hH1]; exact Heap.get?_push_of_some _ e
  obtain ⟨oC, heC, hoC⟩ := LCg.ns_obj hC1
  have F1 : Fr h₀ env.locals H4 m := F.keeps old
  have N1 : News h₀ env.locals H4 news := N.grown old
  clear hH1 hH2 hH3 hH4
  have hLlt : @LT.lt Nat instLTNat env.locals h₁.objs.size := F.ns.lt
  have fresh₀ : ∀ a, h₁.objs.size ≤ a → h₀.get? a = none := fun a ha => by
    cases e : h₀.get? a with
    | none => rfl
    | some o' => exact absurd (Heap.lt_size (F.keep a o' e)) (Nat.not_lt.mpr ha)
  have offn : ∀ q ∈ news, @LT.lt Nat instLTNat q.1 h₁.objs.size := fun q hq => Heap.lt_size (N q hq).1
  generalize hIe : h₁.objs.size = I at *
  generalize hDe : H1.objs.size = D at *
  generalize hCe : H2.objs.size = C at *
  generalize hce : H3.objs.size = c at *
  have nIL : @Ne Nat I env.locals := by omega
  have nDL : @Ne Nat D env.locals := by omega
  have nCL : @Ne Nat C env.locals := by omega
  have ncL : @Ne Nat c env.locals := by omega
  have gI : h₀.get? I = none := fresh₀ _ (Nat.le_refl _)
  have gD : h₀.get? D = none := fresh₀ _ (by omega)
  have gC : h₀.get? C = none := fresh₀ _ (by omega)
  have gc : h₀.get? c = none := fresh₀ _ (by omega)
  have nIC : @Ne Nat I C := by omega
  have nIc : @Ne Nat I c := by omega
  have nID : @Ne Nat I D := by omega
  have nCc : @Ne Nat C c := by omega
  have nCD : @Ne Nat C D := by omega
  have ncD : @Ne Nat c D := by omega
  have off : ∀ q ∈ news, q.1 ≠ I ∧ q.1 ≠ C ∧ q.1 ≠ c ∧ q.1 ≠ D := fun q hq => by
    have := offn q hq
    exact ⟨Nat.ne_of_lt this, show @Ne Nat q.1 C by omega, show @Ne Nat q.1 c by omega, show @Ne Nat q.1 D by omega⟩
  have loop : ∀ s₃ : Shared, s₃ = { s with heap := H4, toks := tk₁ } →
      codeAny (model prog w) A (.compLoop (.ListComp elt [⟨.Name x px, iter, [ct], 0⟩] scope pos) 0 (.ref I) (.ref D) (compEnvC scope ((x, c) :: cl) C env))
        (compPost (model prog w) A E (some (assign (.Name y py) env)) (fun _ s' => Q .next s') (.ref D) C) s₃ := by
    rintro s₃ rfl
    refine codeAny_compLoop_tests
      (fun k s' => ∃ h' tk i ys oc vc, s' = { s with heap := h', toks := tk } ∧ i ≤ n ∧ k = n + 1 - i ∧ ys.length ≤ i ∧ IsRangeIter h' I (0 + (i : Nat) * 1) ((n : Int) - (i : Nat)) 1 ∧ Fr h₀ env.locals h' m ∧
        News h₀ env.locals h' ((C, oC) :: (c, oc) :: (D, LCg.lst ys) :: news) ∧ oc.data = .cell vc ∧ IntsAre ys (((rangeKs 0 n).take i).filter p)) ?_ (n + 1)
      ⟨H4, _, 0, [], { cls := .type "cell", data := .cell none }, none, rfl, Nat.zero_le _, rfl, Nat.le_refl _, ?_, F1, ?_, rfl, .nil⟩
    · rintro k s' ⟨h', tk, i, ys, oc, vc, rfl, hi, rfl, hyl, hst', F', N', dc, hys⟩
      by_cases hlt : i < n
      · refine W.item i _ _ _ hlt hst' fun v h₂ tk₂ hPv hst₂ hk₂ => ?_
        obtain ⟨t', rfl⟩ := hPv
        rw [Int.zero_add]
        have k2 : ∀ b o, b ≠ I → h'.get? b = some o → h₂.get? b = some o := fun b o hb e => hk₂ b o (by simpa using hb) e
        have ec := k2 c oc (Ne.symm nIc) (N' (c, oc) (by simp)).1
        refine wpAny_assign_Name (wpAny_storeName_cell (v₀ := vc) (c := c) (by exact hkind) (by exact hx) (by simp [compEnvC]) ⟨oc, ec, dc⟩ (fun h₃ hc₃ hs₃ => ?_))
        obtain ⟨oc3, ec3, dc3⟩ := hc₃
        refine wpAny_tests_one ?_
        have F₃ : Fr h₀ env.locals h₃ m := (LCg.fr_but F' hk₂ (Ne.symm nIL) gI).change hs₃ ncL gc
        have st3 : IsRangeIter h₃ I (0 + ((i + 1 : Nat) : Nat) * 1) ((n : Int) - ((i + 1 : Nat) : Nat)) 1 := W.frame _ _ _ hst₂ fun b hb o e => hs₃.extBut b o (by rw [List.mem_singleton.mp hb]; exact nIc) e
        have N₃ : News h₀ env.locals h₃ ((I, _) :: (C, oC) :: (c, oc3) :: (D, LCg.lst ys) :: news) := fun q hq => by
          rcases List.mem_cons.mp hq with rfl | hq
          · exact ⟨st3, nIL, gI⟩
          rcases List.mem_cons.mp hq with rfl | hq
          · exact ⟨hs₃.extBut _ _ nCc (k2 _ _ (Ne.symm nIC) (N' (C, oC) (by simp)).1), nCL, gC⟩
          rcases List.mem_cons.mp hq with rfl | hq
          · exact ⟨ec3, ncL, gc⟩
          rcases List.mem_cons.mp hq with rfl | hq
          · exact ⟨hs₃.extBut _ _ (Ne.symm ncD) (k2 _ _ (Ne.symm nID) (N' (D, LCg.lst ys) (by simp)).1), nDL, gD⟩
          · have zq := N' q (by simp [hq])
            exact ⟨hs₃.extBut _ _ (off q hq).2.2.1 (k2 _ _ (off q hq).1 zq.1), zq.2⟩
        refine wpAny_mono (turn i t' I _ C oC c oc3 D ys h₃ _ _ hlt dc3 F₃ N₃ off ⟨nIC, nIc, nID, nCc, nCD, ncD⟩) (fun ok s₄ h₄ => ?_) fun _ _ e => e
        cases ok with
        | true =>
          simp only [if_true] at h₄ ⊢
          refine wpAny_mono h₄ (fun yv s₅ h₅ => ?_) fun _ _ e => e
          obtain ⟨h₄, tk₄, rfl, F₄, N₄, hpi, tt, rfl⟩ := h₅
          have zD := (N₄ (D, LCg.lst ys) (by simp)).1
          refine append_at (hsz := by show ys.toArray.size ≤ sizeLine; rw [List.size_toArray]; exact Nat.le_trans (Nat.le_trans hyl hi) hsz) zD fun h₅ hs₅ hD₅ => ?_
          refine ⟨n + 1 - (i + 1), by omega, h₅, tk₄, i + 1, ys ++ [.int (i : Int) tt], oc3, _, rfl, hlt, rfl, by rw [List.length_append, List.length_singleton]; exact Nat.succ_le_succ hyl, ?_, F₄.change hs₅ nDL gD, fun q hq => ?_, dc3, ?_⟩
          · exact hs₅.extBut _ _ nID (N₄ (I, _) (by simp)).1
          · rcases List.mem_cons.mp hq with rfl | hq
            · exact ⟨hs₅.extBut _ _ nCD (N₄ (C, oC) (by simp)).1, nCL, gC⟩
            rcases List.mem_cons.mp hq with rfl | hq
            · exact ⟨hs₅.extBut _ _ ncD (N₄ (c, oc3) (by simp)).1, ncL, gc⟩
            rcases List.mem_cons.mp hq with rfl | hq
            · exact ⟨hD₅.trans (congrArg some (LCg.lst_snoc ys _)), nDL, gD⟩
            · have zq := N₄ q (by simp [hq])
              exact ⟨hs₅.extBut _ _ (off q hq).2.2.2 zq.1, zq.2⟩
          · rw [take_snoc n i hlt, List.filter_append, List.filter_cons, if_pos hpi, List.filter_nil]
            exact hys.append (.cons _ _ .nil)
        | false =>
          simp only [Bool.false_eq_true, if_false] at h₄ ⊢
          obtain ⟨h₅, tk₄, rfl, F₄, N₄, hpi⟩ := h₄
          refine ⟨n + 1 - (i + 1), by omega, h₅, tk₄, i + 1, ys, oc3, _, rfl, hlt, rfl, Nat.le_succ_of_le hyl, (N₄ (I, _) (by simp)).1, F₄, fun q hq => N₄ q (List.mem_cons_of_mem _ hq), dc3, ?_⟩
          rw [take_snoc n i hlt, List.filter_append, List.filter_cons, if_neg (by rw [hpi]; decide), List.filter_nil, List.append_nil]
          exact hys
      · obtain rfl : i = n := Nat.le_antisymm hi (Nat.not_lt.mp hlt)
        refine W.done _ _ _ hst' fun h₂ tk₂ hk₂ => ?_
        have k2 : ∀ b o, b ≠ I → h'.get? b = some o → h₂.get? b = some o := fun b o hb e => hk₂ b o (by simpa using hb) e
        have F₂ : Fr h₀ env.locals h₂ m := LCg.fr_but F' hk₂ (Ne.symm nIL) gI
        show wpAny _ A (assign (.Name y py) env (.ref D)) _ _ _
        refine wpAny_assign_Name (wpAny_storeName_local hy F₂.ns (fun h₃ hn₃ hs₃ => ?_) hp)
        have hL₀ : h₀.get? env.locals = none := Heap.get?_none_of_le F'.above
        have F₃ : Fr h₀ env.locals h₃ (fun z => if z = y then some (.ref D) else m z) := ⟨hn₃, fun b o e => hs₃.extBut b o (fun q => by rw [q, hL₀] at e; cases e) (F₂.keep b o e), F'.above⟩
        have ZC := hs₃.extBut _ _ nCL (k2 _ _ (Ne.symm nIC) (N' (C, oC) (by simp)).1)
        refine ⟨_, hoC.ns ZC, fun h'' hs'' => done D h'' _ ys (F₃.change hs'' nCL gC) (fun q hq => ?_) (fun q hq => (off q hq).2.2.2) (by
          have : (rangeKs 0 i).take i = rangeKs 0 i := List.take_of_length_le (by rw [rangeKs_length]; exact Nat.le_refl _)
          rw [this] at hys; exact hys)⟩
        rcases List.mem_cons.mp hq with rfl | hq
        · exact ⟨hs''.extBut _ _ (Ne.symm nCD) (hs₃.extBut _ _ nDL (k2 _ _ (Ne.symm nID) (N' (D, LCg.lst ys) (by simp)).1)), nDL, gD⟩
        · have zq := N' q (by simp [hq])
          exact ⟨hs''.extBut _ _ (off q hq).2.1 (hs₃.extBut _ _ zq.2.1 (k2 _ _ (off q hq).1 zq.1)), zq.2⟩
    · show IsRangeIter _ _ _ _ _
      show H4.get? I = some _
      rw [hI1, hn]; simp
    · intro q hq
      rcases List.mem_cons.mp hq with rfl | hq
      · exact ⟨heC, nCL, gC⟩
      rcases List.mem_cons.mp hq with rfl | hq
      · exact ⟨hc1, ncL, gc⟩
      rcases List.mem_cons.mp hq with rfl | hq
      · exact ⟨hD1, nDL, gD⟩
      · exact N1 q hq
  exact codeAny_compStart_list (loop _ rfl) (W.self 0 _ _ _ (by
    show H4.get? I = some _
    rw [hI1, hn]; simp) (loop _ rfl))
end
end Mine
end
section
open PySem PySem.W PyProof.Rows PySem.Spec PySem.Calls
set_option maxRecDepth 100000
namespace Mine
def R16 : List Int := rangeKs 0 16
theorem rk_succ (i : Nat) : rangeKs 0 (i + 1) = rangeKs 0 i ++ [(i : Int)] := by simp [rangeKs, List.range_succ]
theorem rk_mem {d : Int} {i : Nat} : d ∈ rangeKs 0 i ↔ 0 ≤ d ∧ d < (i : Int) := by
  constructor
  · intro h
    obtain ⟨k, hk, rfl⟩ := List.mem_map.mp h
    have := List.mem_range.mp hk
    omega
  · rintro ⟨h1, h2⟩
    exact List.mem_map.mpr ⟨d.toNat, List.mem_range.mpr (by omega), by omega⟩
theorem r16_mem {d : Int} : d ∈ R16 ↔ 0 ≤ d ∧ d < 16 := rk_mem
def sub (a b : Int) : Bool := Builtin.bitAnd a b == a
def hit (a b : Int) : Bool := !(Builtin.bitAnd a b == 0)
theorem a1' : (R16.all fun a => R16.all fun b => noneOf (points b) (points a) == sub a b) = true := by decide +kernel
theorem a2' : (R16.all fun a => R16.all fun b => allOf (points b) (points a) == !hit a b) = true := by decide +kernel
theorem a3' : (R16.all fun a => sub a a) = true := by decide +kernel
theorem a4' : (R16.all fun a => R16.all fun b => R16.all fun c => !(sub a b && sub b c) || sub a c) = true := by decide +kernel
theorem a5' : (R16.all fun a => R16.all fun b => !(sub a b && !(a == b)) || decide (a < b)) = true := by decide +kernel
theorem a6' : (R16.all fun f => R16.all fun m => R16.all fun c => !(sub f c && hit f m) || hit m c) = true := by decide +kernel
theorem a7' : (R16.all fun f => R16.all fun c => sub f c || hit f (15 - c)) = true := by decide +kernel
theorem a8' : (R16.all fun m => R16.all fun c => !(sub m (15 - c)) || !hit m c) = true := by decide +kernel
theorem al {p : Int → Bool} (h : R16.all p = true) {a : Int} (ha : a ∈ R16) : p a = true := List.all_eq_true.mp h a ha
theorem a1 {a b : Int} (ha : a ∈ R16) (hb : b ∈ R16) : noneOf (points b) (points a) = sub a b := eq_of_beq (al (al a1' ha) hb)
theorem a2 {a b : Int} (ha : a ∈ R16) (hb : b ∈ R16) : allOf (points b) (points a) = !hit a b := eq_of_beq (al (al a2' ha) hb)
theorem a3 {a : Int} (ha : a ∈ R16) : sub a a = true := al a3' ha
theorem a4 {a b c : Int} (ha : a ∈ R16) (hb : b ∈ R16) (hc : c ∈ R16) (h1 : sub a b = true) (h2 : sub b c = true) : sub a c = true := by
  have := al (al (al a4' ha) hb) hc
  simpa [h1, h2] using this
theorem a5 {a b : Int} (ha : a ∈ R16) (hb : b ∈ R16) (h1 : sub a b = true) (h2 : a ≠ b) : a < b := by
  have := al (al a5' ha) hb
  simpa [h1, h2] using this
theorem a6 {f m c : Int} (hf : f ∈ R16) (hm : m ∈ R16) (hc : c ∈ R16) (h1 : sub f c = true) (h2 : hit f m = true) : hit m c = true := by
  have := al (al (al a6' hf) hm) hc
  simpa [h1, h2] using this
theorem a7 {f c : Int} (hf : f ∈ R16) (hc : c ∈ R16) (h1 : ¬ sub f c = true) : hit f (15 - c) = true := by
  have := al (al a7' hf) hc
  simpa [h1] using this
theorem a8 {m c : Int} (hm : m ∈ R16) (hc : c ∈ R16) (h1 : sub m (15 - c) = true) : hit m c = false := by
  have := al (al a8' hm) hc
  simpa [h1] using this
def minP (P : Int → Bool) (c : Int) : Bool := P c && R16.all fun d => !(P d && sub d c && !(d == c))
theorem minP_iff {P : Int → Bool} {c : Int} : minP P c = true ↔ P c = true ∧ ∀ d ∈ R16, P d = true → sub d c = true → d = c := by
  unfold minP
  rw [Bool.and_eq_true, List.all_eq_true]
  refine and_congr_right fun _ => forall_congr' fun d => forall_congr' fun _ => ?_
  cases h1 : P d <;> cases h2 : sub d c <;> by_cases h3 : d = c <;> simp [h3]
theorem minP_congr {P Q : Int → Bool} (h : ∀ d ∈ R16, P d = Q d) {c : Int} (hc : c ∈ R16) : minP P c = minP Q c := by
  rw [Bool.eq_iff_iff, minP_iff, minP_iff, h c hc]
  exact and_congr_right fun _ => forall_congr' fun d => forall_congr' fun hd => by rw [h d hd]
theorem min_below (P : Int → Bool) : ∀ (n : Nat) (c : Int), c ∈ R16 → c < (n : Int) → P c = true → ∃ m ∈ R16, minP P m = true ∧ sub m c = true
  | 0, c, hc, h, _ => by have := (r16_mem.mp hc).1; omega
  | n + 1, c, hc, h, hp => by
    by_cases hm : minP P c = true
    · exact ⟨c, hc, hm, a3 hc⟩
    · have : ∃ d ∈ R16, P d = true ∧ sub d c = true ∧ d ≠ c := by
        refine Classical.byContradiction fun q => hm (minP_iff.mpr ⟨hp, fun d hd h1 h2 => Classical.byContradiction fun h3 => q ⟨d, hd, h1, h2, h3⟩⟩)
      obtain ⟨d, hd, h1, h2, h3⟩ := this
      have hlt := a5 hd hc h2 h3
      obtain ⟨m, hm, h4, h5⟩ := min_below P n d hd (by omega) h1
      exact ⟨m, hm, h4, a4 hm hd hc h5 h2⟩
theorem fil_nil {α : Type} {p : α → Bool} {l : List α} : l.filter p = [] ↔ ∀ a ∈ l, p a = false := by
  rw [List.filter_eq_nil_iff]
  exact forall_congr' fun a => forall_congr' fun _ => by cases p a <;> simp
def blocks (fam : List (List Int)) (c : Int) : Bool := decide (fam.filter (allOf (points c)) = [])
theorem blocker_min (fam : List (List Int)) : ∀ i : Nat, i ≤ 16 → (rangeKs 0 i).foldl (blockStep fam) [] = ((rangeKs 0 i).filter (minP (blocks fam))).map points
  | 0, _ => rfl
  | i + 1, h => by
    have ih := blocker_min fam i (by omega)
    have hc : (i : Int) ∈ R16 := r16_mem.mpr (by omega)
    rw [rk_succ, List.foldl_append, ih, List.filter_append, List.map_append, List.foldl_cons, List.foldl_nil]
    have hf : (((rangeKs 0 i).filter (minP (blocks fam))).map points).filter (noneOf (points (i : Int))) = [] ↔ ∀ d ∈ rangeKs 0 i, minP (blocks fam) d = true → sub d (i : Int) = false := by
      rw [fil_nil]
      constructor
      · intro q d hd hm
        have := q (points d) (List.mem_map.mpr ⟨d, List.mem_filter.mpr ⟨hd, hm⟩, rfl⟩)
        have hd' := rk_mem.mp hd
        rwa [a1 (r16_mem.mpr (by omega)) hc] at this
      · intro q l hl
        obtain ⟨d, hd, rfl⟩ := List.mem_map.mp hl
        obtain ⟨hd, hm⟩ := List.mem_filter.mp hd
        have hd' := rk_mem.mp hd
        rw [a1 (r16_mem.mpr (by omega)) hc]
        exact q d hd hm
    by_cases hP : fam.filter (allOf (points (i : Int))) = []
    · by_cases hF : (((rangeKs 0 i).filter (minP (blocks fam))).map points).filter (noneOf (points (i : Int))) = []
      · rw [bs_add hF hP]
        have : minP (blocks fam) (i : Int) = true := by
          refine minP_iff.mpr ⟨decide_eq_true hP, fun d hd h1 h2 => Classical.byContradiction fun h3 => ?_⟩
          have hlt := a5 hd hc h2 h3
          obtain ⟨m, hm, h4, h5⟩ := min_below (blocks fam) 16 d hd (by have := (r16_mem.mp hd).2; omega) h1
          have hmc := a4 hm hd hc h5 h2
          have hmd : m ≤ d := by
            by_cases e : m = d
            · omega
            · have := a5 hm hd h5 e; omega
          have := hf.mp hF m (rk_mem.mpr ⟨(r16_mem.mp hm).1, by omega⟩) h4
          rw [hmc] at this; cases this
        rw [List.filter_cons, if_pos this, List.filter_nil]; rfl
      · rw [bs_skip1 hF]
        have : ¬ minP (blocks fam) (i : Int) = true := fun q => hF (hf.mpr fun d hd hm => by
          cases hs : sub d (i : Int) with
          | false => rfl
          | true =>
            have hd' := rk_mem.mp hd
            have := (minP_iff.mp q).2 d (r16_mem.mpr (by omega)) (minP_iff.mp hm).1 hs
            omega)
        rw [List.filter_cons, if_neg this, List.filter_nil, List.map_nil, List.append_nil]
    · rw [bs_skip2 hP]
      have : ¬ minP (blocks fam) (i : Int) = true := fun q => hP (of_decide_eq_true (minP_iff.mp q).1)
      rw [List.filter_cons, if_neg this, List.filter_nil, List.map_nil, List.append_nil]
theorem blockerF_eq (fam : List (List Int)) : blockerF fam = (R16.filter (minP (blocks fam))).map points := blocker_min fam 16 (Nat.le_refl _)
theorem least_min (cs : List Int) (hcs : ∀ c ∈ cs, 0 ≤ c ∧ c < 16) : ∀ i : Nat, i ≤ 16 → (rangeKs 0 i).foldl (leastStep cs) [] = ((rangeKs 0 i).filter (minP cs.contains)).map points
  | 0, _ => rfl
  | i + 1, h => by
    have ih := least_min cs hcs i (by omega)
    rw [rk_succ, List.foldl_append, ih, List.filter_append, List.map_append, List.foldl_cons, List.foldl_nil]
    have hl : cs.filter (fun o => decide (lessB (i : Int) o)) = [] ↔ ∀ d ∈ R16, cs.contains d = true → sub d (i : Int) = true → d = (i : Int) := by
      rw [fil_nil]
      constructor
      · intro q d hd h1 h2
        have := q d (by simpa using h1)
        refine Classical.byContradiction fun h3 => ?_
        exact absurd ⟨h3, by simpa [sub] using h2⟩ (of_decide_eq_false this)
      · intro q o ho
        refine decide_eq_false fun hh => hh.1 (q o (r16_mem.mpr (hcs o ho)) (by simpa using ho) (by simpa [sub] using hh.2))
    by_cases h1 : cs.contains (i : Int) = true
    · by_cases h2 : cs.filter (fun o => decide (lessB (i : Int) o)) = []
      · rw [ls_add h1 h2]
        have : minP cs.contains (i : Int) = true := minP_iff.mpr ⟨h1, hl.mp h2⟩
        rw [List.filter_cons, if_pos this, List.filter_nil]; rfl
      · rw [ls_skip2 h2]
        have : ¬ minP cs.contains (i : Int) = true := fun q => h2 (hl.mpr (minP_iff.mp q).2)
        rw [List.filter_cons, if_neg this, List.filter_nil, List.map_nil, List.append_nil]
    · rw [ls_skip1 (by simpa using h1)]
      have : ¬ minP cs.contains (i : Int) = true := fun q => h1 (minP_iff.mp q).1
      rw [List.filter_cons, if_neg this, List.filter_nil, List.map_nil, List.append_nil]
theorem leastF_eq (cs : List Int) (hcs : ∀ c ∈ cs, 0 ≤ c ∧ c < 16) : leastF cs = (R16.filter (minP cs.contains)).map points := least_min cs hcs 16 (Nat.le_refl _)
def meets (cs : List Int) (c : Int) : Bool := decide (cs.filter (fun o => decide (Builtin.bitAnd o c = 0)) = [])
def meetF (cs : List Int) : List Int := (rangeKs 0 16).filter (meets cs)
theorem meets_iff {cs : List Int} {c : Int} : meets cs c = true ↔ ∀ o ∈ cs, hit o c = true := by
  unfold meets
  rw [decide_eq_true_iff, fil_nil]
  exact forall_congr' fun o => forall_congr' fun _ => by simp [hit]
theorem meetF_range (cs : List Int) : ∀ c ∈ meetF cs, 0 ≤ c ∧ c < 16 := fun c hc => r16_mem.mp (List.mem_filter.mp hc).1
theorem meetF_contains {cs : List Int} {c : Int} (hc : c ∈ R16) : (meetF cs).contains c = meets cs c := by
  rw [Bool.eq_iff_iff]
  constructor
  · intro h; exact (List.mem_filter.mp (by simpa using h : c ∈ meetF cs)).2
  · intro h
    have hm : c ∈ meetF cs := List.mem_filter.mpr ⟨hc, h⟩
    exact List.contains_iff_mem.mpr hm
theorem blocks_points {ms : List Int} (hms : ∀ c ∈ ms, c ∈ R16) {c : Int} (hc : c ∈ R16) : blocks (ms.map points) c = true ↔ ∀ o ∈ ms, hit o c = true := by
  unfold blocks
  rw [decide_eq_true_iff, fil_nil]
  constructor
  · intro q o ho
    have := q (points o) (List.mem_map.mpr ⟨o, ho, rfl⟩)
    rw [a2 (hms o ho) hc] at this
    simpa using this
  · intro q l hl
    obtain ⟨o, ho, rfl⟩ := List.mem_map.mp hl
    rw [a2 (hms o ho) hc, q o ho]; rfl
theorem filter_min {P Q : Int → Bool} (h : ∀ d ∈ R16, minP P d = minP Q d) : R16.filter (minP P) = R16.filter (minP Q) := List.filter_congr h
theorem plain1 (cs : List Int) (hcs : ∀ c ∈ cs, 0 ≤ c ∧ c < 16) : blockerF (cs.map points) = leastF (meetF cs) := by
  rw [blockerF_eq, leastF_eq _ (meetF_range cs)]
  refine congrArg (List.map points) (filter_min fun d hd => minP_congr (fun c hc => ?_) hd)
  rw [meetF_contains hc, Bool.eq_iff_iff, blocks_points (fun c hc => r16_mem.mpr (hcs c hc)) hc, meets_iff]
theorem plain2 (cs : List Int) (hcs : ∀ c ∈ cs, 0 ≤ c ∧ c < 16) : blockerF (leastF (meetF cs)) = leastF cs := by
  have hcR : ∀ c ∈ cs, c ∈ R16 := fun c hc => r16_mem.mpr (hcs c hc)
  rw [blockerF_eq, leastF_eq cs hcs, leastF_eq _ (meetF_range cs)]
  have hup : ∀ c ∈ R16, blocks ((R16.filter (minP (meetF cs).contains)).map points) c = true ↔ ∃ f ∈ cs, sub f c = true := by
    intro c hc
    rw [blocks_points (fun c hc => (List.mem_filter.mp hc).1) hc]
    constructor
    · intro q
      refine Classical.byContradiction fun hn => ?_
      have h15 : 15 - c ∈ R16 := by have := r16_mem.mp hc; exact r16_mem.mpr (by omega)
      have hm : (meetF cs).contains (15 - c) = true := by
        rw [meetF_contains h15]
        exact meets_iff.mpr fun o ho => a7 (hcR o ho) hc fun h => hn ⟨o, ho, h⟩
      obtain ⟨m, hmR, hmm, hms⟩ := min_below (meetF cs).contains 16 (15 - c) h15 (by have := (r16_mem.mp h15).2; omega) hm
      have h1 := q m (List.mem_filter.mpr ⟨hmR, hmm⟩)
      rw [a8 hmR hc hms] at h1; cases h1
    · rintro ⟨f, hf, hs⟩ m hm
      obtain ⟨hmR, hmm⟩ := List.mem_filter.mp hm
      have h1 := (minP_iff.mp hmm).1
      rw [meetF_contains hmR] at h1
      exact a6 (hcR f hf) hmR hc hs (meets_iff.mp h1 f hf)
  refine congrArg (List.map points) (filter_min fun d hd => ?_)
  rw [Bool.eq_iff_iff, minP_iff, minP_iff, hup d hd]
  constructor
  · rintro ⟨⟨f, hf, hs⟩, h2⟩
    have : f = d := h2 f (hcR f hf) ((hup f (hcR f hf)).mpr ⟨f, hf, a3 (hcR f hf)⟩) hs
    subst this
    exact ⟨by simpa using hf, fun e he h3 h4 => h2 e he ((hup e he).mpr ⟨e, by simpa using h3, a3 he⟩) h4⟩
  · rintro ⟨h1, h2⟩
    refine ⟨⟨d, by simpa using h1, a3 hd⟩, fun e he h3 h4 => ?_⟩
    obtain ⟨f, hf, hs⟩ := (hup e he).mp h3
    have hfd : f = d := h2 f (hcR f hf) (by simpa using hf) (a4 (hcR f hf) he hd hs h4)
    subst hfd
    refine Classical.byContradiction fun h5 => ?_
    have l1 := a5 he hd h4 h5
    have l2 := a5 hd he hs (fun e => h5 e.symm)
    omega
theorem min_len (l : List Int) (p : Int → Bool) (n : Nat) (h : l.length ≤ n) : ((l.filter p).map points).length ≤ n := by
  rw [List.length_map]; exact Nat.le_trans (List.length_filter_le _ _) h
theorem blockerF_len (fam : List (List Int)) : (blockerF fam).length ≤ 16 := by rw [blockerF_eq]; exact min_len _ _ _ (by decide)
theorem blockerF_items (fam : List (List Int)) : ∀ l ∈ blockerF fam, l.length ≤ 4 := by
  rw [blockerF_eq]; intro l hl
  obtain ⟨c, _, rfl⟩ := List.mem_map.mp hl
  exact points_len c
theorem meetF_len (cs : List Int) : (meetF cs).length ≤ 16 := Nat.le_trans (List.length_filter_le _ _) (by decide)
end Mine
end
section
open PySem PySem.W PyProof.Rows PySem.Spec PySem.Calls
set_option maxRecDepth 100000
namespace Mine
section
variable {prog : Program} {w : World} {A : Around} {s : Shared} {g : Heap} {L : Addr} {m : Str → Option Value} {env : Env} {elt : Expr} {x : Str} {scope : Scope} {cl : List (Str × Addr)} {S : List (Addr × Obj) → Prop} {Fin : List Value → List (Addr × Obj) → Prop} {base : List (Addr × Obj)}
def ListEnd (g : Heap) (L : Addr) (m : Str → Option Value) (made : List (Addr × Obj)) (s : Shared) (l : List Int) (v : Value) (s' : Shared) : Prop :=
  ∃ r ws n h' tk', v = .ref r ∧ s' = { s with heap := h', toks := tk' } ∧ IntsAre ws l ∧ Fr g L h' m ∧ News g L h' ((r, lo ws n) :: made) ∧ ∀ p ∈ made, @Ne Nat p.1 r
theorem crc_ind {vs : List Value} {ns : List Int} (gf : Int → List Int) (H : IntsAre vs ns) (hS : ∀ pl, S (pl ++ base))
    (turn : ∀ k t pl I oI C oC D ys m₂ h tk (E' : Value → Shared → Prop), k ∈ ns → LCg.NsObj oC m₂ → m₂ x = some (.int k t) → Fr g L h m → News g L h ((I, oI) :: (C, oC) :: (D, LCg.lst ys) :: (pl ++ base)) → ((@Ne Nat I C) ∧ (@Ne Nat I D) ∧ (@Ne Nat C D)) →
      wpAny (model prog w) A (eval elt (compEnvC scope cl C env)) (ListEnd g L m ((I, oI) :: (C, oC) :: (D, LCg.lst ys) :: (pl ++ base)) s (gf k)) E' { s with heap := h, toks := tk })
    (fin : ∀ ys pl, LL (fun a o => (a, o) ∈ pl) ys (ns.map gf) → Fin ys (pl ++ base)) :
    LCg.CompRest prog w A g L m env elt x scope cl s S (fun i v => vs.toArray[i]? = some v) Fin vs.toArray.size 0 [] base := by
  have key : ∀ (j i : Nat) (ys : List Value) (pl : List (Addr × Obj)), i + j = vs.length → LL (fun a o => (a, o) ∈ pl) ys ((ns.take i).map gf) →
      LCg.CompRest prog w A g L m env elt x scope cl s S (fun i v => vs.toArray[i]? = some v) Fin j i ys (pl ++ base) := by
    intro j
    induction j with
    | zero =>
      intro i ys pl hi hy
      have : ns.take i = ns := by rw [List.take_of_length_le]; rw [← H.length]; omega
      rw [this] at hy
      exact LCg.CompRest.zero (fin ys pl hy)
    | succ j ih =>
      intro i ys pl hi hy
      refine LCg.CompRest.succ ?_
      intro v I oI C oC D m₂ h tk E' hv hC hx F N off ne
      obtain ⟨k, t, rfl, hk⟩ := IntsAre.at H i v (by simpa using hv)
      have htake : (ns.take (i + 1)).map gf = (ns.take i).map gf ++ [gf k] := by
        rw [List.take_add_one, hk, List.map_append]; rfl
      refine wpAny_mono (turn k t pl I oI C oC D ys m₂ h tk E' (List.mem_of_getElem? hk) hC hx F N ne) (fun b s₂ hq => ?_) fun _ _ e => e
      obtain ⟨r, ws, n, h', tk', rfl, rfl, hws, F', N', nr⟩ := hq
      have o3 := off.mem
      refine LCg.CompEnd.intro F' N' ((r, lo ws n) :: pl ++ base) (fun p hp => ?_) (LCg.Off3.of fun p hp => ?_) (hS _) (ih (i + 1) _ ((r, lo ws n) :: pl) (by omega) ?_)
      · simp only [List.cons_append, List.mem_cons] at hp ⊢
        rcases hp with rfl | rfl | rfl | rfl | hp
        · simp
        · simp
        · simp
        · simp
        · simp only [hp, or_true]
      · rcases List.mem_cons.mp hp with rfl | hp
        · exact ⟨Ne.symm (nr (I, oI) (by simp)), Ne.symm (nr (C, oC) (by simp)), Ne.symm (nr (D, LCg.lst ys) (by simp))⟩
        · exact o3 p hp
      · rw [htake]
        exact (hy.imp fun a o hm => List.mem_cons_of_mem _ hm).append (.cons (n := n) List.mem_cons_self hws .nil)
  have := key vs.length 0 [] [] (by omega) (by simpa using LL.nil)
  rw [List.size_toArray]
  exact this
end
section
variable {w : World} {mean : ExcName → Option Value} {mg mb : Str → Option Value} {g h h' : Heap} {L : Addr} {m : Str → Option Value} {made : List (Addr × Obj)} {env : Env}
theorem cx0 (X : (lawTop.heap_39 w.params).In g) (T : Top PV LS mean mg mb g) (F : Fr g L h m) (hf : env.frame = some L) (hk : env.scope.kind ≠ .module) : Cx w mean mg mb g [env] h :=
  cx_of (s₀ := g) (fs := []) ⟨X, T, fun _ _ e => e, trivial⟩ (fun _ _ e => e) F (fr := []) (fun p hp => nomatch hp) ⟨rfl, fun p hp => nomatch hp⟩ hf hk
theorem after0 (F : Fr g L h m) (N : News g L h made) (hf : env.frame = some L) (U : Up [] (fad [env]) h h') : Fr g L h' m ∧ News g L h' made := by
  have e : fad [env] = L :: fad [] := by simp [fad, hf]
  rw [e] at U
  obtain ⟨fr', K', F', N'⟩ := after (fs := []) (s₀ := g) (fr := []) F (by rw [List.append_nil]; exact N) ⟨rfl, fun p hp => nomatch hp⟩ U (fun p hp => ⟨List.not_mem_nil, List.not_mem_nil⟩) (fun a ha => nomatch ha) List.not_mem_nil
  have : fr' = [] := List.map_eq_nil_iff.mp K'.1
  subst this
  rw [List.append_nil] at N'
  exact ⟨F', N'⟩
theorem new0 {r : Addr} {o : Obj} (F : Fr g L h m) (N : News g L h made) (N' : News g L h' made) (nr : h.get? r = none) (hr : h'.get? r = some o) : News g L h' ((r, o) :: made) ∧ ∀ p ∈ made, @Ne Nat p.1 r := by
  have nr' : ∀ a o, h.get? a = some o → a ≠ r := fun a o e q => by rw [q] at e; exact absurd (e.symm.trans nr) (by simp)
  refine ⟨fun p hp => ?_, fun p hp => nr' _ _ (N p hp).1⟩
  rcases List.mem_cons.mp hp with rfl | hp
  · refine ⟨hr, fun e => ?_, kts_none F.keep nr⟩
    obtain ⟨oL, _, _, hL, _⟩ := F.ns
    exact nr' _ _ hL e.symm
  · exact N' p hp
theorem ll0 {pl : List (Addr × Obj)} {vs : List Value} {ls : List (List Int)} (N : News g L h made) (hf : env.frame = some L) (sb : ∀ p ∈ pl, p ∈ made) (H : LL (fun a o => (a, o) ∈ pl) vs ls) : LL (fun a o => h.get? a = some o ∧ a ∉ fad [env]) vs ls :=
  H.imp fun a o hm => ⟨(N _ (sb _ hm)).1, by
    have e : fad [env] = [L] := by simp [fad, hf]
    rw [e, List.mem_singleton]; exact (N _ (sb _ hm)).2.1⟩
theorem nf {a : Addr} (hf : env.frame = some L) (ha : @Ne Nat a L) : a ∉ fad [env] := by
  have e : fad [env] = [L] := by simp [fad, hf]
  rw [e, List.mem_singleton]; exact ha
theorem ll_pl {P : Addr → Obj → Prop} : ∀ {vs : List Value} {ls : List (List Int)}, LL P vs ls → ∃ pl : List (Addr × Obj), LL (fun a o => (a, o) ∈ pl) vs ls ∧ ∀ p ∈ pl, P p.1 p.2
  | _, _, .nil => ⟨[], .nil, fun p hp => nomatch hp⟩
  | _, _, .cons (a := a) (ws := ws) (n := n) hP hI H => by
    obtain ⟨pl, H1, H2⟩ := ll_pl H
    refine ⟨(a, lo ws n) :: pl, .cons (n := n) List.mem_cons_self hI (H1.imp fun a o hm => List.mem_cons_of_mem _ hm), fun p hp => ?_⟩
    rcases List.mem_cons.mp hp with rfl | hp
    · exact hP
    · exact H2 p hp
theorem new_pl {pl : List (Addr × Obj)} (F : Fr g L h m) (hp : ∀ p ∈ pl, h'.get? p.1 = some p.2 ∧ h.get? p.1 = none) : News g L h' pl := fun p hm => by
  obtain ⟨h1, h2⟩ := hp p hm
  refine ⟨h1, fun e => ?_, kts_none F.keep h2⟩
  obtain ⟨oL, _, _, hL, _⟩ := F.ns
  rw [e, hL] at h2; cases h2
theorem ll1 {vs : List Value} {ls : List (List Int)} {fs : List Env} (H : LL (fun a o => h'.get? a = some o ∧ h.get? a = none) vs ls) (U : ∀ a ∈ fad fs, ∃ o, h.get? a = some o) : LL (fun a o => h'.get? a = some o ∧ a ∉ fad fs) vs ls :=
  H.imp fun a o hm => ⟨hm.1, fun hq => by
    obtain ⟨o', e⟩ := U a hq
    rw [hm.2] at e; cases e⟩
theorem ll_keep {vs : List Value} {ls : List (List Int)} {h1 h2 h3 : Heap} {fs : List Env} (H : LL (fun a o => h2.get? a = some o ∧ h1.get? a = none) vs ls) (U : ∀ a ∈ fad fs, ∃ o, h1.get? a = some o) (K : Up [] (fad fs) h2 h3) : LL (fun a o => h3.get? a = some o) vs ls :=
  (ll1 H U).imp fun a o hm => K.keep a o hm.1 List.not_mem_nil hm.2
theorem fad_in (F : Fr g L h m) (hf : env.frame = some L) : ∀ a ∈ fad [env], ∃ o, h.get? a = some o := fun a ha => by
  have e : fad [env] = [L] := by simp [fad, hf]
  rw [e, List.mem_singleton] at ha
  obtain ⟨oL, _, _, hL, _⟩ := F.ns
  exact ⟨oL, ha ▸ hL⟩
end
end Mine
end
section
open PySem PySem.W PyProof.Rows PySem.Spec PySem.Calls
set_option maxRecDepth 100000
namespace Mine
theorem abs_cs {ys : List Value} {l : List Int} (H : IntsAre ys (List.map (fun k' => (k' + 5).fmod 16) (List.take 5 l))) : ∃ cs : List Int, IntsAre ys cs ∧ cs.length ≤ 5 ∧ ∀ c ∈ cs, 0 ≤ c ∧ c < 16 := by
  refine ⟨_, H, ?_, fun c hc => ?_⟩
  · rw [List.length_map, List.length_take]; exact Nat.min_le_left _ _
  · obtain ⟨k, _, rfl⟩ := List.mem_map.mp hc
    rw [Int.fmod_eq_emod_of_nonneg _ (by decide)]
    exact ⟨Int.emod_nonneg _ (by decide), Int.emod_lt_of_pos _ (by decide)⟩
theorem strip6 {g h : Heap} {L : Addr} {a b c d e f : Addr × Obj} (N : News g L h [a, b, c, d, e, f]) : News g L h [a, f] := fun p hp => N p (by
  simp only [List.mem_cons, List.not_mem_nil, or_false] at hp ⊢
  rcases hp with h | h
  · exact .inl h
  · exact .inr (.inr (.inr (.inr (.inr h)))))
theorem foldl_hit (c : Int) (cs : List Int) : cs.foldl (fun l k => if Builtin.bitAnd k c = 0 then l ++ [k] else l) [] = cs.filter (fun o => decide (Builtin.bitAnd o c = 0)) := by
  have : ∀ (cs l : List Int), cs.foldl (fun l k => if Builtin.bitAnd k c = 0 then l ++ [k] else l) l = l ++ cs.filter (fun o => decide (Builtin.bitAnd o c = 0)) := by
    intro cs
    induction cs with
    | nil => intro l; simp
    | cons a r ih =>
      intro l
      rw [List.foldl_cons, ih, List.filter_cons]
      by_cases h : Builtin.bitAnd a c = 0
      · simp [h]
      · simp [h]
  simpa using this cs []
local macro_rules | `(tactic| walk_at "eval ListComp") => `(tactic| (k_here; lct_look; k_dflt (refine LCt.ListComp_T (F₀ := by k_asm) (by with_unfolding_all rfl) (by decide) (by rfl) (by decide) (by rfl) ?_)))
set_option maxHeartbeats 8000000 in
theorem law_holds : PySem.Challenge.rw_ik0010_01.Holds := lawTop (by
  w_top off
  k_go0
  (all_goals try k_fold)
  k_steps
  rename Fr _ _ _ _ => F
  rename News _ _ _ _ => N
  rename IntsAre _ (List.map _ _) => HI
  rename_i hL8 DI h1 tk1 o1 hh oo dd
  obtain ⟨cs, HC, hlen, hrange⟩ := abs_cs HI
  clear HI hL8
  replace N := strip6 N
  k_dflt (refine Assign_cell (n := 16) (meets cs) F N (by rfl) (by rfl) (by rfl) (by with_unfolding_all rfl) (by rfl) (by decide) (fun _ => by with_unfolding_all rfl) (fun _ => by with_unfolding_all rfl) (by with_unfolding_all rfl) (by rfl) (by rfl) (by decide) ?_ ?_ ?_)
  · k_steps
    rename Fr _ _ _ _ => F2
    rename News _ _ _ _ => N2
    rename IsRange _ _ _ _ _ _ _ _ => hR
    exact ⟨_, _, _, _, _, _, _, rfl, rfl, hR, by decide, rfl, F2, fun p hp => N2 p (by simp only [List.mem_cons, List.not_mem_nil, or_false] at hp ⊢; first | exact .inr hp | exact hp)⟩
  · intro i t I oI C oC c oc D ys2 h tk E' hi doc F2 N2 off2 ne2
    obtain ⟨e1, e2, e3, e4, e5, e6⟩ := ne2
    have x1 := off2 (DI, _) List.mem_cons_self
    have x2 := off2 _ (List.mem_cons_of_mem _ List.mem_cons_self)
    clear off2
    k_steps
    rename Fr _ _ _ _ => F3
    rename News _ _ _ _ => N3
    k_dflt (refine LCt.CompSrcT.ledger (by rfl) F3 N3 (its := ys.toArray) (k := ys.length) (by simp) (by rw [List.size_toArray, sizeLine_eq, HC.length]; omega) ?_)
    intro g7
    k_dflt (refine kci_list (fun l k => if Builtin.bitAnd k (i : Int) = 0 then l ++ [k] else l) HC (fun k' t' I' oI' C' oC' D' m' ys' l' h' tk' E'' hk' hI' hC' hx' F' N' off' ne' hMark' => ?_) ?_ ?_)
    · k_steps
      · refine LCg.CompEnd.intro (by assumption) (by assumption) _ (fun _ h => h) (by assumption) (.inr ⟨LCg.lst ys, by simp, rfl, _, rfl⟩) ?_
        exact ⟨rfl, _, _, rfl, if_pos (by assumption)⟩
      · refine LCg.CompEnd.intro (by assumption) (by assumption) _ (fun _ h => h) (by assumption) (.inr ⟨LCg.lst ys, by simp, rfl, _, rfl⟩) ?_
        exact ⟨rfl, if_neg (by assumption)⟩
    · unfold KPfDone
      intro ys3 hys hlen2
      rw [foldl_hit] at hys
      unfold LCg.FinE
      intro D8 h8 tk8 F8 N8 off8
      dsimp only
      iterate 3 (first | walk1 | (dsimp only; walk1))
      rename Fr _ _ _ _ => F9
      rename News _ _ _ _ => N9
      k_dflt (refine W.ke_eq_ints (isList_lo (N9 (D8, lo ys3 ys3.length) (by simp)).1) (isList_lo (vs := []) (N9 _ List.mem_cons_self).1) hys .nil ?_ ?_)
      · show 4 + 3 + 64 < cLine
        decide
      by_cases hcond : cs.filter (fun o => decide (Builtin.bitAnd o (i : Int) = 0)) = []
      · rw [decide_eq_true hcond]
        k_steps
        rename Fr _ _ _ _ => F11
        rename News _ _ _ _ => N11
        exact ⟨_, _, rfl, F11, fun p hp => N11 p (by first | exact hp | exact List.mem_cons_of_mem _ hp | exact List.mem_cons_of_mem _ (List.mem_cons_of_mem _ hp)), decide_eq_true hcond, t, rfl⟩
      · rw [decide_eq_false hcond]
        k_steps
        rename Fr _ _ _ _ => F11
        rename News _ _ _ _ => N11
        exact ⟨_, _, rfl, F11, fun p hp => N11 p (by first | exact hp | exact List.mem_cons_of_mem _ hp | exact List.mem_cons_of_mem _ (List.mem_cons_of_mem _ hp)), decide_eq_false hcond⟩
    · intro l k
      dsimp only
      split
      · rw [List.length_append]; exact Nat.le_refl _
      · exact Nat.le_succ _
  · intro D h tk ys2 F2 N2 off2 H2
    have H2' : IntsAre ys2 (meetF cs) := H2
    clear H2
    have y1 := off2 (DI, _) List.mem_cons_self
    have y2 := off2 _ (List.mem_cons_of_mem _ List.mem_cons_self)
    clear off2 F N
    rename (lawTop.heap_39 _).In _ => KX
    rename Top _ _ _ _ _ _ => T
    iterate 6 (first | walk1 | (dsimp only; walk1))
    rename Fr _ _ _ _ => F3
    rename News _ _ _ _ => N3
    k_dflt (refine LCg.ListComp_U (F₀ := F3) (by with_unfolding_all rfl) (by decide) (by rfl) (by decide) (by rfl) ?_)
    walk1
    k_dflt (refine LCg.CompSrc.ledger (by rfl) F3 N3 (its := ys.toArray) (k := ys.length) (by simp) (by rw [List.size_toArray, sizeLine_eq, HC.length]; omega) ?_)
    intro g9
    k_dflt (refine crc_ind points HC (fun pl => .inr ⟨LCg.lst ys, by simp, rfl, _, rfl⟩) (fun k t pl I oI C oC DC zs m₂ h tk E' hk hC hx F4 N4 ne4 => ?_) (fun zs pl HZ => ?_))
    · iterate 8 (first | walk1 | (dsimp only; walk1))
      have hk16 := hrange k hk
      k_dflt (refine lp_spec (fs := [_]) hk16.1 hk16.2 (cx0 KX T F4 rfl (by intro e; cases e)) ?_ ?_ (fun r ws h12 tk12 U12 nr hr hws => ?_))
      · show 1 + claimMargin + 1 + 4 < recursionLimit
        decide
      · show 4 + 3 + 64 < cLine
        decide
      obtain ⟨F13, N13⟩ := after0 F4 N4 rfl U12
      obtain ⟨N14, n14⟩ := new0 F4 N4 N13 nr hr
      exact ⟨r, ws, _, h12, _, rfl, rfl, hws, F13, N14, n14⟩
    unfold LCg.FinE
    intro D8 h8 tk8 F8 N8 off8
    dsimp only
    iterate 2 (first | walk1 | (dsimp only; walk1))
    k_dflt (refine bk_spec (fs := [_]) (cx0 KX T F8 rfl (by intro e; cases e)) ?_ ?_ (N8 _ List.mem_cons_self).1 (nf rfl (N8 _ List.mem_cons_self).2.1) (ll0 N8 rfl (fun p hp => List.mem_cons_of_mem _ (List.mem_append_left _ hp)) HZ) (by rw [List.length_map]; omega) (fun l hl => by
      obtain ⟨c, _, rfl⟩ := List.mem_map.mp hl
      exact Nat.le_trans (points_len c) (by decide)) (fun r rs n h12 tk12 U12 nr hr HL => ?_))
    · show 1 + claimMargin + 1 + 16 < recursionLimit
      decide
    · show 4 + 3 + 200 < cLine
      decide
    rw [plain1 cs hrange] at HL
    obtain ⟨F13, N13⟩ := after0 F8 N8 rfl U12
    obtain ⟨N14, n14⟩ := new0 F8 N8 N13 nr hr
    obtain ⟨pl2, HP, hpl2⟩ := ll_pl HL
    have NP := new_pl F8 hpl2
    have N15 : News _ _ h12 ((r, lo rs n) :: (D, LCg.lst ys2) :: (DI, LCg.lst ys) :: (_, oo) :: pl2) := fun p hp => by
      rcases List.mem_cons.mp hp with rfl | hp
      · exact N14 _ List.mem_cons_self
      rcases List.mem_cons.mp hp with rfl | hp
      · exact N13 _ (List.mem_cons_of_mem _ (List.mem_append_right _ List.mem_cons_self))
      rcases List.mem_cons.mp hp with rfl | hp
      · exact N13 _ (List.mem_cons_of_mem _ (List.mem_append_right _ (List.mem_cons_of_mem _ List.mem_cons_self)))
      rcases List.mem_cons.mp hp with rfl | hp
      · exact N13 _ (List.mem_cons_of_mem _ (List.mem_append_right _ (List.mem_cons_of_mem _ (List.mem_cons_of_mem _ List.mem_cons_self))))
      · exact NP p hp
    clear N14 N13 NP n14 N8 off8 F8 N3 F3
    iterate 13 (first | walk1 | (dsimp only; walk1))
    rename Fr _ _ _ _ => F16
    rename News _ _ _ _ => N16
    k_dflt (refine le_spec (fs := [_]) (cx0 KX T F16 rfl (by intro e; cases e)) ?_ ?_ (N16 (D, LCg.lst ys2) (by simp)).1 (nf rfl (N16 (D, LCg.lst ys2) (by simp)).2.1) H2' (Nat.le_trans (meetF_len cs) (by decide)) (fun r2 rs2 n2 h22 tk22 U22 nr2 hr2 HL2 => ?_))
    · show 1 + claimMargin + 1 + 16 < recursionLimit
      decide
    · show 4 + 3 + 200 < cLine
      decide
    obtain ⟨F22, N22⟩ := after0 F16 N16 rfl U22
    dsimp only
    k_dflt (refine ne_LL (N22 (r, lo rs n) (by simp)).1 hr2 (fun a o hm => (N22 (a, o) (by simp [hm])).1) (fun a o hm => hm.1) HP HL2 ?_ ?_)
    · show 4 + 3 + 64 < cLine
      decide
    rw [show decide (leastF (meetF cs) = leastF (meetF cs)) = true from decide_eq_true rfl, Bool.not_true]
    clear N16 F16
    iterate 13 (first | walk1 | (dsimp only; walk1))
    k_dflt (refine bk_spec (fs := [_]) (cx0 KX T F22 rfl (by intro e; cases e)) ?_ ?_ (N22 (r, lo rs n) (by simp)).1 (nf rfl (N22 (r, lo rs n) (by simp)).2.1) (ll0 (pl := pl2) N22 rfl (fun p hp => by simp [hp]) HP) (by rw [← plain1 cs hrange]; exact Nat.le_trans (blockerF_len _) (by decide)) (fun l hl => by
      rw [← plain1 cs hrange] at hl
      exact Nat.le_trans (blockerF_items _ l hl) (by decide)) (fun r3 rs3 n3 h32 tk32 U32 nr3 hr3 HL3 => ?_))
    · show 1 + claimMargin + 1 + 16 < recursionLimit
      decide
    · show 4 + 3 + 200 < cLine
      decide
    obtain ⟨F32, N32⟩ := after0 F22 N22 rfl U32
    dsimp only
    iterate 7 (first | walk1 | (dsimp only; walk1))
    k_dflt (refine le_spec (fs := [_]) (cx0 KX T F32 rfl (by intro e; cases e)) ?_ ?_ (N32 (DI, LCg.lst ys) (by simp)).1 (nf rfl (N32 (DI, LCg.lst ys) (by simp)).2.1) HC (Nat.le_trans hlen (by decide)) (fun r4 rs4 n4 h42 tk42 U42 nr4 hr4 HL4 => ?_))
    · show 1 + claimMargin + 1 + 16 < recursionLimit
      decide
    · show 4 + 3 + 200 < cLine
      decide
    obtain ⟨F42, N42⟩ := after0 F32 N32 rfl U42
    have HL5 := ll_keep HL3 (by exact fad_in F22 rfl) U42
    have hr3' := U42.keep r3 _ hr3 List.not_mem_nil (fun hq => by
      obtain ⟨o', e⟩ := fad_in F22 (by rfl) r3 hq
      rw [nr3] at e; cases e)
    dsimp only
    k_dflt (refine eq_LL hr3' hr4 (fun a o hm => hm) (fun a o hm => hm.1) HL5 HL4 ?_ ?_)
    · show 4 + 3 + 64 < cLine
      decide
    rw [show decide (blockerF (leastF (meetF cs)) = leastF cs) = true from decide_eq_true (plain2 cs hrange)]
    k_steps)
end Mine
end
theorem PySem.Challenge.cw_ik0010_01_holds : PySem.Challenge.rw_ik0010_01.Holds := by
  exact Mine.law_holds
