import PyProof.Rows.All
import Wide.All
import OpenK.AllK
import Wide.FinOn
import Lean
import PySem.Challenge.RW_qh0109_01
open PySem PySem.W PyProof.Rows PySem.Calls
set_option Elab.async false
set_option linter.all false
set_option linter.unusedVariables false
set_option maxRecDepth 100000
set_option maxHeartbeats 8000000
namespace Mine
local macro_rules | `(tactic| walk_at $s:str) => `(tactic| k_extra $s)
open_top hd for PySem.Challenge.rw_qh0109_01
section
variable {h₀ h h' : Heap} {L : Addr} {m : Str → Option Value} {news : List (Addr × Obj)}
theorem frStays (F : Fr h₀ L h m) (st : h.StaysIn h') : Fr h₀ L h' m := by
  obtain ⟨⟨oL, es, ep, hL, hr⟩, hk, ha⟩ := F
  exact ⟨⟨oL, es, ep, st _ _ hL, hr⟩, fun b o e => st _ _ (hk b o e), ha⟩
theorem newsStays (N : News h₀ L h news) (st : h.StaysIn h') : News h₀ L h' news :=
  fun p hp => ⟨st _ _ (N p hp).1, (N p hp).2⟩
theorem newsCons {a : Addr} {o : Obj} (F : Fr h₀ L h m) (N : News h₀ L h news) (st : h.StaysIn h') (ho : h'.get? a = some o) (hn : h.objs.size ≤ a) : News h₀ L h' ((a, o) :: news) := by
  intro p hp
  rcases List.mem_cons.mp hp with rfl | hp
  · refine ⟨ho, fun q => ?_, ?_⟩
    · have q' : a = L := q
      exact absurd (Nat.lt_of_lt_of_le F.ns.lt hn) (q' ▸ Nat.lt_irrefl _)
    · cases hq : h₀.get? a with
      | none => rfl
      | some o' => exact absurd (Nat.lt_of_lt_of_le (Heap.lt_size (F.keep _ _ hq)) hn) (Nat.lt_irrefl _)
  · exact newsStays N st p hp
theorem newsLt {a : Addr} (N : News h₀ L h news) (hn : h.objs.size ≤ a) : ∀ p ∈ news, p.1 < a :=
  fun p hp => Nat.lt_of_lt_of_le (Heap.lt_size (N p hp).1) hn
end

section
variable {prog : Program} {w : World} {A₀ A : Around} {s : Shared} {base h₀ : Heap} {outer : List Env} {L : Addr} {m mg mb : Str → Option Value} {env : Env} {K : Frag} {p : Program} {loose : List Str} {mean : ExcName → Option Value}
  {R : Result → Shared → Prop} {name qual : Str} {params : Arguments} {body : List Stmt} {scope : Scope} {dV kV doc pm cdv ct oc : Value} {an od : Option Addr} {osl : Array (Option Value)} {f : Addr} {args : Args} {binds : List (Str × Value)}
theorem enterS
    (B : Below A₀ base outer h₀) (F : Fr h₀ L s.heap m) (X₀ : K.In h₀) (T : Top p loose mean mg mb h₀) (hA : A.frames = some (env :: outer)) (hf : env.frame = some L) (hke : env.scope.kind = .function)
    (ho : K.lookup f = some ⟨oc, od, .func (fnOf name qual params body scope dV kV doc pm an cdv ct), osl⟩) (hcd : codeIn K cdv qual = true) (hroom : A.depth < recursionLimit)
    (hbind : BindsTo s (fnOf name qual params body scope dV kV doc pm an cdv ct) args binds) (hloc : ∀ y ∈ binds, scope.names.lookup y.1 = some .local)
    (h : ∀ L' h₁, Fr s.heap L' h₁ (fun y => binds.reverse.lookup y) → News s.heap L' h₁ [] → Below A base (env :: outer) s.heap → K.In s.heap → Top p loose mean mg mb s.heap →
      wpAny (model prog w) (A.deeper (envOf qual scope L' f cdv)) (execs body (envOf qual scope L' f cdv))
        (fun fl s' => R (.ok (.ret (match fl with | .ret v => v | _ => .none))) s')
        (fun e s' => wpAny (model prog w) (A.deeper (envOf qual scope L' f cdv)) (leaving (envOf qual scope L' f cdv) e) (fun _ s'' => R (.error e) s'') (fun e' s'' => R (.error e') s'') s')
        { s with heap := h₁, toks := s.toks + binds.length })
    (hco : scope.isCoroutine = false) (hgen : scope.isGenerator = false) (hk : scope.kind = .function)
    (hcell : ∀ x ∈ scope.names, x.2 ≠ .cell) : codeAny (model prog w) A (.call (.ref f) args) R s := by
  obtain ⟨_, BG, st, _⟩ := groundX (R := R) B F (News.nil) hA hf hke
  refine codeAny_call_def (fd := fnOf name qual params body scope dV kV doc pm an cdv ct) (body := body) (binds := binds) hroom ((X₀.keeps F.keep) _ _ ho) rfl (T.nolimit.keeps F.keep) (codeRec_of (X₀.keeps F.keep) hcd) rfl hbind hcell hloc (fun h₁ hns hk₁ => ?_) hco hgen hk
  exact h s.heap.objs.size h₁ ⟨hns, hk₁, Nat.le_refl _⟩ News.nil BG (X₀.keeps st) (T.keeps st)

theorem enterSC
    (B : Below A₀ base outer h₀) (F : Fr h₀ L s.heap m) (X₀ : K.In h₀) (T : Top p loose mean mg mb h₀) (hA : A.frames = some (env :: outer)) (hf : env.frame = some L) (hke : env.scope.kind = .function)
    (ho : K.lookup f = some ⟨oc, od, .func (fnOf name qual params body scope dV kV doc pm an cdv ct), osl⟩) (hcd : codeIn K cdv qual = true) (hroom : A.depth < recursionLimit)
    (hbind : BindsTo s (fnOf name qual params body scope dV kV doc pm an cdv ct) args binds) (hkind : (binds.all fun y => scope.names.lookup y.1 == some .local || scope.names.lookup y.1 == some .cell) = true)
    (hnd : ((cellsFrom 0 scope.names []).map (·.1)).Nodup)
    (h : ∀ L' h₁ tk cells, Fr s.heap L' h₁ (bindL (envOfC qual scope L' f cdv).kindOf binds fun _ => none) → News s.heap L' h₁ cells →
      CellsAre (bindC (envOfC qual scope L' f cdv).kindOf binds fun _ => none) (cellsFrom (L' + 1) scope.names []) cells → Below A base (env :: outer) s.heap → K.In s.heap → Top p loose mean mg mb s.heap →
      wpAny (model prog w) (A.deeper (envOfC qual scope L' f cdv)) (execs body (envOfC qual scope L' f cdv))
        (fun fl s' => R (.ok (.ret (match fl with | .ret v => v | _ => .none))) s')
        (fun e s' => wpAny (model prog w) (A.deeper (envOfC qual scope L' f cdv)) (leaving (envOfC qual scope L' f cdv) e) (fun _ s'' => R (.error e) s'') (fun e' s'' => R (.error e') s'') s')
        { s with heap := h₁, toks := tk })
    (hco : scope.isCoroutine = false) (hgen : scope.isGenerator = false) (hk : scope.kind = .function) : codeAny (model prog w) A (.call (.ref f) args) R s := by
  obtain ⟨_, BG, st, _⟩ := groundX (R := R) B F (News.nil) hA hf hke
  refine codeAny_call_function hroom ((X₀.keeps F.keep) _ _ ho) rfl hco hgen rfl (codeRec_of (X₀.keeps F.keep) hcd) (hbind _ _ _ _ ?_)
  refine wpAny_newFunctionEnv_cells hk (kindsX hkind _) fun env' he s' x => ?_
  subst he
  refine ⟨(T.nolimit.keeps F.keep).keeps x.toInCall.keep, codeAny_func ?_⟩
  obtain ⟨h₁, tk, rfl, _⟩ := x.done
  have hk₁ := x.toInCall.keep
  obtain ⟨cells, NC, Y⟩ := Cl.news (h₀ := s.heap) (Nat.le_refl _) fun n c hm => ⟨x.cell n c (lookup_of_mem_nodup (cellsFrom_names scope.names 0 (s.heap.objs.size + 1) [] [] rfl ▸ hnd) hm), x.above n c hm⟩
  exact h s.heap.objs.size h₁ tk cells ⟨x.toInCall.ns, fun b o e => hk₁ b o e, Nat.le_refl _⟩ (fun p hp => NC p hp) Y BG (X₀.keeps st) (T.keeps st)
end
/-- room for so many more frames -/
structure Room (dp un need : Nat) : Prop where
  room : dp + need < recursionLimit
  units : un + 8 * need < cLine
/-- the call of f gives back a value of which P, and changes nothing that stood -/
noncomputable def Calls (w : World) (f : Addr) (args : List Value) (kw : List (Str × Value)) (need : Nat) (pre : Heap → Prop) (P : Heap → Heap → Value → Prop) : Prop :=
  ∀ (p : Program) (loose : List Str) (mean : ExcName → Option Value) (mg mb : Str → Option Value) (dp un : Nat) (gd : Option (List Code)) (cn : Str) (cs : Scope) (a : Addr) (ccd : Value) (cl : List (Str × Addr)) (outer : List Env)
    (A₀ : Around) (base h₀ : Heap) (L : Addr) (m : Str → Option Value) (s : Shared) (Q E : Value → Shared → Prop),
    Below A₀ base outer h₀ → Fr h₀ L s.heap m → (hd.heap_39 w.params).In h₀ → Top p loose mean mg mb h₀ → cs.kind = .function → pre s.heap → Room dp un need →
    (∀ v h' tk', s.heap.StaysIn h' → P s.heap h' v → Q v { s with heap := h', toks := tk' }) →
    wpAny (model Challenge.rw_qh0109_01.row.prog w) (ktrTop dp un gd cn cs L a ccd cl outer) (call (.ref f) args kw) Q E s

section
variable {w : World} {f : Addr} {args : List Value} {kw : List (Str × Value)} {need : Nat} {pre : Heap → Prop} {p : Program} {loose : List Str} {mean : ExcName → Option Value} {mg mb : Str → Option Value} {dp un : Nat} {gd : Option (List Code)} {cn : Str} {cs : Scope} {a : Addr} {ccd : Value} {cl : List (Str × Addr)} {outer : List Env}
    {A₀ : Around} {base h₀ : Heap} {L : Addr} {m : Str → Option Value} {s : Shared} {Q E : Value → Shared → Prop} {news : List (Addr × Obj)}
theorem useV {P : Value → Prop} (C : Calls w f args kw need pre (fun _ _ v => P v)) (B : Below A₀ base outer h₀) (F : Fr h₀ L s.heap m) (N : News h₀ L s.heap news) (X : (hd.heap_39 w.params).In h₀) (T : Top p loose mean mg mb h₀) (hk : cs.kind = .function)
    (hp : pre s.heap) (hd' : Room dp un need) (h : ∀ v h' tk', Fr h₀ L h' m → News h₀ L h' news → P v → Q v { s with heap := h', toks := tk' }) :
    wpAny (model Challenge.rw_qh0109_01.row.prog w) (ktrTop dp un gd cn cs L a ccd cl outer) (call (.ref f) args kw) Q E s :=
  C _ _ _ _ _ _ _ _ _ _ _ _ _ _ _ _ _ _ _ _ _ _ B F X T hk hp hd' fun v h' tk' st hv => h v h' tk' (frStays F st) (newsStays N st) hv
theorem newsCons2 {h h' : Heap} {l : Addr} {o : Obj} (F : Fr h₀ L h m) (N : News h₀ L h news) (st : h.StaysIn h') (ho : h'.get? l = some o) (hn : h.get? l = none) : News h₀ L h' ((l, o) :: news) := by
  intro p hp
  rcases List.mem_cons.mp hp with rfl | hp
  · refine ⟨ho, fun q => ?_, ?_⟩
    · obtain ⟨oL, _, _, hL, _⟩ := F.ns
      have q' : l = L := q
      rw [q', hL] at hn; cases hn
    · cases hq : h₀.get? l with
      | none => rfl
      | some o' => rw [F.keep _ _ hq] at hn; cases hn
  · exact newsStays N st p hp
theorem newsNe {h : Heap} {l : Addr} (N : News h₀ L h news) (hn : h.get? l = none) : TLg.AllNe l news :=
  TLgL.allNe_of fun p hp q => by rw [← q, (N p hp).1] at hn; cases hn
theorem useL {ns : List Int} (C : Calls w f args kw need pre (fun g h' v => ∃ l vs c, v = .ref l ∧ h'.get? l = some (W.listOf vs.toArray c) ∧ IntsAre vs ns ∧ g.get? l = none))
    (B : Below A₀ base outer h₀) (F : Fr h₀ L s.heap m) (N : News h₀ L s.heap news) (X : (hd.heap_39 w.params).In h₀) (T : Top p loose mean mg mb h₀) (hk : cs.kind = .function)
    (hp : pre s.heap) (hd' : Room dp un need) (h : ∀ l vs c h' tk', Fr h₀ L h' m → News h₀ L h' ((l, W.listOf vs.toArray c) :: news) → TLg.AllNe l news → IntsAre vs ns → Q (.ref l) { s with heap := h', toks := tk' }) :
    wpAny (model Challenge.rw_qh0109_01.row.prog w) (ktrTop dp un gd cn cs L a ccd cl outer) (call (.ref f) args kw) Q E s :=
  C _ _ _ _ _ _ _ _ _ _ _ _ _ _ _ _ _ _ _ _ _ _ B F X T hk hp hd' fun v h' tk' st ⟨l, vs, c, e, hl, hi, hn⟩ => by
    subst e
    exact h l vs c h' tk' (frStays F st) (newsCons2 F N st hl hn) (newsNe N hn) hi
end
/-- as Calls, but where err holds the call may raise binascii's own Error -/
noncomputable def CallsE (w : World) (f : Addr) (args : List Value) (kw : List (Str × Value)) (need : Nat) (P : Value → Prop) (err : Prop) : Prop :=
  ∀ (p : Program) (loose : List Str) (mean : ExcName → Option Value) (mg mb : Str → Option Value) (dp un : Nat) (gd : Option (List Code)) (cn : Str) (cs : Scope) (a : Addr) (ccd : Value) (cl : List (Str × Addr)) (outer : List Env)
    (A₀ : Around) (base h₀ : Heap) (L : Addr) (m : Str → Option Value) (s : Shared) (Q E : Value → Shared → Prop),
    Below A₀ base outer h₀ → Fr h₀ L s.heap m → (hd.heap_39 w.params).In h₀ → Top p loose mean mg mb h₀ → cs.kind = .function → Room dp un need →
    (∀ v h' tk', s.heap.StaysIn h' → P v → Q v { s with heap := h', toks := tk' }) →
    (∀ e t vs h' tk', err → RaisedS base s.heap (envX cn cs L a ccd cl :: outer) e (.ref 39) t vs [] h' → s.heap.UpToSlots h' → E (.ref e) { s with heap := h', toks := tk' }) →
    wpAny (model Challenge.rw_qh0109_01.row.prog w) (ktrTop dp un gd cn cs L a ccd cl outer) (call (.ref f) args kw) Q E s
section
variable {w : World} {f : Addr} {args : List Value} {kw : List (Str × Value)} {need : Nat} {P : Value → Prop} {err : Prop} {p : Program} {loose : List Str} {mean : ExcName → Option Value} {mg mb : Str → Option Value} {dp un : Nat} {gd : Option (List Code)} {cn : Str} {cs : Scope} {a : Addr} {ccd : Value} {cl : List (Str × Addr)} {outer : List Env}
    {A₀ : Around} {base h₀ : Heap} {L : Addr} {m : Str → Option Value} {s : Shared} {Q E : Value → Shared → Prop} {news : List (Addr × Obj)}
theorem useE (C : CallsE w f args kw need P err) (B : Below A₀ base outer h₀) (F : Fr h₀ L s.heap m) (N : News h₀ L s.heap news) (X : (hd.heap_39 w.params).In h₀) (T : Top p loose mean mg mb h₀) (hk : cs.kind = .function)
    (hd' : Room dp un need) (h : ∀ v h' tk', Fr h₀ L h' m → News h₀ L h' news → P v → Q v { s with heap := h', toks := tk' })
    (hE : ∀ e t vs h' tk', err → RaisedS base s.heap (envX cn cs L a ccd cl :: outer) e (.ref 39) t vs [] h' → s.heap.UpToSlots h' → E (.ref e) { s with heap := h', toks := tk' }) :
    wpAny (model Challenge.rw_qh0109_01.row.prog w) (ktrTop dp un gd cn cs L a ccd cl outer) (call (.ref f) args kw) Q E s :=
  C _ _ _ _ _ _ _ _ _ _ _ _ _ _ _ _ _ _ _ _ _ _ B F X T hk hd' (fun v h' tk' st hv => h v h' tk' (frStays F st) (newsStays N st) hv) hE
end
/-- as Calls, of a def that catches what it raises: called from the lowest frame, whose own object alone may get other slots -/
noncomputable def CallsT (w : World) (f : Addr) (args : List Value) (need : Nat) (P : Value → Prop) : Prop :=
  ∀ (p : Program) (loose : List Str) (mean : ExcName → Option Value) (mg mb : Str → Option Value) (dp un : Nat) (gd : Option (List Code)) (cn : Str) (cs : Scope) (a : Addr) (ccd : Value) (cl : List (Str × Addr))
    (A₀ : Around) (h₀ : Heap) (L : Addr) (m : Str → Option Value) (s : Shared) (Q E : Value → Shared → Prop),
    Below A₀ h₀ [] h₀ → Fr h₀ L s.heap m → (hd.heap_39 w.params).In h₀ → Top p loose mean mg mb h₀ → cs.kind = .function → Room dp un need →
    (∀ v h' tk' g', KtsTurn ([envX cn cs L a ccd cl].filterMap (·.frame)) s.heap g' → (∀ b o, g'.get? b = some o → h'.get? b = some o) → P v → Q v { s with heap := h', toks := tk' }) →
    wpAny (model Challenge.rw_qh0109_01.row.prog w) (ktrTop dp un gd cn cs L a ccd cl []) (call (.ref f) args []) Q E s
section
variable {w : World} {f : Addr} {args : List Value} {need : Nat} {P : Value → Prop} {p : Program} {loose : List Str} {mean : ExcName → Option Value} {mg mb : Str → Option Value} {dp un : Nat} {gd : Option (List Code)} {cn : Str} {cs : Scope} {a : Addr} {ccd : Value} {cl : List (Str × Addr)}
    {A₀ : Around} {h₀ : Heap} {L : Addr} {m : Str → Option Value} {s : Shared} {Q E : Value → Shared → Prop} {news : List (Addr × Obj)}
theorem frDicts (F : Fr h₀ L s.heap m) : KtsDicts ([envX cn cs L a ccd cl].filterMap (·.frame)) s.heap := fun b hb => by
  obtain ⟨oL, es, ep, hL, hd, _⟩ := F.ns
  have e : b = L := List.mem_singleton.mp hb
  exact ⟨oL, es, ep, e ▸ hL, hd⟩
theorem frTurn {h' g' : Heap} (F : Fr h₀ L s.heap m) (T : KtsTurn ([envX cn cs L a ccd cl].filterMap (·.frame)) s.heap g') (k : ∀ b o, g'.get? b = some o → h'.get? b = some o) : Fr h₀ L h' m := by
  obtain ⟨oL, es, ep, hL, hd, hs⟩ := F.ns
  refine ⟨?_, fun b o e => k b o (T.other b o (F.keep b o e) fun hm => ?_), F.above⟩
  · obtain ⟨sl, h1⟩ := T.frame L oL hL (List.mem_singleton.mpr rfl)
    exact ⟨_, es, ep, k _ _ h1, hd, hs⟩
  · have e' : b = L := List.mem_singleton.mp hm
    rw [e', kts_self F] at e; cases e
theorem newsTurn {h' g' : Heap} (N : News h₀ L s.heap news) (T : KtsTurn ([envX cn cs L a ccd cl].filterMap (·.frame)) s.heap g') (k : ∀ b o, g'.get? b = some o → h'.get? b = some o) : News h₀ L h' news := fun q hq =>
  ⟨k _ _ (T.other _ _ (N q hq).1 fun hm => (N q hq).2.1 (List.mem_singleton.mp hm)), (N q hq).2⟩
theorem useT (C : CallsT w f args need P) (B : Below A₀ h₀ [] h₀) (F : Fr h₀ L s.heap m) (N : News h₀ L s.heap news) (X : (hd.heap_39 w.params).In h₀) (T : Top p loose mean mg mb h₀) (hk : cs.kind = .function)
    (hd' : Room dp un need) (h : ∀ v h' tk', Fr h₀ L h' m → News h₀ L h' news → P v → Q v { s with heap := h', toks := tk' }) :
    wpAny (model Challenge.rw_qh0109_01.row.prog w) (ktrTop dp un gd cn cs L a ccd cl []) (call (.ref f) args []) Q E s :=
  C _ _ _ _ _ _ _ _ _ _ _ _ _ _ _ _ _ _ _ _ B F X T hk hd' fun v h' tk' _ t k hv => h v h' tk' (frTurn F t k) (newsTurn N t k) hv
end
/-! bytes.maketrans, bytes.translate -/
noncomputable def trTab (f g : Array UInt8) : Array UInt8 := (f.toList.zip g.toList).foldl (fun t (p : UInt8 × UInt8) => t.setIfInBounds p.1.toNat p.2) ((Array.range 256).map (·.toUInt8))
noncomputable def trBytes (tab b : Array UInt8) : Array UInt8 := b.map fun c => tab.getD c.toNat c
theorem trTab_size (f g : Array UInt8) : (trTab f g).size = 256 := by
  unfold trTab
  have : ∀ (l : List (UInt8 × UInt8)) (t : Array UInt8), (l.foldl (fun t (p : UInt8 × UInt8) => t.setIfInBounds p.1.toNat p.2) t).size = t.size := by
    intro l
    induction l with
    | nil => intro t; rfl
    | cons p r ih => intro t; rw [List.foldl_cons, ih]; simp
  rw [this]; simp

theorem check_mt (a b : Value) : checkBuiltinCall "bytes.maketrans" ⟨[a, b], []⟩ = pure () := by kernel_rfl
theorem plain_mt : plainId "bytes.maketrans" = true := by decide +kernel
theorem entry_mt : entryFor table "bytes.maketrans" = some Builtin.«bytes.maketrans» := entryFor_of_tree (by kernel_rfl)
theorem slot_tr : Slot "bytes" "translate" "bytes.translate" :=
  .of (owner := "bytes") (n := "translate") (by rw [typeLookup_type, builtinLookup_eq_fast]; kernel_rfl) (by decide +kernel) (by decide +kernel) (by decide +kernel)
    (by first | exact .inl (by decide +kernel) | exact .inr (by decide +kernel)) (by rw [isSubtype_type]; kernel_rfl)
theorem type_tr : typeOf (.builtin "bytes.translate") = pure (.type "method_descriptor") := by show builtinType _ = _; rw [builtinType_eq_fast]; kernel_rfl
theorem entry_tr : entryFor table "bytes.translate" = some Builtin.«bytes.translate» := entryFor_of_tree (by kernel_rfl)
theorem args_tr (a b : Value) : argsOk "bytes.translate" ⟨[a, b], []⟩ := by unfold argsOk; kernel_rfl

section
variable {prog : Program} {w : World} {M : Model} {A : Around} {E : Value → Shared → Prop} {s : Shared} {K : Frag} {h₀ : Heap} {L : Addr} {m : Str → Option Value} {Q : Value → Shared → Prop} {b c f g : Array UInt8} {t u : Tok}
theorem call_mt (hs : f.size = g.size) (h : Q (.bytes (trTab f g) s.toks) { s with toks := s.toks + 1 }) :
    wpAny (model prog w) A (call (.builtin "bytes.maketrans") [.bytes f t, .bytes g u]) Q E s := by
  refine wpAny_call (codeAny_call_builtin plain_mt entry_mt ?_)
  refine wpAny_of_eq (check_mt _ _) ?_
  unfold Builtin.«bytes.maketrans» Builtin.Bytes.maketransM
  refine wpAny_bind (wpAny_of_eq (a := ()) rfl ?_)
  refine wpAny_bind (wpAny_of_eq (a := ()) (by kernel_rfl) ?_)
  refine wpAny_bind (wpAny_of_eq (a := f) KBd.like_eq ?_)
  refine wpAny_bind (wpAny_of_eq (a := g) KBd.like_eq ?_)
  rw [if_neg (by simp [hs])]
  refine wpAny_bind (wpAny_mkBytes (wpAny_pure ?_) ?_)
  · exact h
  · have := trTab_size f g
    show (trTab f g).size ≤ sizeLine
    rw [this, sizeLine_eq]; decide
theorem call_tr (hs : c.size = 256) (hb : b.size ≤ 16777216) (h : ∀ t' k, Q (.bytes (trBytes c b) t') { s with toks := k }) :
    wpAny (model prog w) A (call (.builtin "bytes.translate") [.bytes b t, .bytes c u]) Q E s := by
  refine wpAny_call_entry slot_tr (typeIs_bytes _ _ _) entry_tr ?_ (args_tr _ _)
  unfold Builtin.«bytes.translate» Builtin.Bytes.translateM
  show wpAny _ _ (if (1 : Nat) > 2 then _ else _) _ _ _
  rw [if_neg (by decide)]
  show wpAny _ _ (if false = true then _ else _) _ _ _
  rw [if_neg (by decide)]
  show wpAny _ _ (if (Value.bytes c u == Value.none) = true then _ else _) _ _ _
  rw [if_neg (by show ¬ ((Value.bytes c u == Value.none) = true); exact Bool.false_ne_true)]
  refine wpAny_bind (wpAny_of_eq (a := c) KBd.like_eq ?_)
  dsimp only
  rw [if_neg (by simp [hs])]
  refine wpAny_bind (wpAny_pure ?_)
  refine wpAny_bind (wpAny_pure ?_)
  refine wpAny_bind (wpAny_of_eq (a := b) rfl ?_)
  have e : ((b.filter (!(#[] : Array UInt8).contains ·)).map fun x => match some c with | some t => t.getD x.toNat x | none => x) = trBytes c b := by
    have e0 : b.filter (!(#[] : Array UInt8).contains ·) = b := by rw [Array.filter_eq_self]; simp
    rw [e0]; rfl
  by_cases hz : (trBytes c b == b) = true
  · rw [if_pos (by rw [e]; exact hz)]
    refine wpAny_bind (wpAny_rule ?_)
    refine wpAny_bind (wpAny_of_eq (a := .bytes b t) ?_ (wpAny_pure ⟨_, rfl, ?_⟩))
    · first | rfl | kernel_rfl
    · have := h t s.toks
      rw [beq_iff_eq.mp hz] at this
      exact this
  · rw [if_neg (by rw [e]; exact hz), e]
    refine wpAny_bind (wpAny_mkBytes (wpAny_pure ⟨_, rfl, h _ _⟩) ?_)
    unfold trBytes
    rw [Array.size_map, sizeLine_eq]; exact hb
theorem getm_tr {pl : Sem Bool} {Q : Value × List Value → Shared → Prop} (h : Q (.builtin "bytes.translate", [.bytes b t]) s) : wpAny M A (getMethod (.bytes b t) "translate" pl) Q E s := by
  with_reducible exact KBd.method_of (.bytes b t) (typeIs_bytes _ _ _) slot_tr type_tr KBd.noRef h
theorem getm_mt {pl : Sem Bool} {Q : Value × List Value → Shared → Prop} (F : Fr h₀ L s.heap m) (X₀ : K.In h₀)
    (e : findCls K (.type "bytes") (.type "type") (PySem.Str.ofString "maketrans") = some (.val (.builtin "bytes.maketrans")))
    (h : Q (.builtin "bytes.maketrans", []) { s with toks := s.toks + 1 }) :
    wpAny (model prog w) A (getMethod (.type "bytes") (PySem.Str.ofString "maketrans") pl) Q E s := by
  have X := X₀.keeps F.keep
  have hstub : opaqueClassAbove (.type "bytes") = pure none := by unfold opaqueClassAbove; dsimp only; rw [show Manifest.isStub "bytes" = false by decide +kernel]; rfl
  have ht : typeOf (.type "bytes") = pure (.type "type") := by first | rfl | kernel_rfl
  have L0 : Looks (model prog w) s.heap (typeOf (.type "bytes")) (.type "type") := Looks.of_pure ht
  have hg : findIn K (.type "type") "__getattribute__" = some (some (.builtin "type.__getattribute__")) := type_tga
  unfold getMethod specialOf
  refine wpAny_bind (wpAny_bind (L0.here ((looks_findIn X hg).here ?_)))
  dsimp only
  rw [if_pos canon_tga]
  refine wpAny_bind (wpAny_mono (Q := fun v => Q (v, [])) (E := E) ?_ (fun _ _ z => wpAny_pure z) fun _ _ z => z)
  have LO : Looks (model prog w) s.heap (opaqueClassAbove (.type "bytes")) none := Looks.of_pure hstub
  refine cls_open X LO L0 hg (looks_hook X (r := none) (by rfl)) (by show subIn K _ _ = _; rfl) e ?_
  refine wpAny_pure (handed_on rfl h)
end

/-! list(bytes) -/
section
variable {prog : Program} {w : World} {A : Around} {E : Value → Shared → Prop} {s : Shared}
noncomputable def ByteAt (b : Array UInt8) : Nat → Value → Prop := fun i v => ∃ c u, b[i]? = some c ∧ v = .int (c.toNat : Int) u
theorem bytes_len_slot : typeLookup (.type "bytes") "__len__" = pure (some (.builtin "bytes.__len__")) := by rw [typeLookup_type, builtinLookup_eq_fast]; kernel_rfl
theorem extend_bytes {R : Result → Shared → Prop} (hh : A.handled = none) (b : Array UInt8) (t : Tok) (S : Addr) (res : Value) (c₀ : Nat) (hS : s.heap.get? S = some { cls := .type "list", data := .seq #[] c₀ })
    (hR : ∀ h' tk acc' c', (∀ x o, x ≠ S → s.heap.get? x = some o → h'.get? x = some o) → h'.get? S = some { cls := .type "list", dict := none, data := .seq acc' c', slots := #[] } →
      ItemsOf (ByteAt b) acc' b.size → R (.ok (.ret res)) { s with heap := h', toks := tk }) (hn : b.size ≤ sizeLine) :
    wpAny (model prog w) A.in1 (Builtin.List.listExtendWith (.ref S) (.bytes b t) res)
      (fun fin s' => match fin with | .done f => R (.ok f) s' | .again c' => c'.quiet = true ∧ codeAny (model prog w) A c' R s') (fun e s' => R (.error e) s') s := by
  have hSI : S ≠ s.heap.objs.size := Nat.ne_of_lt (Heap.lt_size hS)
  have hSf : S ∉ [s.heap.objs.size] := fun hm => hSI (List.mem_singleton.mp hm)
  have W := (KBw.walks (prog := prog) (w := w) (A := A.in1) hh s.heap.objs.size b t).toS
  unfold Builtin.List.listExtendWith
  refine wpAny_bind (wpAny_typeOf (T := "bytes") (v := .bytes b t) rfl ?_)
  have h1 : Builtin.List.listSameRef (.ref S) (.bytes b t) = false := rfl
  have h2 : (Value.type "bytes" == Value.type "list") = false := by decide
  have h3 : (Value.type "bytes" == Value.type "tuple") = false := by decide
  simp only [h1, h2, h3, Bool.or_false, Bool.false_eq_true, if_false]
  refine wpAny_bind (KBw.pyIter_bytes ?_)
  refine wpAny_bind (wpAny_holding ?_)
  unfold Builtin.List.listLengthHint
  refine wpAny_bind (wpAny_specialOf (T := "bytes") (v := .bytes b t) rfl bytes_len_slot ?_)
  wp_delta
  refine wpAny_bind (wpAny_isInstance (T := "bytes") (v := .bytes b t) (b := true) rfl (by rw [isSubtype_type]; kernel_rfl) ?_)
  show wpAny _ _ (typeOf (Value.bytes b t) >>= _) _ _ _
  refine wpAny_bind (wpAny_typeOf (T := "bytes") (v := .bytes b t) rfl ?_)
  refine wpAny_pure ?_
  rw [if_neg (by decide)]
  refine wpAny_pure ⟨plainId_quiet F.plain_extend_loop _, codeAny_extend_loopS W hn _ hSf _ b.size 0 _ _ _ rfl (Nat.zero_le _) ⟨_, Heap.get?_push_size _ rfl, rfl, rfl⟩ (Heap.get?_push_of_some _ hS) (ItemsOf.nil _) fun s' acc' c' hm hS' hacc => ?_⟩
  rw [Moved.eq_with hm]
  refine hR s'.heap s'.toks acc' c' (fun x ob hb e => hm.heap x ob (fun hmem => ?_) (Heap.get?_push_of_some _ e)) hS' hacc
  rcases List.mem_cons.mp hmem with e' | hmem
  · exact hb e'
  · exact absurd (Heap.lt_size e) (by rw [List.mem_singleton.mp hmem]; exact Nat.lt_irrefl _)
theorem intsOfItems : ∀ (l : List UInt8) (vs : List Value), vs.length = l.length → (∀ (j : Nat) (v : Value), vs[j]? = some v → ∃ (c : UInt8) (u : Tok), l[j]? = some c ∧ v = Value.int (c.toNat : Int) u) → IntsAre vs (l.map fun c => (c.toNat : Int))
  | [], vs, h, _ => by
    have : vs = [] := List.length_eq_zero_iff.mp h
    subst this; exact .nil
  | c :: r, [], h, _ => by cases h
  | c :: r, v :: vs, h, hv => by
    obtain ⟨c', u, hc, rfl⟩ := hv 0 v rfl
    simp at hc; subst hc
    exact .cons _ _ (intsOfItems r vs (by simpa using h) fun j x hx => by simpa using hv (j + 1) x (by simpa using hx))
theorem intsOfBytes {b : Array UInt8} {acc : Array Value} (h : ItemsOf (ByteAt b) acc b.size) : IntsAre acc.toList (KBw.bInts b) :=
  intsOfItems b.toList acc.toList (by simpa using h.1) fun j v hv => by
    obtain ⟨c, u, hc, e⟩ := h.2 j v (by simpa using hv)
    exact ⟨c, u, by simpa using hc, e⟩
theorem call_list_bytes {Q : Value → Shared → Prop} (hh : A.handled = none) (b : Array UInt8) (t : Tok)
    (hQ : ∀ h' tk acc' c', (∀ x o, s.heap.get? x = some o → h'.get? x = some o) →
      h'.get? s.heap.objs.size = some { cls := .type "list", dict := none, data := .seq acc' c', slots := #[] } → ItemsOf (ByteAt b) acc' b.size → Q (.ref s.heap.objs.size) { s with heap := h', toks := tk }) (hn : b.size ≤ sizeLine) :
    wpAny (model prog w) A (call (.type "list") [.bytes b t]) Q E s := by
  refine callType_codes (Q₁ := fun obj s₁ => obj = .ref s.heap.objs.size ∧ s₁ = { s with heap := s.heap.push { cls := .type "list", data := .seq #[] } }) F.called_list (F.typeCall_list_1 _) F.entry_list_init
    (code_list_new _ ⟨rfl, rfl⟩) fun obj s₁ h₁ => ?_
  obtain ⟨rfl, rfl⟩ := h₁
  have hS : (s.heap.push { cls := .type "list", data := .seq #[] }).get? s.heap.objs.size = some { cls := .type "list", data := .seq #[] } := Heap.get?_push_size _ rfl
  refine ⟨⟨_, hS, rfl⟩, F.args_list_init_2 _ _, ?_⟩
  show wpAny _ _ (do let old ← Builtin.List.listItems (.ref s.heap.objs.size); Builtin.List.listUpdate (.ref s.heap.objs.size) (fun _ => #[]); letGo old.toList.reverse; Builtin.List.listExtendWith (.ref s.heap.objs.size) (.bytes b t) .none) _ _ _
  refine wpAny_bind ?_
  unfold Builtin.List.listItems
  refine wpAny_bind (wpAny_seqItems hS rfl (wpAny_pure ?_))
  show wpAny _ _ (updateSeq s.heap.objs.size (fun _ => #[]) >>= fun _ => letGo (#[] : Array Value).toList.reverse >>= fun _ => Builtin.List.listExtendWith (.ref s.heap.objs.size) (.bytes b t) .none) _ _ _
  refine wpAny_bind (wpAny_updateSeq hS rfl ?_)
  have hS₂ := Heap.get?_update_self (Obj.mapSeq (fun _ => (#[] : Array Value))) hS rfl
  refine wpAny_bind (wpAny_letGo ?_)
  refine extend_bytes (A := A.in1) hh b t _ .none _ hS₂ (fun h' tk acc' c' hk hS' hacc => ?_) hn
  refine ⟨rfl, hQ h' tk acc' c' (fun x o e => hk x o (Nat.ne_of_lt (Heap.lt_size e)) ?_) hS' hacc⟩
  exact (Heap.get?_update_other _ _ (Ne.symm (Nat.ne_of_lt (Heap.lt_size e)))).trans (Heap.get?_push_of_some _ e)
theorem list_bytes_K {h₀ : Heap} {L : Addr} {m : Str → Option Value} {news : List (Addr × Obj)} {b : Array UInt8} {t : Tok} {Q : Value → Shared → Prop} (hh : A.handled = none) (F : Fr h₀ L s.heap m) (N : News h₀ L s.heap news) (hn : b.size ≤ 16777216)
    (h : ∀ l h' tk vs c, Fr h₀ L h' m → News h₀ L h' ((l, listOf vs.toArray c) :: news) → (∀ p ∈ news, p.1 < l) → IntsAre vs (KBw.bInts b) → Q (.ref l) { s with heap := h', toks := tk }) :
    wpAny (model prog w) A (call (.type "list") [.bytes b t]) Q E s := by
  refine call_list_bytes hh b t (fun h' tk acc c hk hS hacc => ?_) (by rw [sizeLine_eq]; exact hn)
  refine h s.heap.objs.size h' tk acc.toList c (frStays F hk) ?_ (newsLt N (Nat.le_refl _)) (intsOfBytes hacc)
  exact newsCons F N hk (by simpa [W.listOf] using hS) (Nat.le_refl _)
end
/-! the plain functions -/
inductive Due where
  | skip
  | no
  | octets (ns : List Int)
noncomputable def scan (strict : Bool) : List Int → List Int → Int → Due ⊕ (List Int × Int)
  | [], rd, pads => .inr (rd, pads)
  | p :: r, rd, pads =>
    if p = 64 then scan strict r rd (pads + 1)
    else if p = 65 then (if strict then .inl .no else scan strict r rd pads)
    else if pads ≠ 0 then .inl (if strict then .no else .skip)
    else scan strict r (rd ++ [p]) pads
noncomputable def num4 (rd : List Int) (k : Nat) : Int := ((rd.getD k 0 * 64 + rd.getD (k + 1) 0) * 64 + rd.getD (k + 2) 0) * 64 + rd.getD (k + 3) 0
noncomputable def grp (rd : List Int) (k : Nat) : List Int :=
  [(num4 rd k).fdiv 65536, ((num4 rd k).fdiv 256).fmod 256, (num4 rd k).fmod 256].take (min 3 (rd.length - k - 1))
noncomputable def octs (rd : List Int) : Nat → List Int
  | 0 => []
  | i + 1 => octs rd i ++ grp rd (4 * i)
noncomputable def dueOf (strict : Bool) (places : List Int) : Due :=
  match scan strict places [] 0 with
  | .inl d => d
  | .inr (rd, pads) =>
    if pads > ([0, 3, 2, 1] : List Int).getD (rd.length % 4) 0 then .skip
    else if rd.length % 4 = 1 ∨ (rd.length % 4 = 2 ∧ pads ≠ 2) ∨ (rd.length % 4 = 3 ∧ pads ≠ 1) then .no
    else .octets (octs rd ((rd.length + 3) / 4))
/-- what the scan has made of the places taken so far -/
noncomputable def ScanAt (sb : Bool) (pre rd : List Int) (pads : Int) : Prop := (∀ post, scan sb (pre ++ post) [] 0 = scan sb post rd pads) ∧ ∀ n ∈ rd, 0 ≤ n ∧ n < 64
section
variable {sb : Bool} {pre post rd ns : List Int} {pads n : Int}
theorem scanAt_nil : ScanAt sb [] [] 0 := ⟨fun _ => rfl, fun _ h => nomatch h⟩
theorem scanAt_pad (h : ScanAt sb pre rd pads) (hn : n = 64) : ScanAt sb (pre ++ [n]) rd (pads + 1) := by
  refine ⟨fun post => ?_, h.2⟩
  rw [List.append_assoc, h.1, hn]
  simp [scan]
theorem scanAt_junk (h : ScanAt sb pre rd pads) (hn : n = 65) (hs : sb = false) : ScanAt sb (pre ++ [n]) rd pads := by
  refine ⟨fun post => ?_, h.2⟩
  rw [List.append_assoc, h.1, hn, hs]
  simp [scan]
theorem scanAt_sign (h : ScanAt sb pre rd pads) (h1 : n ≠ 64) (h2 : n ≠ 65) (hp : pads = 0) (hn : 0 ≤ n ∧ n < 66) : ScanAt sb (pre ++ [n]) (rd ++ [n]) pads := by
  refine ⟨fun post => ?_, fun k hk => ?_⟩
  · rw [List.append_assoc, h.1, hp]
    simp [scan, h1, h2]
  · rcases List.mem_append.mp hk with hk | hk
    · exact h.2 k hk
    · have := List.mem_singleton.mp hk
      omega
theorem due_junk (h : ScanAt sb pre rd pads) (e : ns = pre ++ n :: post) (hn : n = 65) (hs : sb = true) : dueOf sb ns = .no := by
  unfold dueOf
  rw [e, h.1, hn, hs]
  simp [scan]
theorem due_behind (h : ScanAt sb pre rd pads) (e : ns = pre ++ n :: post) (h1 : n ≠ 64) (h2 : n ≠ 65) (hp : pads ≠ 0) : dueOf sb ns = if sb then .no else .skip := by
  unfold dueOf
  rw [e, h.1]
  simp [scan, h1, h2, hp]
theorem due_end (h : ScanAt sb ns rd pads) : dueOf sb ns =
    if pads > ([0, 3, 2, 1] : List Int).getD (rd.length % 4) 0 then .skip
    else if rd.length % 4 = 1 ∨ (rd.length % 4 = 2 ∧ pads ≠ 2) ∨ (rd.length % 4 = 3 ∧ pads ≠ 1) then .no
    else .octets (octs rd ((rd.length + 3) / 4)) := by
  have e := h.1 []
  rw [List.append_nil] at e
  unfold dueOf
  rw [e]; rfl
end
theorem getD_rng {rd : List Int} (h : ∀ n ∈ rd, 0 ≤ n ∧ n < 64) (k : Nat) : 0 ≤ rd.getD k 0 ∧ rd.getD k 0 < 64 := by
  rw [List.getD_eq_getElem?_getD]
  cases e : rd[k]? with
  | none => simp
  | some v => simpa using h v (List.mem_of_getElem? e)
theorem num4_rng {rd : List Int} (h : ∀ n ∈ rd, 0 ≤ n ∧ n < 64) (k : Nat) : 0 ≤ num4 rd k ∧ num4 rd k < 16777216 := by
  have h0 := getD_rng h k
  have h1 := getD_rng h (k + 1)
  have h2 := getD_rng h (k + 2)
  have h3 := getD_rng h (k + 3)
  unfold num4
  omega
theorem grp_rng {rd : List Int} (h : ∀ n ∈ rd, 0 ≤ n ∧ n < 64) (k : Nat) : ∀ n ∈ grp rd k, 0 ≤ n ∧ n < 256 := by
  intro n hn
  have hm := List.mem_of_mem_take hn
  have hr := num4_rng h k
  simp only [List.mem_cons, List.not_mem_nil, or_false] at hm
  rw [Int.fdiv_eq_ediv_of_nonneg _ (by decide), Int.fdiv_eq_ediv_of_nonneg _ (by decide), Int.fmod_eq_emod_of_nonneg _ (by decide), Int.fmod_eq_emod_of_nonneg _ (by decide)] at hm
  omega
theorem octs_rng {rd : List Int} (h : ∀ n ∈ rd, 0 ≤ n ∧ n < 64) : ∀ i, ∀ n ∈ octs rd i, 0 ≤ n ∧ n < 256
  | 0, _, hn => nomatch hn
  | i + 1, n, hn => (List.mem_append.mp hn).elim (octs_rng h i n) (grp_rng h _ n)
theorem grp_len (rd : List Int) (k : Nat) : (grp rd k).length ≤ 3 := by
  unfold grp
  rw [List.length_take]
  simp
  omega
theorem octs_len (rd : List Int) : ∀ i, (octs rd i).length ≤ 3 * i
  | 0 => Nat.le_refl _
  | i + 1 => by
    have := octs_len rd i
    have := grp_len rd (4 * i)
    rw [octs, List.length_append]
    omega
theorem rangeSize4 (k : Nat) : Builtin.Range.rangeSize 0 (k : Int) 4 = (((k + 3) / 4 : Nat) : Int) := by
  unfold Builtin.Range.rangeSize
  rw [if_pos (by decide)]
  split <;> omega
theorem fits_of {i : Int} (h0 : -10000 ≤ i) (h1 : i ≤ 10000) : Builtin.Range.rangeFitsLong i = true := by
  unfold Builtin.Range.rangeFitsLong
  rw [Bool.and_eq_true, decide_eq_true_eq, decide_eq_true_eq]
  omega
theorem small4 {k : Nat} (hk : k ≤ 1000) : Builtin.Range.small 0 (k : Int) 4 = true := by
  unfold Builtin.Range.small
  rw [rangeSize4, fits_of (by omega) (by omega), fits_of (by omega) (by omega), fits_of (by omega) (by omega), fits_of (by omega) (by omega)]
  rw [if_pos (by decide), fits_of (by omega) (by omega), Bool.or_true]
  rfl
/-! a loop over a range of any step that binds one name to a new list of ints at each turn -/
noncomputable def EndT (h₀ : Heap) (L : Addr) (x y : Str) (stored : List Str) (m₀ : Str → Option Value) (rest own : List (Addr × Obj)) (P : List Int → Prop) (s₁ s₂ : Shared) : Prop :=
  ∃ h' tk m' news' l vs ns k, s₂ = { s₁ with heap := h', toks := tk } ∧ Fr h₀ L h' m' ∧ News h₀ L h' news' ∧ (l, PySem.W.listOf vs.toArray k) ∈ news' ∧ (∀ p ∈ rest, p ∈ news') ∧ (∀ p ∈ own, p ∈ news') ∧ (∀ p ∈ rest, p.1 ≠ l) ∧ (∀ p ∈ own, p.1 ≠ l) ∧
    IntsAre vs ns ∧ P ns ∧ m' y = some (.ref l) ∧ ∀ z, z ≠ x → z ≠ y → stored.contains z = false → m' z = m₀ z
theorem EndT.intro {h₀ : Heap} {L : Addr} {x y : Str} {stored : List Str} {m₀ : Str → Option Value} {rest own : List (Addr × Obj)} {P : List Int → Prop} {s₁ : Shared} {h' : Heap} {tk : Nat} {m' : Str → Option Value} {news' : List (Addr × Obj)} {l : Addr} {vs : List Value} {ns : List Int} {k : Nat}
    (F : Fr h₀ L h' m') (N : News h₀ L h' news') (hy : m' y = some (.ref l)) (hm : (l, PySem.W.listOf vs.toArray k) ∈ news') (h1 : ∀ p ∈ rest, p ∈ news') (h2 : ∀ p ∈ own, p ∈ news') (h3 : ∀ p ∈ rest, p.1 ≠ l) (h4 : ∀ p ∈ own, p.1 ≠ l)
    (hi : IntsAre vs ns) (hp : P ns) (hr : ∀ z, z ≠ x → z ≠ y → stored.contains z = false → m' z = m₀ z) : EndT h₀ L x y stored m₀ rest own P s₁ { s₁ with heap := h', toks := tk } :=
  ⟨h', tk, m', news', l, vs, ns, k, rfl, F, N, hm, h1, h2, h3, h4, hi, hp, hy, hr⟩
noncomputable def PostT (h₀ : Heap) (L : Addr) (x y : Str) (stored : List Str) (m₀ : Str → Option Value) (rest own : List (Addr × Obj)) (P : List Int → Prop) (s₁ : Shared) (Q : Flow → Shared → Prop) (f : Flow) (s₂ : Shared) : Prop :=
  match f with
  | .ret v => Q (.ret v) s₂
  | .brk => Q .next s₂
  | _ => EndT h₀ L x y stored m₀ rest own P s₁ s₂
theorem mapT {m₁ m₀ : Str → Option Value} {x y : Str} {stored : List Str} {l : Addr} {v : Option Value} (hy : m₁ y = some (.ref l)) (hr : ∀ z, z ≠ x → z ≠ y → stored.contains z = false → m₁ z = m₀ z) :
    (fun z => if z = x then v else m₁ z) = fun z => if z = x then v else if z = y then some (.ref l) else if stored.contains z = true then m₁ z else m₀ z := by
  funext z
  by_cases h1 : z = x
  · rw [if_pos h1, if_pos h1]
  · rw [if_neg h1, if_neg h1]
    by_cases h2 : z = y
    · rw [if_pos h2, h2, hy]
    · rw [if_neg h2]
      cases h3 : stored.contains z with
      | true => simp
      | false => simp only [Bool.false_eq_true, if_false]; exact hr z h1 h2 h3
section
variable {prog : Program} {w : World} {A : Around} {E : Value → Shared → Prop} {s : Shared} {env : Env} {h₀ : Heap} {x y : Str} {body : List Stmt} {Q : Flow → Shared → Prop}
theorem rangeNew {r : Addr} {a₀ b₀ c₀ : Int} {t₀ u₀ v₀ : Tok} {n : Nat} {m₀ : Str → Option Value} {rest : List (Addr × Obj)} {l₀ : Addr} {vs₀ : List Value} {ns₀ : List Int} {k₀ : Nat} (stored : List Str) (P : Nat → List Int → Prop)
    (hh : A.handled = none) (hr : IsRange s.heap r a₀ b₀ c₀ t₀ u₀ v₀) (hsmall : Builtin.Range.small a₀ b₀ c₀ = true) (hn : Builtin.Range.rangeSize a₀ b₀ c₀ = (n : Int)) (F : Fr h₀ env.locals s.heap m₀)
    (N : News h₀ env.locals s.heap ((l₀, PySem.W.listOf vs₀.toArray k₀) :: rest)) (ne : ∀ p ∈ rest, p.1 ≠ l₀) (hi : IntsAre vs₀ ns₀) (hy : m₀ y = some (.ref l₀)) (hp : P 0 ns₀)
    (turn : ∀ i l vs ns k t (u : Str → Option Value) h tk own, i < n → (∀ p ∈ rest, p.1 ≠ l) → OwnOff own (l :: rest.map (·.1)) → IntsAre vs ns → P i ns →
      Fr h₀ env.locals h (fun z => if z = x then some (.int (a₀ + (i : Int) * c₀) t) else if z = y then some (.ref l) else if stored.contains z = true then u z else m₀ z) →
      News h₀ env.locals h ((l, PySem.W.listOf vs.toArray k) :: (rest ++ own)) →
      wpAny (model prog w) A (execs body env) (PostT h₀ env.locals x y stored m₀ rest own (P (i + 1)) { s with heap := h, toks := tk } Q) E { s with heap := h, toks := tk })
    (done : ∀ l vs ns k (u : Str → Option Value) h tk, (∀ p ∈ rest, p.1 ≠ l) → IntsAre vs ns → P n ns →
      Fr h₀ env.locals h (fun z => if z = x then u z else if z = y then some (.ref l) else if stored.contains z = true then u z else m₀ z) → News h₀ env.locals h ((l, PySem.W.listOf vs.toArray k) :: rest) → Q .next { s with heap := h, toks := tk }) :
    wpAny (model prog w) A (pyIter (.ref r)) (fun it s₂ => LoopAtV prog w A h₀ env x body Q E it s₂) E s := by
  refine wpAny_pyIter_range hr hsmall ?_
  have Wk : Walks prog w A s.heap.objs.size [s.heap.objs.size] [s.heap.objs.size] n (fun i v => i < n ∧ ∃ t, v = .int (a₀ + i * c₀) t)
      (fun i h => IsRangeIter h s.heap.objs.size (a₀ + (i : Nat) * c₀) ((n : Int) - (i : Nat)) c₀) := (Walks.range hh _ a₀ c₀ n).bound
  have nI : ∀ p ∈ ((l₀, PySem.W.listOf vs₀.toArray k₀) :: rest), p.1 ∉ [s.heap.objs.size] := fun p hp hI => absurd (Heap.lt_size (N p hp).1) ((List.mem_singleton.mp hI) ▸ Nat.lt_irrefl _)
  let J : Nat → (Str → Option Value) → List (Addr × Obj) → Prop := fun i m nx => ∃ l vs ns k, nx = (l, PySem.W.listOf vs.toArray k) :: rest ∧ (∀ p ∈ rest, p.1 ≠ l) ∧ IntsAre vs ns ∧ P i ns ∧ m y = some (.ref l) ∧ ∀ z, z ≠ x → z ≠ y → stored.contains z = false → m z = m₀ z
  refine ⟨_, _, _, n, _, _, m₀, _, J, rfl, Wk, ?_, ?_, nI, (by show IsRangeIter _ _ _ _ _; rw [hn]; simpa using Heap.get?_push_size _ rfl), F.push _, (fun p hp => ⟨Heap.get?_push_of_some _ (N p hp).1, (N p hp).2⟩), ⟨l₀, vs₀, ns₀, k₀, rfl, ne, hi, hp, hy, fun _ _ _ _ => rfl⟩, ?_, ?_⟩
  · intro hm
    exact absurd F.ns.lt ((List.mem_singleton.mp hm) ▸ Nat.lt_irrefl _)
  · intro b hb
    rw [List.mem_singleton.mp hb]
    exact next_is_new F
  · rintro i v m₁ news₁ s₁ own ⟨hh', tk', rfl⟩ hin ⟨_, t, rfl⟩ ⟨l, vs, ns, k, rfl, hne, hvs, hP, hy₁, hm₁⟩ hoff hown _ hall hSt F₁ N₁
    have hsep : OwnOff own (l :: rest.map (·.1)) := by
      intro p hp b hb e
      have h1 := List.mem_singleton.mp (hown p hp)
      rcases List.mem_cons.mp hb with rfl | hb
      · exact hoff _ (.head _) (List.mem_singleton.mpr (by rw [← e]; exact h1))
      · obtain ⟨q, hq, rfl⟩ := List.mem_map.mp hb
        exact hoff q (.tail _ hq) (List.mem_singleton.mpr (by rw [← e]; exact h1))
    rw [mapT hy₁ hm₁] at F₁
    have N₂ : News h₀ env.locals hh' ((l, PySem.W.listOf vs.toArray k) :: (rest ++ own)) := fun p hp => N₁ p (by
      rcases List.mem_cons.mp hp with rfl | hp
      · exact List.mem_append_right _ (.head _)
      · rcases List.mem_append.mp hp with hp | hp
        · exact List.mem_append_right _ (.tail _ hp)
        · exact List.mem_append_left _ hp)
    refine wpAny_mono (turn i l vs ns k t m₁ hh' tk' own hin hne hsep hvs hP F₁ N₂) (fun f s₂ p => ?_) fun _ _ e => e
    have fin : EndT h₀ env.locals x y stored m₀ rest own (P (i + 1)) { s with heap := hh', toks := tk' } s₂ → LoopStepU h₀ env.locals [s.heap.objs.size] own (J (i + 1)) { s with heap := hh', toks := tk' } .next s₂ := by
      rintro ⟨h', tk, m', news', l', vs', ns', k', e, F', N', hm, hr1, ho1, hn1, hn2, hi', hp', hy', hz'⟩
      refine ⟨rfl, h', tk, m', _, e, F', fun p hp => N' p ?_, fun p hp hq => ?_, ⟨l', vs', ns', k', rfl, hn1, hi', hp', hy', hz'⟩⟩
      · rcases List.mem_append.mp hp with hp | hp
        · exact ho1 p hp
        · rcases List.mem_cons.mp hp with rfl | hp
          · exact hm
          · exact hr1 p hp
      · have hI := List.mem_singleton.mp hq
        rcases List.mem_cons.mp hp with rfl | hp
        · obtain ⟨o, hq1, hq2⟩ : ∃ o, hh'.get? s.heap.objs.size = some o ∧ h₀.get? s.heap.objs.size = none := ⟨_, hSt, next_is_new F⟩
          exact hn2 _ (hall _ (List.mem_singleton.mpr rfl) hq2 _ hq1) hI.symm
        · exact hoff p (.tail _ hp) hq
    cases f with
    | ret v => exact .ret p
    | brk => exact .brk p
    | next => exact .next (fin p)
    | cont => exact .cont (fin p)
  · rintro h' tk m' news' F' N' _ ⟨l, vs, ns, k, rfl, hne, hvs, hP, hy₁, hm₁⟩
    refine done l vs ns k m' h' tk hne hvs hP ?_ N'
    have e3 : (fun z => if z = x then m' z else if z = y then some (Value.ref l) else if stored.contains z = true then m' z else m₀ z) = m' := by
      funext z
      by_cases h1 : z = x
      · rw [if_pos h1]
      · rw [if_neg h1]
        by_cases h2 : z = y
        · rw [if_pos h2, h2, hy₁]
        · rw [if_neg h2]
          cases h3 : stored.contains z with
          | true => simp
          | false => simp only [Bool.false_eq_true, if_false]; exact (hm₁ z h1 h2 h3).symm
    rw [e3]; exact F'
end
/-! a loop over a range that stores names and keeps nothing of them -/
noncomputable def FreeT (h₀ : Heap) (L : Addr) (x : Str) (stored : List Str) (m₀ : Str → Option Value) (news own : List (Addr × Obj)) (s₁ : Shared) (Q : Flow → Shared → Prop) (f : Flow) (s₂ : Shared) : Prop :=
  match f with
  | .ret v => Q (.ret v) s₂
  | .brk => Q .next s₂
  | _ => ∃ h' tk m' news', s₂ = { s₁ with heap := h', toks := tk } ∧ Fr h₀ L h' m' ∧ News h₀ L h' news' ∧ (∀ p ∈ news, p ∈ news') ∧ (∀ p ∈ own, p ∈ news') ∧ ∀ z, z ≠ x → stored.contains z = false → m' z = m₀ z
theorem FreeT.intro {h₀ : Heap} {L : Addr} {x : Str} {stored : List Str} {m₀ : Str → Option Value} {news own news' : List (Addr × Obj)} {s₁ : Shared} {Q : Flow → Shared → Prop} {f : Flow} {h' : Heap} {tk : Nat} {m' : Str → Option Value} (hf : f = .next ∨ f = .cont)
    (F : Fr h₀ L h' m') (N : News h₀ L h' news') (h1 : ∀ p ∈ news, p ∈ news') (h2 : ∀ p ∈ own, p ∈ news') (hr : ∀ z, z ≠ x → stored.contains z = false → m' z = m₀ z) : FreeT h₀ L x stored m₀ news own s₁ Q f { s₁ with heap := h', toks := tk } := by
  rcases hf with rfl | rfl <;> exact ⟨h', tk, m', news', rfl, F, N, h1, h2, hr⟩
section
variable {prog : Program} {w : World} {A : Around} {E : Value → Shared → Prop} {s : Shared} {env : Env} {h₀ : Heap} {x : Str} {body : List Stmt} {Q : Flow → Shared → Prop}
theorem rangeFree {r : Addr} {a₀ b₀ : Int} {t₀ u₀ v₀ : Tok} {n : Nat} {m₀ : Str → Option Value} {news : List (Addr × Obj)} (stored : List Str)
    (hh : A.handled = none) (hr : IsRange s.heap r a₀ b₀ 1 t₀ u₀ v₀) (hsmall : Builtin.Range.small a₀ b₀ 1 = true) (hn : Builtin.Range.rangeSize a₀ b₀ 1 = (n : Int)) (F : Fr h₀ env.locals s.heap m₀) (N : News h₀ env.locals s.heap news)
    (turn : ∀ (i : Nat) (k : Int) t (u : Str → Option Value) h tk own, k = a₀ + (i : Int) → i < n → OwnOff own (news.map (·.1)) →
      Fr h₀ env.locals h (fun z => if z = x then some (.int k t) else if stored.contains z = true then u z else m₀ z) → News h₀ env.locals h (news ++ own) →
      wpAny (model prog w) A (execs body env) (FreeT h₀ env.locals x stored m₀ news own { s with heap := h, toks := tk } Q) E { s with heap := h, toks := tk })
    (done : ∀ (u : Str → Option Value) h tk, Fr h₀ env.locals h (fun z => if z = x then u z else if stored.contains z = true then u z else m₀ z) → News h₀ env.locals h news → Q .next { s with heap := h, toks := tk }) :
    wpAny (model prog w) A (pyIter (.ref r)) (fun it s₂ => LoopAtV prog w A h₀ env x body Q E it s₂) E s := by
  refine kst_range (σ := Unit) (fun _ => news) (fun _ => []) (fun _ => True) stored (fun _ _ => True) () hh hr hsmall hn F N trivial (fun p hp => nomatch hp) trivial ?_ ?_
  · intro c pre k t u h tk own hk hl hoff _ _ F' N'
    refine wpAny_mono (turn pre.length k t u h tk own hk hl hoff F' N') (fun f s₂ q => ?_) fun _ _ e => e
    have fin : (∃ h' tk' m' news', s₂ = { s with heap := h', toks := tk' } ∧ Fr h₀ env.locals h' m' ∧ News h₀ env.locals h' news' ∧ (∀ p ∈ news, p ∈ news') ∧ (∀ p ∈ own, p ∈ news') ∧ ∀ z, z ≠ x → stored.contains z = false → m' z = m₀ z) →
        InvEndN h₀ env.locals (KstS (fun _ : Unit => news) (fun _ => []) (fun _ => True) x stored m₀ (fun _ _ => True) (pre ++ [k])) own (news.map (·.1)) { s with heap := h, toks := tk } s₂ := by
      rintro ⟨h', tk', m', news', rfl, F₁, N₁, h1, h2, hz⟩
      exact InvEndN.intro F₁ N₁ ⟨(), rfl, trivial, (fun p hp => nomatch hp), (fun z z1 _ z3 => hz z z1 z3), trivial⟩ rfl h1 h2
    cases f with
    | ret v => exact q
    | brk => exact q
    | next => exact fin q
    | cont => exact fin q
  · intro c u h tk _ _ F' N'
    exact done u h tk F' N'
theorem boolsFree {l : Addr} {vs : List Value} {nn : Nat} {m₀ : Str → Option Value} {news : List (Addr × Obj)} (stored : List Str)
    (hh : A.handled = none) (hl : (l, PySem.W.listOf vs.toArray nn) ∈ news) (hv : ∀ v ∈ vs, ∃ b, v = Value.bool b) (F : Fr h₀ env.locals s.heap m₀) (N : News h₀ env.locals s.heap news)
    (turn : ∀ (b : Bool) (u : Str → Option Value) h tk own, OwnOff own (news.map (·.1)) →
      Fr h₀ env.locals h (fun z => if z = x then some (.bool b) else if stored.contains z = true then u z else m₀ z) → News h₀ env.locals h (news ++ own) →
      wpAny (model prog w) A (execs body env) (FreeT h₀ env.locals x stored m₀ news own { s with heap := h, toks := tk } Q) E { s with heap := h, toks := tk })
    (done : ∀ (u : Str → Option Value) h tk, Fr h₀ env.locals h (fun z => if z = x then u z else if stored.contains z = true then u z else m₀ z) → News h₀ env.locals h news → Q .next { s with heap := h, toks := tk }) :
    wpAny (model prog w) A (pyIter (.ref l)) (fun it s₂ => LoopAtV prog w A h₀ env x body Q E it s₂) E s := by
  have hol : s.heap.get? l = some (PySem.W.listOf vs.toArray nn) := (N _ hl).1
  have hls : s.heap.IsList l vs.toArray := ⟨_, hol, rfl, nn, rfl⟩
  have hne : l ≠ s.heap.objs.size := Nat.ne_of_lt (Heap.lt_size hol)
  have hmap : ∀ (m₁ : Str → Option Value) (v : Option Value), (∀ z, z ≠ x → stored.contains z = false → m₁ z = m₀ z) → (fun z => if z = x then v else m₁ z) = fun z => if z = x then v else if stored.contains z = true then m₁ z else m₀ z := by
    intro m₁ v hm
    funext z
    by_cases h1 : z = x
    · rw [if_pos h1, if_pos h1]
    · rw [if_neg h1, if_neg h1]
      cases h3 : stored.contains z with
      | true => simp
      | false => simp only [Bool.false_eq_true, if_false]; exact hm z h1 h3
  refine wpAny_pyIter_list hls ?_
  have W := Walks.list (prog := prog) (w := w) hh s.heap.objs.size l hne vs.toArray
  refine ⟨_, _, _, vs.toArray.size, _, _, m₀, news, (fun _ m nx => nx = news ∧ ∀ z, z ≠ x → stored.contains z = false → m z = m₀ z), rfl, W, ?_, ?_, ?_, ⟨⟨_, Heap.get?_push_size _ rfl, rfl, rfl⟩, hls.at fun o e => Heap.get?_push_of_some _ e⟩, F.push _, (fun p hp => ⟨Heap.get?_push_of_some _ (N p hp).1, (N p hp).2⟩), ⟨rfl, fun _ _ _ => rfl⟩, ?_, ?_⟩
  · intro hm
    rcases List.mem_cons.mp hm with e | hm
    · exact absurd F.ns.lt (e ▸ Nat.lt_irrefl _)
    · exact (N _ hl).2.1 ((List.mem_singleton.mp hm).symm)
  · intro b hb
    rw [List.mem_singleton.mp hb]
    exact next_is_new F
  · intro p hp hI
    exact absurd (Heap.lt_size (N p hp).1) ((List.mem_singleton.mp hI) ▸ Nat.lt_irrefl _)
  · rintro i v m₁ news₁ s₁ own ⟨hh', tk', rfl⟩ hin hP ⟨rfl, hm₁⟩ hoff hown hget hfp _ F₁ N₁
    have hv' : v ∈ vs := List.mem_of_getElem? (by simpa using hP)
    obtain ⟨b, rfl⟩ := hv v hv'
    have hsep : OwnOff (own.filter fun p => decide (p.1 = s.heap.objs.size)) (news₁.map (·.1)) := by
      intro p hp b hb e
      obtain ⟨q, hq, rfl⟩ := List.mem_map.mp hb
      have h1 : p.1 = s.heap.objs.size := by simpa using (List.mem_filter.mp hp).2
      exact absurd (Heap.lt_size (N q hq).1) (by rw [← e, h1]; exact Nat.lt_irrefl _)
    have N₂ : News h₀ env.locals hh' (news₁ ++ own.filter fun p => decide (p.1 = s.heap.objs.size)) := fun p hp => N₁ p ((List.mem_append.mp hp).elim (fun h => List.mem_append.mpr (.inr h)) fun h => List.mem_append.mpr (.inl ((List.mem_filter.mp h).1)))
    have hlo : hh'.get? l = some (PySem.W.listOf vs.toArray nn) := (N₁ _ (List.mem_append.mpr (.inr hl))).1
    rw [hmap m₁ _ hm₁] at F₁
    refine wpAny_mono (turn b m₁ hh' tk' _ hsep F₁ N₂) (fun f s₂ p => ?_) fun _ _ e => e
    have fin : (∃ h' tk m' news', s₂ = { s with heap := h', toks := tk } ∧ Fr h₀ env.locals h' m' ∧ News h₀ env.locals h' news' ∧ (∀ p ∈ news₁, p ∈ news') ∧ (∀ p ∈ (own.filter fun p => decide (p.1 = s.heap.objs.size)), p ∈ news') ∧ ∀ z, z ≠ x → stored.contains z = false → m' z = m₀ z) →
        LoopStepU h₀ env.locals [s.heap.objs.size] own (fun m nx => nx = news₁ ∧ ∀ z, z ≠ x → stored.contains z = false → m z = m₀ z) { s with heap := hh', toks := tk' } .next s₂ := by
      rintro ⟨h', tk, m', news', e, F', N', h1, h2, hz⟩
      refine ⟨rfl, h', tk, m', news₁, e, F', fun p hp => ?_, fun p hp => ?_, rfl, hz⟩
      · rcases List.mem_append.mp hp with h | h
        · by_cases hI : p.1 = s.heap.objs.size
          · exact N' p (h2 p (List.mem_filter.mpr ⟨h, by simpa using hI⟩))
          · have e1 : p.1 = l := by
              rcases List.mem_cons.mp (hown p h) with q | q
              · exact absurd q hI
              · exact List.mem_singleton.mp q
            have e2 : hh'.get? p.1 = some p.2 := hget p h
            rw [e1, hlo] at e2
            have e3 : p = (l, PySem.W.listOf vs.toArray nn) := Prod.ext e1 (Option.some.inj e2).symm
            rw [e3]
            exact N' _ (h1 _ hl)
        · exact N' p (h1 p h)
      · intro hI
        exact absurd (Heap.lt_size (N p hp).1) (by rw [List.mem_singleton.mp hI]; exact Nat.lt_irrefl _)
    cases f with
    | ret v => exact .ret p
    | brk => exact .brk p
    | next => exact .next (fin p)
    | cont => exact .cont (fin p)
  · rintro h' tk m' news' F' N' _ ⟨rfl, hm⟩
    refine done m' h' tk ?_ N'
    have e := hmap m' (v := none) hm
    have e2 : (fun z => if z = x then m' z else if stored.contains z = true then m' z else m₀ z) = m' := by
      funext z
      by_cases h1 : z = x
      · rw [if_pos h1]
      · rw [if_neg h1]
        cases h3 : stored.contains z with
        | true => simp
        | false => simp only [Bool.false_eq_true, if_false]; exact (hm z h1 h3).symm
    rw [e2]; exact F'
end
/-! a list comprehension over bytes, its elements ints, bound to a name -/
section
open PyProof.Rows.LCg PySem.Spec
variable {prog : Program} {w : World} {A : Around} {E : Value → Shared → Prop} {s : Shared} {env : Env} {h₀ : Heap} {L : Addr} {m : Str → Option Value}
noncomputable def BSrc (prog : Program) (w : World) (A : Around) (h₀ : Heap) (L : Addr) (m : Str → Option Value) (env : Env) (elt : Expr) (x : Str) (scope : Scope) (cl : List (Str × Addr)) (y : Str) (Q : Flow → Shared → Prop) (xv : Value) (s₁ : Shared) : Prop :=
  ∃ b t news, xv = .bytes b t ∧ A.handled = none ∧ Fr h₀ L s₁.heap m ∧ News h₀ L s₁.heap news ∧ b.size ≤ sizeLine ∧
    ∀ s₂ : Shared, (∃ h, s₂ = { s₁ with heap := h }) → CompRest prog w A h₀ L m env elt x scope cl s₂ (fun _ => True) (fun i v => ∃ c u, b[i]? = some c ∧ v = .int (c.toNat : Int) u) (FinA h₀ L m s₂ y Q) b.size 0 [] news
theorem BSrc.intro {elt : Expr} {x y : Str} {scope : Scope} {cl : List (Str × Addr)} {Q : Flow → Shared → Prop} {b : Array UInt8} {t : Tok} {ks : List Int} {news : List (Addr × Obj)} {s₁ : Shared} (g : Int → Int) (hb : KBw.bInts b = ks)
    (hh : A.handled = none) (F : Fr h₀ L s₁.heap m) (N : News h₀ L s₁.heap news) (hsz : ks.length ≤ 16777216)
    (turn : ∀ k t I oI C oC D m₂ ys h tk (E' : Value → Shared → Prop), k ∈ ks → NsObj oC m₂ → m₂ x = some (.int k t) → Fr h₀ L h m → News h₀ L h ((I, oI) :: (C, oC) :: (D, lst ys) :: news) → Off3 I C D news → ((@Ne Nat I C) ∧ (@Ne Nat I D) ∧ (@Ne Nat C D)) → KPfMark →
      wpAny (model prog w) A (eval elt (compEnvC scope cl C env)) (CompEnd h₀ L m { s₁ with heap := h, toks := tk } I oI C oC D (lst ys) (fun _ => True) (fun y news' => KCfEl news (g k) y news')) E' { s₁ with heap := h, toks := tk })
    (fin : ∀ ys D h tk, IntsAre ys (ks.map g) → Fr h₀ L h (fun z => if z = y then some (.ref D) else m z) → News h₀ L h ((D, lst ys) :: news) → Off1 D news → Q .next { s₁ with heap := h, toks := tk }) :
    BSrc prog w A h₀ L m env elt x scope cl y Q (.bytes b t) s₁ := by
  refine ⟨b, t, news, rfl, hh, F, N, by rw [← KBw.ints_length, hb, sizeLine_eq]; exact hsz, ?_⟩
  rintro s₂ ⟨hp, rfl⟩
  refine kcf_rest (ks := ks) g (by rw [← hb]; exact KBw.ints_length b) (fun i v hi hv => ?_) turn (fun ys hi => ?_)
  · obtain ⟨c, u, hc, rfl⟩ := hv
    refine ⟨(c.toNat : Int), u, ?_, rfl⟩
    rw [← hb]
    show (b.toList.map fun c : UInt8 => ((c.toNat : Nat) : Int))[i]? = _
    rw [List.getElem?_map, Array.getElem?_toList, hc]; rfl
  · exact fun D h tk F' N' o => fin ys D h tk hi F' N' o
theorem bytes_st {I : Addr} {b : Array UInt8} {t : Tok} : ∀ i (h h' : Heap) (o : Obj) (nw : List (Addr × Obj)), KBw.IsBytesIter h I b t i → h.get? I = some o → h'.get? I = some o → (∀ b o, h₀.get? b = some o → h'.get? b = some o) → News h₀ L h' nw → True → KBw.IsBytesIter h' I b t i :=
  fun i h h' o nw st e e' _ _ _ => by obtain ⟨o', q, r⟩ := st; rw [e] at q; cases q; exact ⟨o, e', r⟩
theorem assign_comp_bytes {elt iter : Expr} {x y : Str} {px py : Pos} {scope : Scope} {cl : List (Str × Addr)} {pos spos : Pos} {Q : Flow → Shared → Prop} (F₀ : Fr h₀ L s.heap m) (hLe : env.locals = L)
    (hsw : swapsWith (.ListComp elt [⟨.Name x px, iter, [], 0⟩] scope pos) (some (.Name y py)) spos.line env = pure true)
    (hclos : closureFor scope env = pure cl) (hcell : ∀ z ∈ scope.names, z.2 ≠ .cell) (hkind : scope.kind = .function)
    (hnames : ∀ z ∈ scope.names, z.2 = .local → scope.names.lookup z.1 = some .local) (hx : scope.names.lookup x = some .local)
    (hy : env.kindOf y = some .local) (hp : (env.scope.kind == .class || (env.scope.kind == .module && env.locals != env.globals)) = false)
    (h : wpAny (model prog w) A (eval iter env) (BSrc prog w A h₀ L m env elt x scope cl y Q) E s)
    (hs : ∀ x, foldedSetIterable iter env x = pure x := by intro _; rfl) :
    wpAny (model prog w) A (exec (.Assign [.Name y py] (.ListComp elt [⟨.Name x px, iter, [], 0⟩] scope pos) spos) env) Q E s := by
  subst hLe
  rw [exec_Assign_Name_used _ _ _ _ hsw]
  refine wpAny_bind (wpAny_standAt (wpAny_bind ?_))
  show wpAny _ A (do let _ ← comprehension (.ListComp elt [⟨.Name x px, iter, [], 0⟩] scope pos) scope env _ (newList []) false (eval iter env) (some (assign (.Name y py) env))) _ _ s
  refine wpAny_bind (wpAny_mono (wpAny_comprehension_free (use := some (assign (.Name y py) env)) (Q := fun _ s' => Q .next s') rfl hs hclos hkind hnames
    (wpAny_mono h (fun xv s₁ h₁ => ?_) fun _ _ e => e)) (fun _ s' hq => wpAny_pure (wpAny_pure hq)) fun _ _ e => e)
  obtain ⟨b, t, news, rfl, hh, F, N, hsz, R⟩ := h₁
  refine KBw.pyIter_bytes ?_
  refine block_U (KBw.walks hh s₁.heap.objs.size b t) hsz (fun i h st => by obtain ⟨o, e, _⟩ := st; exact ⟨o, e⟩) bytes_st hcell hkind hx ⟨_, Heap.get?_push_size _ rfl, rfl, rfl⟩ (fun b hb => ?_)
    (F.keeps fun _ _ e => Heap.get?_push_of_some _ e) (N.grown fun _ _ e => Heap.get?_push_of_some _ e) (Nat.ne_of_lt F.ns.lt) (next_is_new F) (fun p hp => Nat.ne_of_lt (Heap.lt_size (N p hp).1)) trivial (R _ ⟨_, rfl⟩) ?_
  · rw [List.mem_singleton.mp hb]
    show s₁.heap.objs.size < (s₁.heap.push _).objs.size
    rw [Heap.size_push]; exact Nat.lt_succ_self _
  · intro D C h' tk m' ys news' F' N' o1 hn hC₀ hD₀ hCL hDL hCD offC fin
    show wpAny _ A (assign (.Name y py) env (.ref D)) _ _ _
    refine wpAny_assign_Name (wpAny_storeName_local hy F'.ns (fun h₂ hn₂ hs₂ => ?_) hp)
    have hL₀ : h₀.get? env.locals = none := Heap.get?_none_of_le F'.above
    have F₂ : Fr h₀ env.locals h₂ (fun z => if z = y then some (.ref D) else m z) := ⟨hn₂, fun b o e => hs₂.extBut b o (fun q => by rw [q, hL₀] at e; cases e) (F'.keep b o e), F'.above⟩
    refine ⟨m', hn.sameBut hs₂ hCL, fun h'' hs'' => fin D h'' _ (F₂.change hs'' hCL hC₀) (fun p hp => ?_) o1⟩
    have z : h₂.get? p.1 = some p.2 := hs₂.extBut _ _ (N' p hp).2.1 (N' p hp).1
    refine ⟨hs''.extBut _ _ ?_ z, (N' p hp).2⟩
    rcases List.mem_cons.mp hp with rfl | hp
    · exact Ne.symm hCD
    · exact offC p hp
end
/-! translate by a table of two signs, plainly -/
noncomputable def trI (f0 f1 g0 g1 x : Int) : Int := if x = f1 then g1 else if x = f0 then g0 else x
theorem two_of {f : Array UInt8} {x y : Int} (h : KBw.bInts f = [x, y]) : ∃ a b : UInt8, f.toList = [a, b] ∧ (a.toNat : Int) = x ∧ (b.toNat : Int) = y := by
  have h' : f.toList.map (fun c : UInt8 => ((c.toNat : Nat) : Int)) = [x, y] := h
  match hf : f.toList with
  | [] => rw [hf] at h'; cases h'
  | [_] => rw [hf] at h'; cases h'
  | [a, b] => rw [hf] at h'; injection h' with h1 h2; injection h2 with h2 _; exact ⟨a, b, rfl, h1, h2⟩
  | _ :: _ :: _ :: _ => rw [hf] at h'; injection h' with _ h2; injection h2 with _ h2; cases h2
theorem id256 (c : UInt8) : ((Array.range 256).map (·.toUInt8)).getD c.toNat c = c := by
  have h := c.toNat_lt
  have h' : c.toNat < ((Array.range 256).map (fun n : Nat => n.toUInt8)).size := by simp; omega
  rw [Array.getD_eq_getD_getElem?, Array.getElem?_eq_getElem h', Option.getD_some, Array.getElem_map, Array.getElem_range]
  exact UInt8.ofNat_toNat
theorem two_set {T : Array UInt8} (hT : T.size = 256) (hid : ∀ c : UInt8, T.getD c.toNat c = c) (a0 a1 b0 b1 c : UInt8) :
    ((T.setIfInBounds a0.toNat b0).setIfInBounds a1.toNat b1).getD c.toNat c = if c = a1 then b1 else if c = a0 then b0 else c := by
  have hc := c.toNat_lt
  rw [Array.getD_eq_getD_getElem?, Array.getElem?_setIfInBounds]
  by_cases h1 : c = a1
  · subst h1
    rw [if_pos rfl, if_pos (by rw [Array.size_setIfInBounds, hT]; exact hc), if_pos rfl]; rfl
  · rw [if_neg (fun e => h1 (UInt8.toNat_inj.mp e).symm), if_neg h1, Array.getElem?_setIfInBounds]
    by_cases h0 : c = a0
    · subst h0
      rw [if_pos rfl, if_pos (by rw [hT]; exact hc), if_pos rfl]; rfl
    · rw [if_neg (fun e => h0 (UInt8.toNat_inj.mp e).symm), if_neg h0, ← Array.getD_eq_getD_getElem?]
      exact hid c
theorem fold2 {T : Array UInt8} {l k : List UInt8} {a0 a1 b0 b1 : UInt8} (hf : l = [a0, a1]) (hg : k = [b0, b1]) : (l.zip k).foldl (fun t (p : UInt8 × UInt8) => t.setIfInBounds p.1.toNat p.2) T = (T.setIfInBounds a0.toNat b0).setIfInBounds a1.toNat b1 := by
  subst hf hg; rfl
theorem tab_get {f g : Array UInt8} {a0 a1 b0 b1 : UInt8} (hf : f.toList = [a0, a1]) (hg : g.toList = [b0, b1]) (c : UInt8) :
    (trTab f g).getD c.toNat c = if c = a1 then b1 else if c = a0 then b0 else c := by
  unfold trTab
  rw [fold2 hf hg]
  exact two_set (by rw [Array.size_map, Array.size_range]) id256 _ _ _ _ _
theorem u8_eq {a c : UInt8} : ((c.toNat : Int) = (a.toNat : Int)) ↔ c = a := ⟨fun h => UInt8.toNat_inj.mp (Int.ofNat.inj h), fun h => by rw [h]⟩
theorem tr_ints {f g b : Array UInt8} {f0 f1 g0 g1 : Int} (hf : KBw.bInts f = [f0, f1]) (hg : KBw.bInts g = [g0, g1]) : KBw.bInts (trBytes (trTab f g) b) = (KBw.bInts b).map (trI f0 f1 g0 g1) := by
  obtain ⟨a0, a1, ef, rfl, rfl⟩ := two_of hf
  obtain ⟨b0, b1, eg, rfl, rfl⟩ := two_of hg
  show ((b.map fun c => (trTab f g).getD c.toNat c).toList.map fun c : UInt8 => ((c.toNat : Nat) : Int)) = (b.toList.map fun c : UInt8 => ((c.toNat : Nat) : Int)).map _
  rw [Array.toList_map, List.map_map, List.map_map]
  refine List.map_congr_left fun c _ => ?_
  show (((trTab f g).getD c.toNat c).toNat : Int) = trI _ _ _ _ (c.toNat : Int)
  rw [tab_get ef eg]
  unfold trI
  by_cases h1 : c = a1
  · rw [if_pos h1, if_pos (u8_eq.mpr h1)]
  · rw [if_neg h1, if_neg (fun e => h1 (u8_eq.mp e))]
    by_cases h0 : c = a0
    · rw [if_pos h0, if_pos (u8_eq.mpr h0)]
    · rw [if_neg h0, if_neg (fun e => h0 (u8_eq.mp e))]
theorem tr_size (c b : Array UInt8) : (trBytes c b).size = b.size := by unfold trBytes; rw [Array.size_map]
/-! what _law_written makes, plainly -/
noncomputable def num3 (os : List Int) (k : Nat) : Int := (os.getD k 0 * 256 + os.getD (k + 1) 0) * 256 + os.getD (k + 2) 0
noncomputable def wgrp (S os : List Int) (k : Nat) : List Int :=
  ([(num3 os k).fdiv 262144, ((num3 os k).fdiv 4096).fmod 64, ((num3 os k).fdiv 64).fmod 64, (num3 os k).fmod 64].take (min 3 (os.length - k) + 1)).map (fun p => S.getD p.toNat 0) ++ List.replicate (3 - min 3 (os.length - k)) 61
noncomputable def wtext (S os : List Int) : Nat → List Int
  | 0 => []
  | i + 1 => wtext S os i ++ wgrp S os (3 * i)
theorem getD_by {rd : List Int} {b : Int} (h : ∀ n ∈ rd, 0 ≤ n ∧ n < b) (hb : 0 < b) (k : Nat) : 0 ≤ rd.getD k 0 ∧ rd.getD k 0 < b := by
  rw [List.getD_eq_getElem?_getD]
  cases e : rd[k]? with
  | none => simpa using hb
  | some v => simpa using h v (List.mem_of_getElem? e)
theorem num3_rng {os : List Int} (h : ∀ n ∈ os, 0 ≤ n ∧ n < 256) (k : Nat) : 0 ≤ num3 os k ∧ num3 os k < 16777216 := by
  have h0 := getD_by h (by decide) k
  have h1 := getD_by h (by decide) (k + 1)
  have h2 := getD_by h (by decide) (k + 2)
  unfold num3
  omega
theorem four_rng {x : Int} (h0 : 0 ≤ x) (h1 : x < 16777216) {t : Nat} : ∀ n ∈ [x.fdiv 262144, (x.fdiv 4096).fmod 64, (x.fdiv 64).fmod 64, x.fmod 64].take t, 0 ≤ n ∧ n < 64 := by
  intro n hn
  have hm := List.mem_of_mem_take hn
  simp only [List.mem_cons, List.not_mem_nil, or_false] at hm
  rw [Int.fdiv_eq_ediv_of_nonneg _ (by decide), Int.fdiv_eq_ediv_of_nonneg _ (by decide), Int.fdiv_eq_ediv_of_nonneg _ (by decide), Int.fmod_eq_emod_of_nonneg _ (by decide), Int.fmod_eq_emod_of_nonneg _ (by decide), Int.fmod_eq_emod_of_nonneg _ (by decide)] at hm
  omega
theorem wgrp_rng {S os : List Int} (hS : ∀ n ∈ S, 0 ≤ n ∧ n < 256) (k : Nat) : ∀ n ∈ wgrp S os k, 0 ≤ n ∧ n < 256 := by
  intro n hn
  rcases List.mem_append.mp hn with hn | hn
  · obtain ⟨p, _, rfl⟩ := List.mem_map.mp hn
    exact getD_by hS (by decide) _
  · rw [(List.mem_replicate.mp hn).2]; decide
theorem wtext_rng {S os : List Int} (hS : ∀ n ∈ S, 0 ≤ n ∧ n < 256) : ∀ i, ∀ n ∈ wtext S os i, 0 ≤ n ∧ n < 256
  | 0, _, hn => nomatch hn
  | i + 1, n, hn => (List.mem_append.mp hn).elim (wtext_rng hS i n) (wgrp_rng hS _ n)
theorem wgrp_len (S os : List Int) (k : Nat) : (wgrp S os k).length ≤ 7 := by
  unfold wgrp
  rw [List.length_append, List.length_map, List.length_take, List.length_replicate]
  simp only [List.length_cons, List.length_nil]
  omega
theorem wtext_len (S os : List Int) : ∀ i, (wtext S os i).length ≤ 7 * i
  | 0 => Nat.le_refl _
  | i + 1 => by
    have := wtext_len S os i
    have := wgrp_len S os (3 * i)
    rw [wtext, List.length_append]
    omega
theorem rangeSize3 (k : Nat) : Builtin.Range.rangeSize 0 (k : Int) 3 = (((k + 2) / 3 : Nat) : Int) := by
  unfold Builtin.Range.rangeSize
  rw [if_pos (by decide)]
  split <;> omega
theorem small3 {k : Nat} (hk : k ≤ 1000) : Builtin.Range.small 0 (k : Int) 3 = true := by
  unfold Builtin.Range.small
  rw [rangeSize3, fits_of (by omega) (by omega), fits_of (by omega) (by omega), fits_of (by omega) (by omega), fits_of (by omega) (by omega)]
  rw [if_pos (by decide), fits_of (by omega) (by omega), Bool.or_true]
  rfl
local macro_rules | `(tactic| ktr_room) => `(tactic| ((rename Room _ _ _ => hR9); (have hR8 := Room.room hR9); (try simp only [depth_under_make, depth_under_kw, depth_in1, depth_deeper, depth_caller]); (try dsimp only [ktrTop]); omega))
local macro_rules | `(tactic| ktr_units) => `(tactic| ((rename Room _ _ _ => hR9); (have hR8 := Room.units hR9); (try simp only [units_in1, units_deeper, Around.mark_units, units_caller]); (try dsimp only [ktrTop]); omega))
local macro_rules | `(tactic| k_room) => `(tactic| ktr_room)
local macro_rules | `(tactic| kmk_sum) => `(tactic| (simp only [sizeLine_eq, List.length_append, List.length_cons, List.length_nil, List.length_take, List.length_map, List.length_replicate]; omega))
local macro_rules | `(tactic| kst_facts) => `(tactic| ((try dsimp only); with_reducible exact IntsAre.nil))
noncomputable def b64val (c : Int) : Int :=
  if 65 ≤ c ∧ c ≤ 90 then c - 65 else if 97 ≤ c ∧ c ≤ 122 then c - 71 else if 48 ≤ c ∧ c ≤ 57 then c + 4 else if c = 43 then 62 else if c = 47 then 63 else 64
theorem dec_q {P : Prop} [d : Decidable P] {R : Bool → Prop} (h1 : P → R true) (h2 : ¬ P → R false) : R (decide P) := by
  cases d with
  | isTrue h => exact h1 h
  | isFalse h => exact h2 h
theorem look_use {K : Frag} {f : Addr} {o o' : Obj} {P : Prop} (h : K.lookup f = some o) (h' : K.lookup f = some o') (k : o = o' → P) : P := k (Option.some.inj (h.symm.trans h'))
theorem frTo {g h : Heap} {L : Addr} {m m' : Str → Option Value} (F : Fr g L h m) (e : m = m') : Fr g L h m' := e ▸ F
theorem map1 {m : Str → Option Value} {x : Str} {u : Value} (hx : m x = some u) : m = (fun (n : Str) => if n = x then some u else m n) := by
  funext n
  by_cases h1 : n = x
  · rw [if_pos h1, h1, hx]
  · rw [if_neg h1]
theorem map2 {m : Str → Option Value} {x y : Str} {u v : Value} (hx : m x = some u) (hy : m y = some v) : m = (fun (n : Str) => if n = x then some u else if n = y then some v else m n) := by
  funext n
  by_cases h1 : n = x
  · rw [if_pos h1, h1, hx]
  · rw [if_neg h1]
    by_cases h2 : n = y
    · rw [if_pos h2, h2, hy]
    · rw [if_neg h2]
section
variable {w : World} {p : Program} {loose : List Str} {mean : ExcName → Option Value} {mg mb : Str → Option Value} {dp un : Nat} {gd : Option (List Code)} {cn : Str} {cs : Scope} {a : Addr} {ccd : Value} {cl : List (Str × Addr)} {outer : List Env} {L : Addr}
    {g : Heap} {L' : Addr} {m : Str → Option Value} {s : Shared} {Q : Bool → Shared → Prop} {E : Value → Shared → Prop}
    {oc : Value} {od : Option Addr} {osl : Array (Option Value)} {name qual : Str} {params : Arguments} {body : List Stmt} {scope : Scope} {dV kV doc pm cdv ct : Value} {an : Option Addr}
    {q1 q2 q3 q4 : Pos} {c k1 k2 : Int} {t : Tok} {whole : Sem Value}
theorem val_in (ho : (hd.heap_39 w.params).lookup 70 = some ⟨oc, od, .func (fnOf name qual params body scope dV kV doc pm an cdv ct), osl⟩)
    (F : Fr g L' s.heap m) (X : (hd.heap_39 w.params).In g) (T : Top p loose mean mg mb g) (h1 : m "c" = some (.int c t))
    (ht : k1 ≤ c ∧ c ≤ k2 → ∀ tk, Q true { s with toks := tk }) (hf : ¬ (k1 ≤ c ∧ c ≤ k2) → ∀ tk, Q false { s with toks := tk }) :
    wpAny (model Challenge.rw_qh0109_01.row.prog w) ((ktrTop dp un gd cn cs L a ccd cl outer).deeper (envOf qual scope L' 70 cdv))
      (isTrue (.Compare (.Constant (.int k1) 0 q1) [.LtE, .LtE] [.Name "c" q2, .Constant (.int k2) 0 q3] q4) (envOf qual scope L' 70 cdv) whole) Q E s := by
  revert ho
  k_fill
  intro ho
  refine' look_use ho ?k6 ?_
  (case k6 => k_is)
  intro e
  cases e
  replace F := frTo F (map1 h1)
  have N : News g L' s.heap [] := News.nil
  clear h1
  k_with_none
  w_top off
  k_with "mine sides" => ((case kA => exact rfl); (case kF => exact rfl); (case kK => assumption); (case k6 => k_is); (case k7 => k_is); (case k8 => ktr_room); (case k9 => first | exact BindsTo.of_eq rfl | exact binds_K (by k_in) rfl (by k_is) rfl rfl rfl); (case c5 => decide); (case kB => exact locs rfl); (case c2 => exact rfl); (case c3 => exact rfl); (case c4 => exact rfl); k_whole; intro L' h' F' N' B' X' T'; (try dsimp only); (try k_lift B'); (try k_fold))
  k_with "call type:type" => ((with_reducible show wpAny _ _ (call _ [Value.bytes _ _]) _ _ _); refine call_type_of (Tx := "bytes") rfl (by decide +kernel) ?_)
  k_with "getMethod bytes" => (k_here; (with_reducible refine getm_tr ?_))
  k_with "getMethod type:bytes" => (k_here; k_dflt (refine' getm_mt ?k1 ?k2 ?k3 ?_; (case k1 => k_asm); (case k2 => k_asm); (case k3 => k_is); k_whole))
  k_with "call builtin:bytes.maketrans" => (k_here; k_dflt (refine' call_mt ?k1 ?_; (case k1 => first | rfl | (simp_all; done)); k_whole))
  k_with "call builtin:bytes.translate" => (k_here; k_dflt (refine' call_tr ?k1 ?k2 ?_; (case k1 => first | exact trTab_size _ _ | (simp_all; done)); (case k2 => first | omega | (simp_all; omega)); k_whole); intro t' k')
  k_with "call type:list" => (k_here; (with_reducible show wpAny _ _ (call (Value.type "list") [Value.bytes _ _]) _ _ _); k_dflt (refine' list_bytes_K ?k0 ?k1 ?k2 ?k3 ?_; (case k0 => rfl); (case k1 => k_asm); (case k2 => k_asm); (case k3 => first | decide | (simp_all; omega)); k_whole); intro l' h' tk' vs' c' F' N' l1 iX'; (try k_lt l1); (try k_sweep))
  k_with "mine useV" => ((case k1 => k_asm); (case k2 => k_asm); (case k3 => k_asm); (case k4 => k_asm); (case k5 => k_asm); (case k6 => first | exact rfl | assumption); (case k7 => first | exact True.intro | assumption); (case k8 => exact ⟨by ktr_room, by ktr_units⟩); k_whole)
  k_with "exec For Name Call cons nil" => (k_here; kst_src; (rename Fr _ _ _ _ => lF'); (with_unfolding_all refine' For_invVF lF' ?k1 ?k2 ?_; (case k1 => exact rfl); (case k2 => exact rfl); k_whole))
  k_with "exec For Name Name cons nil" => (k_here; kst_src; (rename Fr _ _ _ _ => lF'); (with_unfolding_all refine' For_invVF lF' ?k1 ?k2 ?_; (case k1 => exact rfl); (case k2 => exact rfl); k_whole))
  k_with "exec For Name Name cons nil" => (k_here; kstb_has; kstb_name; (rename Fr _ _ _ _ => lF'); (with_unfolding_all refine' For_invVF lF' ?k1 ?k2 ?_; (case k1 => exact rfl); (case k2 => exact rfl); k_whole))
  k_with "subscriptTail" => (k_here; (with_reducible show wpAny _ _ (subscriptTail _ _ (Value.bytes _ _) (Value.int _ _)) _ _ _); k_dflt (refine' KBw.item_K ?k1 ?k2 ?k3 ?k4 ?_; (case k1 => with_reducible assumption); (case k2 => simp only [List.length_cons, List.length_nil]; omega); (case k3 => omega); (case k4 => simp only [List.length_cons, List.length_nil]; omega); k_whole); intro _ _ kbaLo kbaHi)
  k_with "mine go" => repeat' (first | (k_unfold; (try dsimp only)) | walk1 | (dsimp only; walk1) | (leave1; (try dsimp only)) | fail "no step")
  k_with "storeName" => (k_here; (dsimp only); walk_at "storeName")
  walk_at "mine go"
  all_goals first
    | exact dec_q (R := fun b => Q b _) (fun h => ht ⟨by assumption, h⟩ _) (fun h => hf (fun g => h g.2) _)
    | exact hf (fun h => absurd h.1 (by assumption)) _
end
section
variable {c : Int}
theorem bv_1 (h : 65 ≤ c ∧ c ≤ 90) : c - 65 = b64val c := by unfold b64val; rw [if_pos h]
theorem bv_2 (h1 : ¬ (65 ≤ c ∧ c ≤ 90)) (h : 97 ≤ c ∧ c ≤ 122) : c - 71 = b64val c := by unfold b64val; rw [if_neg h1, if_pos h]
theorem bv_3 (h1 : ¬ (65 ≤ c ∧ c ≤ 90)) (h2 : ¬ (97 ≤ c ∧ c ≤ 122)) (h : 48 ≤ c ∧ c ≤ 57) : c + 4 = b64val c := by unfold b64val; rw [if_neg h1, if_neg h2, if_pos h]
theorem bv_4 (h1 : ¬ (65 ≤ c ∧ c ≤ 90)) (h2 : ¬ (97 ≤ c ∧ c ≤ 122)) (h3 : ¬ (48 ≤ c ∧ c ≤ 57)) (h : c = 43) : 62 = b64val c := by unfold b64val; rw [if_neg h1, if_neg h2, if_neg h3, if_pos h]
theorem bv_5 (h1 : ¬ (65 ≤ c ∧ c ≤ 90)) (h2 : ¬ (97 ≤ c ∧ c ≤ 122)) (h3 : ¬ (48 ≤ c ∧ c ≤ 57)) (h4 : c ≠ 43) (h : c = 47) : 63 = b64val c := by unfold b64val; rw [if_neg h1, if_neg h2, if_neg h3, if_neg h4, if_pos h]
theorem bv_6 (h1 : ¬ (65 ≤ c ∧ c ≤ 90)) (h2 : ¬ (97 ≤ c ∧ c ≤ 122)) (h3 : ¬ (48 ≤ c ∧ c ≤ 57)) (h4 : c ≠ 43) (h5 : c ≠ 47) : 64 = b64val c := by unfold b64val; rw [if_neg h1, if_neg h2, if_neg h3, if_neg h4, if_neg h5]
end
theorem val_spec (w : World) (c : Int) (t : Tok) : Calls w 70 [.int c t] [] 2 (fun _ => True) (fun _ _ v => ∃ t', v = .int (b64val c) t') := by
  unfold Calls
  k_fill
  intro p loose mean mg mb dp un gd cn cs a ccd cl outer A₀ base h₀ L m s Q E B F X T hk hpre hR hret
  refine wpAny_call ?_
  k_with_none
  w_top off
  k_with "mine sides" => ((case kA => exact rfl); (case kF => exact rfl); (case kK => assumption); (case k6 => k_is); (case k7 => k_is); (case k8 => ktr_room); (case k9 => first | exact BindsTo.of_eq rfl | exact binds_K (by k_in) rfl (by k_is) rfl rfl rfl); (case c5 => decide); (case kB => exact locs rfl); (case c2 => exact rfl); (case c3 => exact rfl); (case c4 => exact rfl); k_whole; intro L' h' F' N' B' X' T'; (try dsimp only); (try k_lift B'); (try k_fold))
  k_with "call type:type" => ((with_reducible show wpAny _ _ (call _ [Value.bytes _ _]) _ _ _); refine call_type_of (Tx := "bytes") rfl (by decide +kernel) ?_)
  k_with "getMethod bytes" => (k_here; (with_reducible refine getm_tr ?_))
  k_with "getMethod type:bytes" => (k_here; k_dflt (refine' getm_mt ?k1 ?k2 ?k3 ?_; (case k1 => k_asm); (case k2 => k_asm); (case k3 => k_is); k_whole))
  k_with "call builtin:bytes.maketrans" => (k_here; k_dflt (refine' call_mt ?k1 ?_; (case k1 => first | rfl | (simp_all; done)); k_whole))
  k_with "call builtin:bytes.translate" => (k_here; k_dflt (refine' call_tr ?k1 ?k2 ?_; (case k1 => first | exact trTab_size _ _ | (simp_all; done)); (case k2 => first | omega | (simp_all; omega)); k_whole); intro t' k')
  k_with "call type:list" => (k_here; (with_reducible show wpAny _ _ (call (Value.type "list") [Value.bytes _ _]) _ _ _); k_dflt (refine' list_bytes_K ?k0 ?k1 ?k2 ?k3 ?_; (case k0 => rfl); (case k1 => k_asm); (case k2 => k_asm); (case k3 => first | decide | (simp_all; omega)); k_whole); intro l' h' tk' vs' c' F' N' l1 iX'; (try k_lt l1); (try k_sweep))
  k_with "mine useV" => ((case k1 => k_asm); (case k2 => k_asm); (case k3 => k_asm); (case k4 => k_asm); (case k5 => k_asm); (case k6 => first | exact rfl | assumption); (case k7 => first | exact True.intro | assumption); (case k8 => exact ⟨by ktr_room, by ktr_units⟩); k_whole)
  k_with "exec For Name Call cons nil" => (k_here; kst_src; (rename Fr _ _ _ _ => lF'); (with_unfolding_all refine' For_invVF lF' ?k1 ?k2 ?_; (case k1 => exact rfl); (case k2 => exact rfl); k_whole))
  k_with "exec For Name Name cons nil" => (k_here; kst_src; (rename Fr _ _ _ _ => lF'); (with_unfolding_all refine' For_invVF lF' ?k1 ?k2 ?_; (case k1 => exact rfl); (case k2 => exact rfl); k_whole))
  k_with "exec For Name Name cons nil" => (k_here; kstb_has; kstb_name; (rename Fr _ _ _ _ => lF'); (with_unfolding_all refine' For_invVF lF' ?k1 ?k2 ?_; (case k1 => exact rfl); (case k2 => exact rfl); k_whole))
  k_with "subscriptTail" => (k_here; (with_reducible show wpAny _ _ (subscriptTail _ _ (Value.bytes _ _) (Value.int _ _)) _ _ _); k_dflt (refine' KBw.item_K ?k1 ?k2 ?k3 ?k4 ?_; (case k1 => with_reducible assumption); (case k2 => simp only [List.length_cons, List.length_nil]; omega); (case k3 => omega); (case k4 => simp only [List.length_cons, List.length_nil]; omega); k_whole); intro _ _ kbaLo kbaHi)
  k_with "mine go" => repeat' (first | (k_unfold; (try dsimp only)) | walk1 | (dsimp only; walk1) | (leave1; (try dsimp only)) | fail "no step")
  k_with "storeName" => (k_here; (dsimp only); walk_at "storeName")
  k_with "isTrue Compare" => (k_here; (with_reducible show wpAny _ _ (isTrue (Expr.Compare (Expr.Constant _ _ _) [CmpOp.LtE, CmpOp.LtE] [Expr.Name (Str.ofString "c") _, Expr.Constant _ _ _] _) _ _) _ _ _); k_dflt (refine' val_in ?zvo ?zvF ?zvX ?zvT ?zv1 ?_ ?_; (case zvo => k_is); (case zvF => k_asm); (case zvX => k_asm); (case zvT => k_asm); (case zv1 => rfl)); (intro hv9 tk9; (try dsimp only)))
  k_dflt (refine' enterS (binds := [("c", .int c t)]) B F X T ?kA ?kF ?kK ?k6 ?k7 ?k8 ?k9 ?kB ?_ ?c2 ?c3 ?c4 ?c5; walk_at "mine sides")
  walk_at "mine go"
  all_goals (refine hret _ _ _ (Fr.keep (by assumption)) ⟨_, congrArg (fun x => Value.int x _) ?_⟩)
  all_goals first | exact bv_1 (by assumption) | exact bv_2 (by assumption) (by assumption) | exact bv_3 (by assumption) (by assumption) (by assumption) | exact bv_4 (by assumption) (by assumption) (by assumption) (by assumption) | exact bv_5 (by assumption) (by assumption) (by assumption) (by assumption) (by assumption) | exact bv_6 (by assumption) (by assumption) (by assumption) (by assumption) (by assumption)
theorem truth_spec (w : World) (b : Bool) : Calls w 63 [.bool b] [] 2 (fun _ => True) (fun _ _ v => v = .bool b) := by
  unfold Calls
  k_fill
  intro p loose mean mg mb dp un gd cn cs a ccd cl outer A₀ base h₀ L m s Q E B F X T hk hpre hR hret
  refine wpAny_call ?_
  k_with_none
  w_top off
  k_with "mine sides" => ((case kA => exact rfl); (case kF => exact rfl); (case kK => assumption); (case k6 => k_is); (case k7 => k_is); (case k8 => ktr_room); (case k9 => first | exact BindsTo.of_eq rfl | exact binds_K (by k_in) rfl (by k_is) rfl rfl rfl); (case c5 => decide); (case kB => exact locs rfl); (case c2 => exact rfl); (case c3 => exact rfl); (case c4 => exact rfl); k_whole; intro L' h' F' N' B' X' T'; (try dsimp only); (try k_lift B'); (try k_fold))
  k_with "call type:type" => ((with_reducible show wpAny _ _ (call _ [Value.bytes _ _]) _ _ _); refine call_type_of (Tx := "bytes") rfl (by decide +kernel) ?_)
  k_with "getMethod bytes" => (k_here; (with_reducible refine getm_tr ?_))
  k_with "getMethod type:bytes" => (k_here; k_dflt (refine' getm_mt ?k1 ?k2 ?k3 ?_; (case k1 => k_asm); (case k2 => k_asm); (case k3 => k_is); k_whole))
  k_with "call builtin:bytes.maketrans" => (k_here; k_dflt (refine' call_mt ?k1 ?_; (case k1 => first | rfl | (simp_all; done)); k_whole))
  k_with "call builtin:bytes.translate" => (k_here; k_dflt (refine' call_tr ?k1 ?k2 ?_; (case k1 => first | exact trTab_size _ _ | (simp_all; done)); (case k2 => first | omega | (simp_all; omega)); k_whole); intro t' k')
  k_with "call type:list" => (k_here; (with_reducible show wpAny _ _ (call (Value.type "list") [Value.bytes _ _]) _ _ _); k_dflt (refine' list_bytes_K ?k0 ?k1 ?k2 ?k3 ?_; (case k0 => rfl); (case k1 => k_asm); (case k2 => k_asm); (case k3 => first | decide | (simp_all; omega)); k_whole); intro l' h' tk' vs' c' F' N' l1 iX'; (try k_lt l1); (try k_sweep))
  k_with "mine useV" => ((case k1 => k_asm); (case k2 => k_asm); (case k3 => k_asm); (case k4 => k_asm); (case k5 => k_asm); (case k6 => first | exact rfl | assumption); (case k7 => first | exact True.intro | assumption); (case k8 => exact ⟨by ktr_room, by ktr_units⟩); k_whole)
  k_with "exec For Name Call cons nil" => (k_here; kst_src; (rename Fr _ _ _ _ => lF'); (with_unfolding_all refine' For_invVF lF' ?k1 ?k2 ?_; (case k1 => exact rfl); (case k2 => exact rfl); k_whole))
  k_with "exec For Name Name cons nil" => (k_here; kst_src; (rename Fr _ _ _ _ => lF'); (with_unfolding_all refine' For_invVF lF' ?k1 ?k2 ?_; (case k1 => exact rfl); (case k2 => exact rfl); k_whole))
  k_with "exec For Name Name cons nil" => (k_here; kstb_has; kstb_name; (rename Fr _ _ _ _ => lF'); (with_unfolding_all refine' For_invVF lF' ?k1 ?k2 ?_; (case k1 => exact rfl); (case k2 => exact rfl); k_whole))
  k_with "subscriptTail" => (k_here; (with_reducible show wpAny _ _ (subscriptTail _ _ (Value.bytes _ _) (Value.int _ _)) _ _ _); k_dflt (refine' KBw.item_K ?k1 ?k2 ?k3 ?k4 ?_; (case k1 => with_reducible assumption); (case k2 => simp only [List.length_cons, List.length_nil]; omega); (case k3 => omega); (case k4 => simp only [List.length_cons, List.length_nil]; omega); k_whole); intro _ _ kbaLo kbaHi)
  k_with "mine go" => repeat' (first | (k_unfold; (try dsimp only)) | walk1 | (dsimp only; walk1) | (leave1; (try dsimp only)) | fail "no step")
  k_with "storeName" => (k_here; (dsimp only); walk_at "storeName")
  k_with "isTrue Compare" => (k_here; (with_reducible show wpAny _ _ (isTrue (Expr.Compare (Expr.Constant _ _ _) [CmpOp.LtE, CmpOp.LtE] [Expr.Name (Str.ofString "c") _, Expr.Constant _ _ _] _) _ _) _ _ _); k_dflt (refine' val_in ?zvo ?zvF ?zvX ?zvT ?zv1 ?_ ?_; (case zvo => k_is); (case zvF => k_asm); (case zvX => k_asm); (case zvT => k_asm); (case zv1 => rfl)); (intro hv9 tk9; (try dsimp only)))
  k_dflt (refine' enterS (binds := [("x", .bool b)]) B F X T ?kA ?kF ?kK ?k6 ?k7 ?k8 ?k9 ?kB ?_ ?c2 ?c3 ?c4 ?c5; walk_at "mine sides")
  walk_at "mine go"
  all_goals (refine hret _ _ _ (Fr.keep (by assumption)) ?_; simp_all)
theorem buffer_spec (w : World) (b : Array UInt8) (t : Tok) : Calls w 56 [.bytes b t] [] 2 (fun _ => True) (fun _ _ v => v = .bytes b t) := by
  unfold Calls
  k_fill
  intro p loose mean mg mb dp un gd cn cs a ccd cl outer A₀ base h₀ L m s Q E B F X T hk hpre hR hret
  refine wpAny_call ?_
  k_with_none
  w_top off
  k_with "mine sides" => ((case kA => exact rfl); (case kF => exact rfl); (case kK => assumption); (case k6 => k_is); (case k7 => k_is); (case k8 => ktr_room); (case k9 => first | exact BindsTo.of_eq rfl | exact binds_K (by k_in) rfl (by k_is) rfl rfl rfl); (case c5 => decide); (case kB => exact locs rfl); (case c2 => exact rfl); (case c3 => exact rfl); (case c4 => exact rfl); k_whole; intro L' h' F' N' B' X' T'; (try dsimp only); (try k_lift B'); (try k_fold))
  k_with "call type:type" => ((with_reducible show wpAny _ _ (call _ [Value.bytes _ _]) _ _ _); refine call_type_of (Tx := "bytes") rfl (by decide +kernel) ?_)
  k_with "getMethod bytes" => (k_here; (with_reducible refine getm_tr ?_))
  k_with "getMethod type:bytes" => (k_here; k_dflt (refine' getm_mt ?k1 ?k2 ?k3 ?_; (case k1 => k_asm); (case k2 => k_asm); (case k3 => k_is); k_whole))
  k_with "call builtin:bytes.maketrans" => (k_here; k_dflt (refine' call_mt ?k1 ?_; (case k1 => first | rfl | (simp_all; done)); k_whole))
  k_with "call builtin:bytes.translate" => (k_here; k_dflt (refine' call_tr ?k1 ?k2 ?_; (case k1 => first | exact trTab_size _ _ | (simp_all; done)); (case k2 => first | omega | (simp_all; omega)); k_whole); intro t' k')
  k_with "call type:list" => (k_here; (with_reducible show wpAny _ _ (call (Value.type "list") [Value.bytes _ _]) _ _ _); k_dflt (refine' list_bytes_K ?k0 ?k1 ?k2 ?k3 ?_; (case k0 => rfl); (case k1 => k_asm); (case k2 => k_asm); (case k3 => first | decide | (simp_all; omega)); k_whole); intro l' h' tk' vs' c' F' N' l1 iX'; (try k_lt l1); (try k_sweep))
  k_with "mine useV" => ((case k1 => k_asm); (case k2 => k_asm); (case k3 => k_asm); (case k4 => k_asm); (case k5 => k_asm); (case k6 => first | exact rfl | assumption); (case k7 => first | exact True.intro | assumption); (case k8 => exact ⟨by ktr_room, by ktr_units⟩); k_whole)
  k_with "exec For Name Call cons nil" => (k_here; kst_src; (rename Fr _ _ _ _ => lF'); (with_unfolding_all refine' For_invVF lF' ?k1 ?k2 ?_; (case k1 => exact rfl); (case k2 => exact rfl); k_whole))
  k_with "exec For Name Name cons nil" => (k_here; kst_src; (rename Fr _ _ _ _ => lF'); (with_unfolding_all refine' For_invVF lF' ?k1 ?k2 ?_; (case k1 => exact rfl); (case k2 => exact rfl); k_whole))
  k_with "exec For Name Name cons nil" => (k_here; kstb_has; kstb_name; (rename Fr _ _ _ _ => lF'); (with_unfolding_all refine' For_invVF lF' ?k1 ?k2 ?_; (case k1 => exact rfl); (case k2 => exact rfl); k_whole))
  k_with "subscriptTail" => (k_here; (with_reducible show wpAny _ _ (subscriptTail _ _ (Value.bytes _ _) (Value.int _ _)) _ _ _); k_dflt (refine' KBw.item_K ?k1 ?k2 ?k3 ?k4 ?_; (case k1 => with_reducible assumption); (case k2 => simp only [List.length_cons, List.length_nil]; omega); (case k3 => omega); (case k4 => simp only [List.length_cons, List.length_nil]; omega); k_whole); intro _ _ kbaLo kbaHi)
  k_with "mine go" => repeat' (first | (k_unfold; (try dsimp only)) | walk1 | (dsimp only; walk1) | (leave1; (try dsimp only)) | fail "no step")
  k_with "storeName" => (k_here; (dsimp only); walk_at "storeName")
  k_with "isTrue Compare" => (k_here; (with_reducible show wpAny _ _ (isTrue (Expr.Compare (Expr.Constant _ _ _) [CmpOp.LtE, CmpOp.LtE] [Expr.Name (Str.ofString "c") _, Expr.Constant _ _ _] _) _ _) _ _ _); k_dflt (refine' val_in ?zvo ?zvF ?zvX ?zvT ?zv1 ?_ ?_; (case zvo => k_is); (case zvF => k_asm); (case zvX => k_asm); (case zvT => k_asm); (case zv1 => rfl)); (intro hv9 tk9; (try dsimp only)))
  k_dflt (refine' enterS (binds := [("data", .bytes b t)]) B F X T ?kA ?kF ?kK ?k6 ?k7 ?k8 ?k9 ?kB ?_ ?c2 ?c3 ?c4 ?c5; walk_at "mine sides")
  walk_at "mine go"
  all_goals exact hret _ _ _ (Fr.keep (by assumption)) rfl
theorem ascii_spec (w : World) (b : Array UInt8) (t : Tok) : Calls w 49 [.bytes b t] [] 2 (fun _ => True) (fun _ _ v => v = .bytes b t) := by
  unfold Calls
  k_fill
  intro p loose mean mg mb dp un gd cn cs a ccd cl outer A₀ base h₀ L m s Q E B F X T hk hpre hR hret
  refine wpAny_call ?_
  k_with_none
  w_top off
  k_with "mine sides" => ((case kA => exact rfl); (case kF => exact rfl); (case kK => assumption); (case k6 => k_is); (case k7 => k_is); (case k8 => ktr_room); (case k9 => first | exact BindsTo.of_eq rfl | exact binds_K (by k_in) rfl (by k_is) rfl rfl rfl); (case c5 => decide); (case kB => exact locs rfl); (case c2 => exact rfl); (case c3 => exact rfl); (case c4 => exact rfl); k_whole; intro L' h' F' N' B' X' T'; (try dsimp only); (try k_lift B'); (try k_fold))
  k_with "call type:type" => ((with_reducible show wpAny _ _ (call _ [Value.bytes _ _]) _ _ _); refine call_type_of (Tx := "bytes") rfl (by decide +kernel) ?_)
  k_with "getMethod bytes" => (k_here; (with_reducible refine getm_tr ?_))
  k_with "getMethod type:bytes" => (k_here; k_dflt (refine' getm_mt ?k1 ?k2 ?k3 ?_; (case k1 => k_asm); (case k2 => k_asm); (case k3 => k_is); k_whole))
  k_with "call builtin:bytes.maketrans" => (k_here; k_dflt (refine' call_mt ?k1 ?_; (case k1 => first | rfl | (simp_all; done)); k_whole))
  k_with "call builtin:bytes.translate" => (k_here; k_dflt (refine' call_tr ?k1 ?k2 ?_; (case k1 => first | exact trTab_size _ _ | (simp_all; done)); (case k2 => first | omega | (simp_all; omega)); k_whole); intro t' k')
  k_with "call type:list" => (k_here; (with_reducible show wpAny _ _ (call (Value.type "list") [Value.bytes _ _]) _ _ _); k_dflt (refine' list_bytes_K ?k0 ?k1 ?k2 ?k3 ?_; (case k0 => rfl); (case k1 => k_asm); (case k2 => k_asm); (case k3 => first | decide | (simp_all; omega)); k_whole); intro l' h' tk' vs' c' F' N' l1 iX'; (try k_lt l1); (try k_sweep))
  k_with "mine useV" => ((case k1 => k_asm); (case k2 => k_asm); (case k3 => k_asm); (case k4 => k_asm); (case k5 => k_asm); (case k6 => first | exact rfl | assumption); (case k7 => first | exact True.intro | assumption); (case k8 => exact ⟨by ktr_room, by ktr_units⟩); k_whole)
  k_with "exec For Name Call cons nil" => (k_here; kst_src; (rename Fr _ _ _ _ => lF'); (with_unfolding_all refine' For_invVF lF' ?k1 ?k2 ?_; (case k1 => exact rfl); (case k2 => exact rfl); k_whole))
  k_with "exec For Name Name cons nil" => (k_here; kst_src; (rename Fr _ _ _ _ => lF'); (with_unfolding_all refine' For_invVF lF' ?k1 ?k2 ?_; (case k1 => exact rfl); (case k2 => exact rfl); k_whole))
  k_with "exec For Name Name cons nil" => (k_here; kstb_has; kstb_name; (rename Fr _ _ _ _ => lF'); (with_unfolding_all refine' For_invVF lF' ?k1 ?k2 ?_; (case k1 => exact rfl); (case k2 => exact rfl); k_whole))
  k_with "subscriptTail" => (k_here; (with_reducible show wpAny _ _ (subscriptTail _ _ (Value.bytes _ _) (Value.int _ _)) _ _ _); k_dflt (refine' KBw.item_K ?k1 ?k2 ?k3 ?k4 ?_; (case k1 => with_reducible assumption); (case k2 => simp only [List.length_cons, List.length_nil]; omega); (case k3 => omega); (case k4 => simp only [List.length_cons, List.length_nil]; omega); k_whole); intro _ _ kbaLo kbaHi)
  k_with "mine go" => repeat' (first | (k_unfold; (try dsimp only)) | walk1 | (dsimp only; walk1) | (leave1; (try dsimp only)) | fail "no step")
  k_with "storeName" => (k_here; (dsimp only); walk_at "storeName")
  k_with "isTrue Compare" => (k_here; (with_reducible show wpAny _ _ (isTrue (Expr.Compare (Expr.Constant _ _ _) [CmpOp.LtE, CmpOp.LtE] [Expr.Name (Str.ofString "c") _, Expr.Constant _ _ _] _) _ _) _ _ _); k_dflt (refine' val_in ?zvo ?zvF ?zvX ?zvT ?zv1 ?_ ?_; (case zvo => k_is); (case zvF => k_asm); (case zvX => k_asm); (case zvT => k_asm); (case zv1 => rfl)); (intro hv9 tk9; (try dsimp only)))
  k_dflt (refine' enterS (binds := [("data", .bytes b t)]) B F X T ?kA ?kF ?kK ?k6 ?k7 ?k8 ?k9 ?kB ?_ ?c2 ?c3 ?c4 ?c5; walk_at "mine sides")
  walk_at "mine go"
  all_goals exact hret _ _ _ (Fr.keep (by assumption)) rfl
theorem from_spec (w : World) (b : Array UInt8) (t : Tok) : Calls w 29 [.bytes b t] [] 2 (fun _ => True) (fun _ _ v => v = .bytes b t) := by
  unfold Calls
  k_fill
  intro p loose mean mg mb dp un gd cn cs a ccd cl outer A₀ base h₀ L m s Q E B F X T hk hpre hR hret
  refine wpAny_call ?_
  k_with_none
  w_top off
  k_with "mine sides" => ((case kA => exact rfl); (case kF => exact rfl); (case kK => assumption); (case k6 => k_is); (case k7 => k_is); (case k8 => ktr_room); (case k9 => first | exact BindsTo.of_eq rfl | exact binds_K (by k_in) rfl (by k_is) rfl rfl rfl); (case c5 => decide); (case kB => exact locs rfl); (case c2 => exact rfl); (case c3 => exact rfl); (case c4 => exact rfl); k_whole; intro L' h' F' N' B' X' T'; (try dsimp only); (try k_lift B'); (try k_fold))
  k_with "call type:type" => ((with_reducible show wpAny _ _ (call _ [Value.bytes _ _]) _ _ _); refine call_type_of (Tx := "bytes") rfl (by decide +kernel) ?_)
  k_with "getMethod bytes" => (k_here; (with_reducible refine getm_tr ?_))
  k_with "getMethod type:bytes" => (k_here; k_dflt (refine' getm_mt ?k1 ?k2 ?k3 ?_; (case k1 => k_asm); (case k2 => k_asm); (case k3 => k_is); k_whole))
  k_with "call builtin:bytes.maketrans" => (k_here; k_dflt (refine' call_mt ?k1 ?_; (case k1 => first | rfl | (simp_all; done)); k_whole))
  k_with "call builtin:bytes.translate" => (k_here; k_dflt (refine' call_tr ?k1 ?k2 ?_; (case k1 => first | exact trTab_size _ _ | (simp_all; done)); (case k2 => first | omega | (simp_all; omega)); k_whole); intro t' k')
  k_with "call type:list" => (k_here; (with_reducible show wpAny _ _ (call (Value.type "list") [Value.bytes _ _]) _ _ _); k_dflt (refine' list_bytes_K ?k0 ?k1 ?k2 ?k3 ?_; (case k0 => rfl); (case k1 => k_asm); (case k2 => k_asm); (case k3 => first | decide | (simp_all; omega)); k_whole); intro l' h' tk' vs' c' F' N' l1 iX'; (try k_lt l1); (try k_sweep))
  k_with "mine useV" => ((case k1 => k_asm); (case k2 => k_asm); (case k3 => k_asm); (case k4 => k_asm); (case k5 => k_asm); (case k6 => first | exact rfl | assumption); (case k7 => first | exact True.intro | assumption); (case k8 => exact ⟨by ktr_room, by ktr_units⟩); k_whole)
  k_with "exec For Name Call cons nil" => (k_here; kst_src; (rename Fr _ _ _ _ => lF'); (with_unfolding_all refine' For_invVF lF' ?k1 ?k2 ?_; (case k1 => exact rfl); (case k2 => exact rfl); k_whole))
  k_with "exec For Name Name cons nil" => (k_here; kst_src; (rename Fr _ _ _ _ => lF'); (with_unfolding_all refine' For_invVF lF' ?k1 ?k2 ?_; (case k1 => exact rfl); (case k2 => exact rfl); k_whole))
  k_with "exec For Name Name cons nil" => (k_here; kstb_has; kstb_name; (rename Fr _ _ _ _ => lF'); (with_unfolding_all refine' For_invVF lF' ?k1 ?k2 ?_; (case k1 => exact rfl); (case k2 => exact rfl); k_whole))
  k_with "subscriptTail" => (k_here; (with_reducible show wpAny _ _ (subscriptTail _ _ (Value.bytes _ _) (Value.int _ _)) _ _ _); k_dflt (refine' KBw.item_K ?k1 ?k2 ?k3 ?k4 ?_; (case k1 => with_reducible assumption); (case k2 => simp only [List.length_cons, List.length_nil]; omega); (case k3 => omega); (case k4 => simp only [List.length_cons, List.length_nil]; omega); k_whole); intro _ _ kbaLo kbaHi)
  k_with "mine go" => repeat' (first | (k_unfold; (try dsimp only)) | walk1 | (dsimp only; walk1) | (leave1; (try dsimp only)) | fail "no step")
  k_with "storeName" => (k_here; (dsimp only); walk_at "storeName")
  k_with "isTrue Compare" => (k_here; (with_reducible show wpAny _ _ (isTrue (Expr.Compare (Expr.Constant _ _ _) [CmpOp.LtE, CmpOp.LtE] [Expr.Name (Str.ofString "c") _, Expr.Constant _ _ _] _) _ _) _ _ _); k_dflt (refine' val_in ?zvo ?zvF ?zvX ?zvT ?zv1 ?_ ?_; (case zvo => k_is); (case zvF => k_asm); (case zvX => k_asm); (case zvT => k_asm); (case zv1 => rfl)); (intro hv9 tk9; (try dsimp only)))
  k_dflt (refine' enterS (binds := [("s", .bytes b t)]) B F X T ?kA ?kF ?kK ?k6 ?k7 ?k8 ?k9 ?kB ?_ ?c2 ?c3 ?c4 ?c5; walk_at "mine sides")
  walk_at "mine go"
  all_goals exact hret _ _ _ (Fr.keep (by assumption)) rfl
noncomputable def alphabet : Array UInt8 := #[65, 66, 67, 68, 69, 70, 71, 72, 73, 74, 75, 76, 77, 78, 79, 80, 81, 82, 83, 84, 85, 86, 87, 88, 89, 90, 97, 98, 99, 100, 101, 102, 103, 104, 105, 106, 107, 108, 109, 110, 111, 112, 113, 114, 115, 116, 117, 118, 119, 120, 121, 122, 48, 49, 50, 51, 52, 53, 54, 55, 56, 57, 43, 47]
noncomputable def signs : List Int := [65, 66, 67, 68, 69, 70, 71, 72, 73, 74, 75, 76, 77, 78, 79, 80, 81, 82, 83, 84, 85, 86, 87, 88, 89, 90, 97, 98, 99, 100, 101, 102, 103, 104, 105, 106, 107, 108, 109, 110, 111, 112, 113, 114, 115, 116, 117, 118, 119, 120, 121, 122, 48, 49, 50, 51, 52, 53, 54, 55, 56, 57, 43, 47]
theorem signs_eq : KBw.bInts alphabet = signs := by decide +kernel
theorem signs_spec (w : World) : Calls w 109 [] [] 2 (fun _ => True) (fun g h' v => ∃ l vs c, v = .ref l ∧ h'.get? l = some (W.listOf vs.toArray c) ∧ IntsAre vs signs ∧ g.get? l = none) := by
  unfold Calls
  k_fill
  intro p loose mean mg mb dp un gd cn cs a ccd cl outer A₀ base h₀ L m s Q E B F X T hk hpre hR hret
  refine wpAny_call ?_
  k_with_none
  w_top off
  k_with "mine sides" => ((case kA => exact rfl); (case kF => exact rfl); (case kK => assumption); (case k6 => k_is); (case k7 => k_is); (case k8 => ktr_room); (case k9 => first | exact BindsTo.of_eq rfl | exact binds_K (by k_in) rfl (by k_is) rfl rfl rfl); (case c5 => decide); (case kB => exact locs rfl); (case c2 => exact rfl); (case c3 => exact rfl); (case c4 => exact rfl); k_whole; intro L' h' F' N' B' X' T'; (try dsimp only); (try k_lift B'); (try k_fold))
  k_with "call type:type" => ((with_reducible show wpAny _ _ (call _ [Value.bytes _ _]) _ _ _); refine call_type_of (Tx := "bytes") rfl (by decide +kernel) ?_)
  k_with "getMethod bytes" => (k_here; (with_reducible refine getm_tr ?_))
  k_with "getMethod type:bytes" => (k_here; k_dflt (refine' getm_mt ?k1 ?k2 ?k3 ?_; (case k1 => k_asm); (case k2 => k_asm); (case k3 => k_is); k_whole))
  k_with "call builtin:bytes.maketrans" => (k_here; k_dflt (refine' call_mt ?k1 ?_; (case k1 => first | rfl | (simp_all; done)); k_whole))
  k_with "call builtin:bytes.translate" => (k_here; k_dflt (refine' call_tr ?k1 ?k2 ?_; (case k1 => first | exact trTab_size _ _ | (simp_all; done)); (case k2 => first | omega | (simp_all; omega)); k_whole); intro t' k')
  k_with "call type:list" => (k_here; (with_reducible show wpAny _ _ (call (Value.type "list") [Value.bytes _ _]) _ _ _); k_dflt (refine' list_bytes_K ?k0 ?k1 ?k2 ?k3 ?_; (case k0 => rfl); (case k1 => k_asm); (case k2 => k_asm); (case k3 => first | decide | (simp_all; omega)); k_whole); intro l' h' tk' vs' c' F' N' l1 iX'; (try k_lt l1); (try k_sweep))
  k_with "mine useV" => ((case k1 => k_asm); (case k2 => k_asm); (case k3 => k_asm); (case k4 => k_asm); (case k5 => k_asm); (case k6 => first | exact rfl | assumption); (case k7 => first | exact True.intro | assumption); (case k8 => exact ⟨by ktr_room, by ktr_units⟩); k_whole)
  k_with "exec For Name Call cons nil" => (k_here; kst_src; (rename Fr _ _ _ _ => lF'); (with_unfolding_all refine' For_invVF lF' ?k1 ?k2 ?_; (case k1 => exact rfl); (case k2 => exact rfl); k_whole))
  k_with "exec For Name Name cons nil" => (k_here; kst_src; (rename Fr _ _ _ _ => lF'); (with_unfolding_all refine' For_invVF lF' ?k1 ?k2 ?_; (case k1 => exact rfl); (case k2 => exact rfl); k_whole))
  k_with "exec For Name Name cons nil" => (k_here; kstb_has; kstb_name; (rename Fr _ _ _ _ => lF'); (with_unfolding_all refine' For_invVF lF' ?k1 ?k2 ?_; (case k1 => exact rfl); (case k2 => exact rfl); k_whole))
  k_with "subscriptTail" => (k_here; (with_reducible show wpAny _ _ (subscriptTail _ _ (Value.bytes _ _) (Value.int _ _)) _ _ _); k_dflt (refine' KBw.item_K ?k1 ?k2 ?k3 ?k4 ?_; (case k1 => with_reducible assumption); (case k2 => simp only [List.length_cons, List.length_nil]; omega); (case k3 => omega); (case k4 => simp only [List.length_cons, List.length_nil]; omega); k_whole); intro _ _ kbaLo kbaHi)
  k_with "mine go" => repeat' (first | (k_unfold; (try dsimp only)) | walk1 | (dsimp only; walk1) | (leave1; (try dsimp only)) | fail "no step")
  k_with "storeName" => (k_here; (dsimp only); walk_at "storeName")
  k_with "isTrue Compare" => (k_here; (with_reducible show wpAny _ _ (isTrue (Expr.Compare (Expr.Constant _ _ _) [CmpOp.LtE, CmpOp.LtE] [Expr.Name (Str.ofString "c") _, Expr.Constant _ _ _] _) _ _) _ _ _); k_dflt (refine' val_in ?zvo ?zvF ?zvX ?zvT ?zv1 ?_ ?_; (case zvo => k_is); (case zvF => k_asm); (case zvX => k_asm); (case zvT => k_asm); (case zv1 => rfl)); (intro hv9 tk9; (try dsimp only)))
  k_dflt (refine' enterS (binds := []) B F X T ?kA ?kF ?kK ?k6 ?k7 ?k8 ?k9 ?kB ?_ ?c2 ?c3 ?c4 ?c5; walk_at "mine sides")
  walk_at "mine go"
  all_goals (refine hret _ _ _ (Fr.keep (by assumption)) ⟨_, _, _, rfl, News.get (by assumption) (.head _), ?_, News.fresh (by assumption) (.head _)⟩; rw [← signs_eq]; assumption)
theorem in_snoc {out : List Int} {x : Int} (h : KBa.In out) (h0 : 0 ≤ x ∧ x < 256) : KBa.In (out ++ [x]) := fun n hn => (List.mem_append.mp hn).elim (h n) fun hn => by rw [List.mem_singleton.mp hn]; exact h0
theorem signs_in (i : Nat) : 0 ≤ signs.getD i 0 ∧ signs.getD i 0 < 256 := KBw.getD_in (by decide +kernel)
theorem u8_in (c : UInt8) : 0 ≤ (c.toNat : Int) ∧ (c.toNat : Int) < 256 := by have := c.toNat_lt; omega
noncomputable def signVal (pr : Option (Int × Int)) (x : Int) : Int :=
  if x.fmod 8 < 4 then signs.getD ((x.fdiv 8).fmod 64).toNat 0
  else if x.fmod 8 = 4 then (match pr with | none => [43, 47] | some (a, b) => [a, b]).getD ((x.fdiv 8).fmod 2).toNat 0
  else if x.fmod 8 = 5 then ([43, 47, 45, 95] : List Int).getD ((x.fdiv 8).fmod 4).toNat 0
  else if x.fmod 8 = 6 then (x.fdiv 8).fmod 256 else 61
section
variable {pr : Option (Int × Int)} {x p0 p1 : Int}
theorem sv_1 (h : x.fmod 8 < 4) : signs.getD ((x.fdiv 8).fmod 64).toNat 0 = signVal pr x := by unfold signVal; rw [if_pos h]
theorem sv_2n (n1 : ¬ x.fmod 8 < 4) (h : x.fmod 8 = 4) : (((([43, 47] : List UInt8).getD ((x.fdiv 8).fmod 2).toNat 0).toNat : Nat) : Int) = signVal none x := by
  unfold signVal; rw [if_neg n1, if_pos h, KBw.getD_ints]; rfl
theorem sv_2b (n1 : ¬ x.fmod 8 < 4) (h : x.fmod 8 = 4) : [p0, p1].getD ((x.fdiv 8).fmod 2).toNat 0 = signVal (some (p0, p1)) x := by unfold signVal; rw [if_neg n1, if_pos h]
theorem sv_3 (n1 : ¬ x.fmod 8 < 4) (n2 : x.fmod 8 ≠ 4) (h : x.fmod 8 = 5) : (((([43, 47, 45, 95] : List UInt8).getD ((x.fdiv 8).fmod 4).toNat 0).toNat : Nat) : Int) = signVal pr x := by
  unfold signVal; rw [if_neg n1, if_neg n2, if_pos h, KBw.getD_ints]; rfl
theorem sv_4 (n1 : ¬ x.fmod 8 < 4) (n2 : x.fmod 8 ≠ 4) (n3 : x.fmod 8 ≠ 5) (h : x.fmod 8 = 6) : (x.fdiv 8).fmod 256 = signVal pr x := by unfold signVal; rw [if_neg n1, if_neg n2, if_neg n3, if_pos h]
theorem sv_5 (n1 : ¬ x.fmod 8 < 4) (n2 : x.fmod 8 ≠ 4) (n3 : x.fmod 8 ≠ 5) (n4 : x.fmod 8 ≠ 6) : 61 = signVal pr x := by unfold signVal; rw [if_neg n1, if_neg n2, if_neg n3, if_neg n4]
end
theorem mem_rng {l : List Int} {i : Nat} (h : ∀ n ∈ l, (0 : Int) ≤ n ∧ n < 256) : 0 ≤ l.getD i 0 ∧ l.getD i 0 < 256 := by
  rw [List.getD_eq_getElem?_getD]
  cases e : l[i]? with
  | none => simp
  | some v => simpa using h v (List.mem_of_getElem? e)
theorem signVal_in {pr : Option (Int × Int)} (h : ∀ a b, pr = some (a, b) → (0 ≤ a ∧ a < 256) ∧ 0 ≤ b ∧ b < 256) (x : Int) : 0 ≤ signVal pr x ∧ signVal pr x < 256 := by
  unfold signVal
  split
  · exact signs_in _
  · split
    · cases pr with
      | none => exact mem_rng (by decide)
      | some p =>
        obtain ⟨h1, h2⟩ := h p.1 p.2 rfl
        exact mem_rng (fun n hn => by
          rcases List.mem_cons.mp hn with rfl | hn
          · exact h1
          · rw [List.mem_singleton.mp hn]; exact h2)
    · split
      · exact mem_rng (by decide)
      · split
        · exact ⟨fmod_lo _ (by decide), fmod_hi _ (by decide)⟩
        · decide
theorem sign_none (w : World) (x : Int) (t : Tok) (h0 : 0 ≤ x) (h1 : x < 100000) : Calls w 142 [.int x t, .none] [] 4 (fun _ => True) (fun _ _ v => ∃ t', v = .int (signVal none x) t') := by
  unfold Calls
  k_fill
  intro p loose mean mg mb dp un gd cn cs a ccd cl outer A₀ base h₀ L m s Q E B F X T hk hpre hR hret
  refine wpAny_call ?_
  k_with_none
  w_top off
  k_with "mine sides" => ((case kA => exact rfl); (case kF => exact rfl); (case kK => assumption); (case k6 => k_is); (case k7 => k_is); (case k8 => ktr_room); (case k9 => first | exact BindsTo.of_eq rfl | exact binds_K (by k_in) rfl (by k_is) rfl rfl rfl); (case c5 => decide); (case kB => exact locs rfl); (case c2 => exact rfl); (case c3 => exact rfl); (case c4 => exact rfl); k_whole; intro L' h' F' N' B' X' T'; (try dsimp only); (try k_lift B'); (try k_fold))
  k_with "call type:type" => ((with_reducible show wpAny _ _ (call _ [Value.bytes _ _]) _ _ _); refine call_type_of (Tx := "bytes") rfl (by decide +kernel) ?_)
  k_with "getMethod bytes" => (k_here; (with_reducible refine getm_tr ?_))
  k_with "getMethod type:bytes" => (k_here; k_dflt (refine' getm_mt ?k1 ?k2 ?k3 ?_; (case k1 => k_asm); (case k2 => k_asm); (case k3 => k_is); k_whole))
  k_with "call builtin:bytes.maketrans" => (k_here; k_dflt (refine' call_mt ?k1 ?_; (case k1 => first | rfl | (simp_all; done)); k_whole))
  k_with "call builtin:bytes.translate" => (k_here; k_dflt (refine' call_tr ?k1 ?k2 ?_; (case k1 => first | exact trTab_size _ _ | (simp_all; done)); (case k2 => first | omega | (simp_all; omega)); k_whole); intro t' k')
  k_with "call type:list" => (k_here; (with_reducible show wpAny _ _ (call (Value.type "list") [Value.bytes _ _]) _ _ _); k_dflt (refine' list_bytes_K ?k0 ?k1 ?k2 ?k3 ?_; (case k0 => rfl); (case k1 => k_asm); (case k2 => k_asm); (case k3 => first | decide | (simp_all; omega)); k_whole); intro l' h' tk' vs' c' F' N' l1 iX'; (try k_lt l1); (try k_sweep))
  k_with "mine useV" => ((case k1 => k_asm); (case k2 => k_asm); (case k3 => k_asm); (case k4 => k_asm); (case k5 => k_asm); (case k6 => first | exact rfl | assumption); (case k7 => first | exact True.intro | assumption); (case k8 => exact ⟨by ktr_room, by ktr_units⟩); k_whole)
  k_with "exec For Name Call cons nil" => (k_here; kst_src; (rename Fr _ _ _ _ => lF'); (with_unfolding_all refine' For_invVF lF' ?k1 ?k2 ?_; (case k1 => exact rfl); (case k2 => exact rfl); k_whole))
  k_with "exec For Name Name cons nil" => (k_here; kst_src; (rename Fr _ _ _ _ => lF'); (with_unfolding_all refine' For_invVF lF' ?k1 ?k2 ?_; (case k1 => exact rfl); (case k2 => exact rfl); k_whole))
  k_with "exec For Name Name cons nil" => (k_here; kstb_has; kstb_name; (rename Fr _ _ _ _ => lF'); (with_unfolding_all refine' For_invVF lF' ?k1 ?k2 ?_; (case k1 => exact rfl); (case k2 => exact rfl); k_whole))
  k_with "subscriptTail" => (k_here; (with_reducible show wpAny _ _ (subscriptTail _ _ (Value.bytes _ _) (Value.int _ _)) _ _ _); k_dflt (refine' KBw.item_K ?k1 ?k2 ?k3 ?k4 ?_; (case k1 => with_reducible assumption); (case k2 => simp only [List.length_cons, List.length_nil]; omega); (case k3 => omega); (case k4 => simp only [List.length_cons, List.length_nil]; omega); k_whole); intro _ _ kbaLo kbaHi)
  k_with "mine go" => repeat' (first | (k_unfold; (try dsimp only)) | walk1 | (dsimp only; walk1) | (leave1; (try dsimp only)) | fail "no step")
  k_with "storeName" => (k_here; (dsimp only); walk_at "storeName")
  k_with "call ref" => (k_here; (with_reducible show wpAny _ _ (call (Value.ref 109) _ _) _ _ _); k_dflt (refine' useL (signs_spec _) ?k1 ?k2 ?k3 ?k4 ?k5 ?k6 ?k7 ?k8 ?_; walk_at "mine useV"); intro l' vs' c' h' tk' F' N' ne' iX'; (try simp only [TLg.AllNe, and_true] at ne'); (try k_sweep))
  k_with "call ref" => (k_here; (with_reducible show wpAny _ _ (call (Value.ref 70) [Value.int _ _] _) _ _ _); k_dflt (refine' useV (val_spec _ _ _) ?k1 ?k2 ?k3 ?k4 ?k5 ?k6 ?k7 ?k8 ?_; walk_at "mine useV"); intro v' h' tk' F' N' hv'; obtain ⟨t', e'⟩ := hv'; subst e'; (try k_sweep))
  k_with "call ref" => (k_here; (with_reducible show wpAny _ _ (call (Value.ref 63) [Value.bool _] _) _ _ _); k_dflt (refine' useV (truth_spec _ _) ?k1 ?k2 ?k3 ?k4 ?k5 ?k6 ?k7 ?k8 ?_; walk_at "mine useV"); intro v' h' tk' F' N' hv'; subst hv'; (try k_sweep))
  k_with "call ref" => (k_here; (with_reducible show wpAny _ _ (call (Value.ref 56) [Value.bytes _ _] _) _ _ _); k_dflt (refine' useV (buffer_spec _ _ _) ?k1 ?k2 ?k3 ?k4 ?k5 ?k6 ?k7 ?k8 ?_; walk_at "mine useV"); intro v' h' tk' F' N' hv'; subst hv'; (try k_sweep))
  k_with "call ref" => (k_here; (with_reducible show wpAny _ _ (call (Value.ref 49) [Value.bytes _ _] _) _ _ _); k_dflt (refine' useV (ascii_spec _ _ _) ?k1 ?k2 ?k3 ?k4 ?k5 ?k6 ?k7 ?k8 ?_; walk_at "mine useV"); intro v' h' tk' F' N' hv'; subst hv'; (try k_sweep))
  k_with "call ref" => (k_here; (with_reducible show wpAny _ _ (call (Value.ref 29) [Value.bytes _ _] _) _ _ _); k_dflt (refine' useV (from_spec _ _ _) ?k1 ?k2 ?k3 ?k4 ?k5 ?k6 ?k7 ?k8 ?_; walk_at "mine useV"); intro v' h' tk' F' N' hv'; subst hv'; (try k_sweep))
  k_dflt (refine' enterS (binds := [("number", .int x t), ("pair", .none)]) B F X T ?kA ?kF ?kK ?k6 ?k7 ?k8 ?k9 ?kB ?_ ?c2 ?c3 ?c4 ?c5; walk_at "mine sides")
  walk_at "mine go"
  all_goals (refine hret _ _ _ (Fr.keep (by assumption)) ⟨_, congrArg (fun n => Value.int n _) ?_⟩)
  all_goals first
    | exact sv_1 (by assumption)
    | exact sv_2n (by assumption) (by assumption)
    | exact sv_2b (by assumption) (by assumption)
    | exact sv_3 (by assumption) (by assumption) (by assumption)
    | exact sv_4 (by assumption) (by assumption) (by assumption) (by assumption)
    | exact sv_5 (by assumption) (by assumption) (by assumption) (by assumption)
theorem sign_bytes (w : World) (x : Int) (t : Tok) (b : Array UInt8) (u : Tok) (p0 p1 : Int) (hb : KBw.bInts b = [p0, p1]) (h0 : 0 ≤ x) (h1 : x < 100000) : Calls w 142 [.int x t, .bytes b u] [] 4 (fun _ => True) (fun _ _ v => ∃ t', v = .int (signVal (some (p0, p1)) x) t') := by
  unfold Calls
  k_fill
  intro p loose mean mg mb dp un gd cn cs a ccd cl outer A₀ base h₀ L m s Q E B F X T hk hpre hR hret
  refine wpAny_call ?_
  k_with_none
  w_top off
  k_with "mine sides" => ((case kA => exact rfl); (case kF => exact rfl); (case kK => assumption); (case k6 => k_is); (case k7 => k_is); (case k8 => ktr_room); (case k9 => first | exact BindsTo.of_eq rfl | exact binds_K (by k_in) rfl (by k_is) rfl rfl rfl); (case c5 => decide); (case kB => exact locs rfl); (case c2 => exact rfl); (case c3 => exact rfl); (case c4 => exact rfl); k_whole; intro L' h' F' N' B' X' T'; (try dsimp only); (try k_lift B'); (try k_fold))
  k_with "call type:type" => ((with_reducible show wpAny _ _ (call _ [Value.bytes _ _]) _ _ _); refine call_type_of (Tx := "bytes") rfl (by decide +kernel) ?_)
  k_with "getMethod bytes" => (k_here; (with_reducible refine getm_tr ?_))
  k_with "getMethod type:bytes" => (k_here; k_dflt (refine' getm_mt ?k1 ?k2 ?k3 ?_; (case k1 => k_asm); (case k2 => k_asm); (case k3 => k_is); k_whole))
  k_with "call builtin:bytes.maketrans" => (k_here; k_dflt (refine' call_mt ?k1 ?_; (case k1 => first | rfl | (simp_all; done)); k_whole))
  k_with "call builtin:bytes.translate" => (k_here; k_dflt (refine' call_tr ?k1 ?k2 ?_; (case k1 => first | exact trTab_size _ _ | (simp_all; done)); (case k2 => first | omega | (simp_all; omega)); k_whole); intro t' k')
  k_with "call type:list" => (k_here; (with_reducible show wpAny _ _ (call (Value.type "list") [Value.bytes _ _]) _ _ _); k_dflt (refine' list_bytes_K ?k0 ?k1 ?k2 ?k3 ?_; (case k0 => rfl); (case k1 => k_asm); (case k2 => k_asm); (case k3 => first | decide | (simp_all; omega)); k_whole); intro l' h' tk' vs' c' F' N' l1 iX'; (try k_lt l1); (try k_sweep))
  k_with "mine useV" => ((case k1 => k_asm); (case k2 => k_asm); (case k3 => k_asm); (case k4 => k_asm); (case k5 => k_asm); (case k6 => first | exact rfl | assumption); (case k7 => first | exact True.intro | assumption); (case k8 => exact ⟨by ktr_room, by ktr_units⟩); k_whole)
  k_with "exec For Name Call cons nil" => (k_here; kst_src; (rename Fr _ _ _ _ => lF'); (with_unfolding_all refine' For_invVF lF' ?k1 ?k2 ?_; (case k1 => exact rfl); (case k2 => exact rfl); k_whole))
  k_with "exec For Name Name cons nil" => (k_here; kst_src; (rename Fr _ _ _ _ => lF'); (with_unfolding_all refine' For_invVF lF' ?k1 ?k2 ?_; (case k1 => exact rfl); (case k2 => exact rfl); k_whole))
  k_with "exec For Name Name cons nil" => (k_here; kstb_has; kstb_name; (rename Fr _ _ _ _ => lF'); (with_unfolding_all refine' For_invVF lF' ?k1 ?k2 ?_; (case k1 => exact rfl); (case k2 => exact rfl); k_whole))
  k_with "subscriptTail" => (k_here; (with_reducible show wpAny _ _ (subscriptTail _ _ (Value.bytes _ _) (Value.int _ _)) _ _ _); k_dflt (refine' KBw.item_K ?k1 ?k2 ?k3 ?k4 ?_; (case k1 => with_reducible assumption); (case k2 => simp only [List.length_cons, List.length_nil]; omega); (case k3 => omega); (case k4 => simp only [List.length_cons, List.length_nil]; omega); k_whole); intro _ _ kbaLo kbaHi)
  k_with "mine go" => repeat' (first | (k_unfold; (try dsimp only)) | walk1 | (dsimp only; walk1) | (leave1; (try dsimp only)) | fail "no step")
  k_with "storeName" => (k_here; (dsimp only); walk_at "storeName")
  k_with "call ref" => (k_here; (with_reducible show wpAny _ _ (call (Value.ref 109) _ _) _ _ _); k_dflt (refine' useL (signs_spec _) ?k1 ?k2 ?k3 ?k4 ?k5 ?k6 ?k7 ?k8 ?_; walk_at "mine useV"); intro l' vs' c' h' tk' F' N' ne' iX'; (try simp only [TLg.AllNe, and_true] at ne'); (try k_sweep))
  k_with "call ref" => (k_here; (with_reducible show wpAny _ _ (call (Value.ref 70) [Value.int _ _] _) _ _ _); k_dflt (refine' useV (val_spec _ _ _) ?k1 ?k2 ?k3 ?k4 ?k5 ?k6 ?k7 ?k8 ?_; walk_at "mine useV"); intro v' h' tk' F' N' hv'; obtain ⟨t', e'⟩ := hv'; subst e'; (try k_sweep))
  k_with "call ref" => (k_here; (with_reducible show wpAny _ _ (call (Value.ref 63) [Value.bool _] _) _ _ _); k_dflt (refine' useV (truth_spec _ _) ?k1 ?k2 ?k3 ?k4 ?k5 ?k6 ?k7 ?k8 ?_; walk_at "mine useV"); intro v' h' tk' F' N' hv'; subst hv'; (try k_sweep))
  k_with "call ref" => (k_here; (with_reducible show wpAny _ _ (call (Value.ref 56) [Value.bytes _ _] _) _ _ _); k_dflt (refine' useV (buffer_spec _ _ _) ?k1 ?k2 ?k3 ?k4 ?k5 ?k6 ?k7 ?k8 ?_; walk_at "mine useV"); intro v' h' tk' F' N' hv'; subst hv'; (try k_sweep))
  k_with "call ref" => (k_here; (with_reducible show wpAny _ _ (call (Value.ref 49) [Value.bytes _ _] _) _ _ _); k_dflt (refine' useV (ascii_spec _ _ _) ?k1 ?k2 ?k3 ?k4 ?k5 ?k6 ?k7 ?k8 ?_; walk_at "mine useV"); intro v' h' tk' F' N' hv'; subst hv'; (try k_sweep))
  k_with "call ref" => (k_here; (with_reducible show wpAny _ _ (call (Value.ref 29) [Value.bytes _ _] _) _ _ _); k_dflt (refine' useV (from_spec _ _ _) ?k1 ?k2 ?k3 ?k4 ?k5 ?k6 ?k7 ?k8 ?_; walk_at "mine useV"); intro v' h' tk' F' N' hv'; subst hv'; (try k_sweep))
  k_dflt (refine' enterS (binds := [("number", .int x t), ("pair", .bytes b u)]) B F X T ?kA ?kF ?kK ?k6 ?k7 ?k8 ?k9 ?kB ?_ ?c2 ?c3 ?c4 ?c5; walk_at "mine sides")
  walk_at "mine go"
  all_goals (refine hret _ _ _ (Fr.keep (by assumption)) ⟨_, congrArg (fun n => Value.int n _) ?_⟩)
  all_goals first
    | exact sv_1 (by assumption)
    | exact sv_2n (by assumption) (by assumption)
    | exact sv_2b (by assumption) (by assumption)
    | exact sv_3 (by assumption) (by assumption) (by assumption)
    | exact sv_4 (by assumption) (by assumption) (by assumption) (by assumption)
    | exact sv_5 (by assumption) (by assumption) (by assumption) (by assumption)
noncomputable def tabStep (t : List Int) (k : Int) : List Int := t.set (signs.getD k.toNat 0).toNat k
noncomputable def tab0 : List Int := List.replicate 256 65
noncomputable def tabN : List Int := ((rangeKs 0 64).foldl tabStep tab0).set 61 64
noncomputable def tabOf : Option (Int × Int) → List Int
  | none => tabN
  | some (a, b) => (tabN.set a.toNat 62).set b.toNat 63
theorem tab_turn {t pre : List Int} {k : Int} (h1 : t.length = 256) (h2 : t = pre.foldl tabStep tab0) :
    (t.set (signs.getD k.toNat 0).toNat k).length = 256 ∧ t.set (signs.getD k.toNat 0).toNat k = (pre ++ [k]).foldl tabStep tab0 := by
  refine ⟨by rw [List.length_set, h1], ?_⟩
  rw [List.foldl_append, ← h2]; rfl
local macro_rules | `(tactic| ksa_idx) => `(tactic| first | exact (signs_in _).1 | exact Int.lt_of_lt_of_le (signs_in _).2 (by omega))
theorem table_none (w : World) : Calls w 116 [.none] [] 4 (fun _ => True) (fun g h' v => ∃ l vs c, v = .ref l ∧ h'.get? l = some (W.listOf vs.toArray c) ∧ IntsAre vs (tabOf none) ∧ g.get? l = none) := by
  unfold Calls
  k_fill
  intro p loose mean mg mb dp un gd cn cs a ccd cl outer A₀ base h₀ L m s Q E B F X T hk hpre hR hret
  refine wpAny_call ?_
  k_with_none
  w_top off
  k_with "mine sides" => ((case kA => exact rfl); (case kF => exact rfl); (case kK => assumption); (case k6 => k_is); (case k7 => k_is); (case k8 => ktr_room); (case k9 => first | exact BindsTo.of_eq rfl | exact binds_K (by k_in) rfl (by k_is) rfl rfl rfl); (case c5 => decide); (case kB => exact locs rfl); (case c2 => exact rfl); (case c3 => exact rfl); (case c4 => exact rfl); k_whole; intro L' h' F' N' B' X' T'; (try dsimp only); (try k_lift B'); (try k_fold))
  k_with "call type:type" => ((with_reducible show wpAny _ _ (call _ [Value.bytes _ _]) _ _ _); refine call_type_of (Tx := "bytes") rfl (by decide +kernel) ?_)
  k_with "getMethod bytes" => (k_here; (with_reducible refine getm_tr ?_))
  k_with "getMethod type:bytes" => (k_here; k_dflt (refine' getm_mt ?k1 ?k2 ?k3 ?_; (case k1 => k_asm); (case k2 => k_asm); (case k3 => k_is); k_whole))
  k_with "call builtin:bytes.maketrans" => (k_here; k_dflt (refine' call_mt ?k1 ?_; (case k1 => first | rfl | (simp_all; done)); k_whole))
  k_with "call builtin:bytes.translate" => (k_here; k_dflt (refine' call_tr ?k1 ?k2 ?_; (case k1 => first | exact trTab_size _ _ | (simp_all; done)); (case k2 => first | omega | (simp_all; omega)); k_whole); intro t' k')
  k_with "call type:list" => (k_here; (with_reducible show wpAny _ _ (call (Value.type "list") [Value.bytes _ _]) _ _ _); k_dflt (refine' list_bytes_K ?k0 ?k1 ?k2 ?k3 ?_; (case k0 => rfl); (case k1 => k_asm); (case k2 => k_asm); (case k3 => first | decide | (simp_all; omega)); k_whole); intro l' h' tk' vs' c' F' N' l1 iX'; (try k_lt l1); (try k_sweep))
  k_with "mine useV" => ((case k1 => k_asm); (case k2 => k_asm); (case k3 => k_asm); (case k4 => k_asm); (case k5 => k_asm); (case k6 => first | exact rfl | assumption); (case k7 => first | exact True.intro | assumption); (case k8 => exact ⟨by ktr_room, by ktr_units⟩); k_whole)
  k_with "exec For Name Call cons nil" => (k_here; kst_src; (rename Fr _ _ _ _ => lF'); (with_unfolding_all refine' For_invVF lF' ?k1 ?k2 ?_; (case k1 => exact rfl); (case k2 => exact rfl); k_whole))
  k_with "exec For Name Name cons nil" => (k_here; kst_src; (rename Fr _ _ _ _ => lF'); (with_unfolding_all refine' For_invVF lF' ?k1 ?k2 ?_; (case k1 => exact rfl); (case k2 => exact rfl); k_whole))
  k_with "exec For Name Name cons nil" => (k_here; kstb_has; kstb_name; (rename Fr _ _ _ _ => lF'); (with_unfolding_all refine' For_invVF lF' ?k1 ?k2 ?_; (case k1 => exact rfl); (case k2 => exact rfl); k_whole))
  k_with "subscriptTail" => (k_here; (with_reducible show wpAny _ _ (subscriptTail _ _ (Value.bytes _ _) (Value.int _ _)) _ _ _); k_dflt (refine' KBw.item_K ?k1 ?k2 ?k3 ?k4 ?_; (case k1 => with_reducible assumption); (case k2 => simp only [List.length_cons, List.length_nil]; omega); (case k3 => omega); (case k4 => simp only [List.length_cons, List.length_nil]; omega); k_whole); intro _ _ kbaLo kbaHi)
  k_with "mine go" => repeat' (first | (k_unfold; (try dsimp only)) | walk1 | (dsimp only; walk1) | (leave1; (try dsimp only)) | fail "no step")
  k_with "storeName" => (k_here; (dsimp only); walk_at "storeName")
  k_with "call ref" => (k_here; (with_reducible show wpAny _ _ (call (Value.ref 109) _ _) _ _ _); k_dflt (refine' useL (signs_spec _) ?k1 ?k2 ?k3 ?k4 ?k5 ?k6 ?k7 ?k8 ?_; walk_at "mine useV"); intro l' vs' c' h' tk' F' N' ne' iX'; (try simp only [TLg.AllNe, and_true] at ne'); (try k_sweep))
  k_with "call ref" => (k_here; (with_reducible show wpAny _ _ (call (Value.ref 70) [Value.int _ _] _) _ _ _); k_dflt (refine' useV (val_spec _ _ _) ?k1 ?k2 ?k3 ?k4 ?k5 ?k6 ?k7 ?k8 ?_; walk_at "mine useV"); intro v' h' tk' F' N' hv'; obtain ⟨t', e'⟩ := hv'; subst e'; (try k_sweep))
  k_with "call ref" => (k_here; (with_reducible show wpAny _ _ (call (Value.ref 63) [Value.bool _] _) _ _ _); k_dflt (refine' useV (truth_spec _ _) ?k1 ?k2 ?k3 ?k4 ?k5 ?k6 ?k7 ?k8 ?_; walk_at "mine useV"); intro v' h' tk' F' N' hv'; subst hv'; (try k_sweep))
  k_with "call ref" => (k_here; (with_reducible show wpAny _ _ (call (Value.ref 56) [Value.bytes _ _] _) _ _ _); k_dflt (refine' useV (buffer_spec _ _ _) ?k1 ?k2 ?k3 ?k4 ?k5 ?k6 ?k7 ?k8 ?_; walk_at "mine useV"); intro v' h' tk' F' N' hv'; subst hv'; (try k_sweep))
  k_with "call ref" => (k_here; (with_reducible show wpAny _ _ (call (Value.ref 49) [Value.bytes _ _] _) _ _ _); k_dflt (refine' useV (ascii_spec _ _ _) ?k1 ?k2 ?k3 ?k4 ?k5 ?k6 ?k7 ?k8 ?_; walk_at "mine useV"); intro v' h' tk' F' N' hv'; subst hv'; (try k_sweep))
  k_with "call ref" => (k_here; (with_reducible show wpAny _ _ (call (Value.ref 29) [Value.bytes _ _] _) _ _ _); k_dflt (refine' useV (from_spec _ _ _) ?k1 ?k2 ?k3 ?k4 ?k5 ?k6 ?k7 ?k8 ?_; walk_at "mine useV"); intro v' h' tk' F' N' hv'; subst hv'; (try k_sweep))
  k_dflt (refine' enterS (binds := [("pair", .none)]) B F X T ?kA ?kF ?kK ?k6 ?k7 ?k8 ?k9 ?kB ?_ ?c2 ?c3 ?c4 ?c5; walk_at "mine sides")
  have hsl : signs.length = 64 := rfl
  k_with "pyIter ref" => k_dflt (k_state (fun pre table => table.length = 256 ∧ table = pre.foldl tabStep tab0) "table")
  k_with "state" => first | exact tab_turn (by assumption) (by assumption) | exact ⟨by decide +kernel, by decide +kernel⟩
  walk_at "mine go"
  all_goals (refine hret _ _ _ (Fr.keep (by assumption)) ⟨_, _, _, rfl, News.get (by assumption) (by k_mem), ?_, News.fresh (by assumption) (by k_mem)⟩; (rename (_ = List.foldl tabStep tab0 _) => eT); (rename IntsAre (List.set _ _ _) _ => hi9); rw [eT] at hi9; exact hi9)
theorem table_bytes (w : World) (b : Array UInt8) (u : Tok) (p0 p1 : Int) (hb : KBw.bInts b = [p0, p1]) : Calls w 116 [.bytes b u] [] 4 (fun _ => True) (fun g h' v => ∃ l vs c, v = .ref l ∧ h'.get? l = some (W.listOf vs.toArray c) ∧ IntsAre vs (tabOf (some (p0, p1))) ∧ g.get? l = none) := by
  unfold Calls
  k_fill
  intro p loose mean mg mb dp un gd cn cs a ccd cl outer A₀ base h₀ L m s Q E B F X T hk hpre hR hret
  refine wpAny_call ?_
  k_with_none
  w_top off
  k_with "mine sides" => ((case kA => exact rfl); (case kF => exact rfl); (case kK => assumption); (case k6 => k_is); (case k7 => k_is); (case k8 => ktr_room); (case k9 => first | exact BindsTo.of_eq rfl | exact binds_K (by k_in) rfl (by k_is) rfl rfl rfl); (case c5 => decide); (case kB => exact locs rfl); (case c2 => exact rfl); (case c3 => exact rfl); (case c4 => exact rfl); k_whole; intro L' h' F' N' B' X' T'; (try dsimp only); (try k_lift B'); (try k_fold))
  k_with "call type:type" => ((with_reducible show wpAny _ _ (call _ [Value.bytes _ _]) _ _ _); refine call_type_of (Tx := "bytes") rfl (by decide +kernel) ?_)
  k_with "getMethod bytes" => (k_here; (with_reducible refine getm_tr ?_))
  k_with "getMethod type:bytes" => (k_here; k_dflt (refine' getm_mt ?k1 ?k2 ?k3 ?_; (case k1 => k_asm); (case k2 => k_asm); (case k3 => k_is); k_whole))
  k_with "call builtin:bytes.maketrans" => (k_here; k_dflt (refine' call_mt ?k1 ?_; (case k1 => first | rfl | (simp_all; done)); k_whole))
  k_with "call builtin:bytes.translate" => (k_here; k_dflt (refine' call_tr ?k1 ?k2 ?_; (case k1 => first | exact trTab_size _ _ | (simp_all; done)); (case k2 => first | omega | (simp_all; omega)); k_whole); intro t' k')
  k_with "call type:list" => (k_here; (with_reducible show wpAny _ _ (call (Value.type "list") [Value.bytes _ _]) _ _ _); k_dflt (refine' list_bytes_K ?k0 ?k1 ?k2 ?k3 ?_; (case k0 => rfl); (case k1 => k_asm); (case k2 => k_asm); (case k3 => first | decide | (simp_all; omega)); k_whole); intro l' h' tk' vs' c' F' N' l1 iX'; (try k_lt l1); (try k_sweep))
  k_with "mine useV" => ((case k1 => k_asm); (case k2 => k_asm); (case k3 => k_asm); (case k4 => k_asm); (case k5 => k_asm); (case k6 => first | exact rfl | assumption); (case k7 => first | exact True.intro | assumption); (case k8 => exact ⟨by ktr_room, by ktr_units⟩); k_whole)
  k_with "exec For Name Call cons nil" => (k_here; kst_src; (rename Fr _ _ _ _ => lF'); (with_unfolding_all refine' For_invVF lF' ?k1 ?k2 ?_; (case k1 => exact rfl); (case k2 => exact rfl); k_whole))
  k_with "exec For Name Name cons nil" => (k_here; kst_src; (rename Fr _ _ _ _ => lF'); (with_unfolding_all refine' For_invVF lF' ?k1 ?k2 ?_; (case k1 => exact rfl); (case k2 => exact rfl); k_whole))
  k_with "exec For Name Name cons nil" => (k_here; kstb_has; kstb_name; (rename Fr _ _ _ _ => lF'); (with_unfolding_all refine' For_invVF lF' ?k1 ?k2 ?_; (case k1 => exact rfl); (case k2 => exact rfl); k_whole))
  k_with "subscriptTail" => (k_here; (with_reducible show wpAny _ _ (subscriptTail _ _ (Value.bytes _ _) (Value.int _ _)) _ _ _); k_dflt (refine' KBw.item_K ?k1 ?k2 ?k3 ?k4 ?_; (case k1 => with_reducible assumption); (case k2 => simp only [List.length_cons, List.length_nil]; omega); (case k3 => omega); (case k4 => simp only [List.length_cons, List.length_nil]; omega); k_whole); intro _ _ kbaLo kbaHi)
  k_with "mine go" => repeat' (first | (k_unfold; (try dsimp only)) | walk1 | (dsimp only; walk1) | (leave1; (try dsimp only)) | fail "no step")
  k_with "storeName" => (k_here; (dsimp only); walk_at "storeName")
  k_with "call ref" => (k_here; (with_reducible show wpAny _ _ (call (Value.ref 109) _ _) _ _ _); k_dflt (refine' useL (signs_spec _) ?k1 ?k2 ?k3 ?k4 ?k5 ?k6 ?k7 ?k8 ?_; walk_at "mine useV"); intro l' vs' c' h' tk' F' N' ne' iX'; (try simp only [TLg.AllNe, and_true] at ne'); (try k_sweep))
  k_with "call ref" => (k_here; (with_reducible show wpAny _ _ (call (Value.ref 70) [Value.int _ _] _) _ _ _); k_dflt (refine' useV (val_spec _ _ _) ?k1 ?k2 ?k3 ?k4 ?k5 ?k6 ?k7 ?k8 ?_; walk_at "mine useV"); intro v' h' tk' F' N' hv'; obtain ⟨t', e'⟩ := hv'; subst e'; (try k_sweep))
  k_with "call ref" => (k_here; (with_reducible show wpAny _ _ (call (Value.ref 63) [Value.bool _] _) _ _ _); k_dflt (refine' useV (truth_spec _ _) ?k1 ?k2 ?k3 ?k4 ?k5 ?k6 ?k7 ?k8 ?_; walk_at "mine useV"); intro v' h' tk' F' N' hv'; subst hv'; (try k_sweep))
  k_with "call ref" => (k_here; (with_reducible show wpAny _ _ (call (Value.ref 56) [Value.bytes _ _] _) _ _ _); k_dflt (refine' useV (buffer_spec _ _ _) ?k1 ?k2 ?k3 ?k4 ?k5 ?k6 ?k7 ?k8 ?_; walk_at "mine useV"); intro v' h' tk' F' N' hv'; subst hv'; (try k_sweep))
  k_with "call ref" => (k_here; (with_reducible show wpAny _ _ (call (Value.ref 49) [Value.bytes _ _] _) _ _ _); k_dflt (refine' useV (ascii_spec _ _ _) ?k1 ?k2 ?k3 ?k4 ?k5 ?k6 ?k7 ?k8 ?_; walk_at "mine useV"); intro v' h' tk' F' N' hv'; subst hv'; (try k_sweep))
  k_with "call ref" => (k_here; (with_reducible show wpAny _ _ (call (Value.ref 29) [Value.bytes _ _] _) _ _ _); k_dflt (refine' useV (from_spec _ _ _) ?k1 ?k2 ?k3 ?k4 ?k5 ?k6 ?k7 ?k8 ?_; walk_at "mine useV"); intro v' h' tk' F' N' hv'; subst hv'; (try k_sweep))
  k_dflt (refine' enterS (binds := [("pair", .bytes b u)]) B F X T ?kA ?kF ?kK ?k6 ?k7 ?k8 ?k9 ?kB ?_ ?c2 ?c3 ?c4 ?c5; walk_at "mine sides")
  have hsl : signs.length = 64 := rfl
  k_with "pyIter ref" => k_dflt (k_state (fun pre table => table.length = 256 ∧ table = pre.foldl tabStep tab0) "table")
  k_with "state" => first | exact tab_turn (by assumption) (by assumption) | exact ⟨by decide +kernel, by decide +kernel⟩
  walk_at "mine go"
  all_goals (refine hret _ _ _ (Fr.keep (by assumption)) ⟨_, _, _, rfl, News.get (by assumption) (by k_mem), ?_, News.fresh (by assumption) (by k_mem)⟩; (rename (_ = List.foldl tabStep tab0 _) => eT); (rename IntsAre (List.set _ _ _) _ => hi9); rw [eT] at hi9; exact hi9)
noncomputable def DueVal (d : Due) (v : Value) : Prop := match d with
  | .skip => v = .none
  | .no => v = .bool false
  | .octets os => ∃ b t, v = .bytes b t ∧ KBw.bInts b = os
noncomputable def OctP (rd : List Int) (i : Nat) (os : List Int) : Prop := os = octs rd i
section
variable {prog : Program} {w : World} {A : Around} {E : Value → Shared → Prop} {s : Shared} {env : Env} {h₀ : Heap} {x y : Str} {body : List Stmt} {Q : Flow → Shared → Prop}
theorem dueLoop {rd : List Int} {r : Addr} {t₀ u₀ v₀ : Tok} {m₀ : Str → Option Value} {rest : List (Addr × Obj)} {l₀ : Addr} {vs₀ : List Value} {ns₀ : List Int} {k₀ : Nat} (stored : List Str) (hsc : ∀ n ∈ rd, 0 ≤ n ∧ n < 64) (hlen : rd.length ≤ 1000)
    (hh : A.handled = none) (hr : IsRange s.heap r 0 (rd.length : Int) 4 t₀ u₀ v₀) (F : Fr h₀ env.locals s.heap m₀)
    (N : News h₀ env.locals s.heap ((l₀, PySem.W.listOf vs₀.toArray k₀) :: rest)) (ne : ∀ p ∈ rest, p.1 ≠ l₀) (hi : IntsAre vs₀ ns₀) (hy : m₀ y = some (.ref l₀)) (hp : ns₀ = [])
    (turn : ∀ (i : Nat) l vs ns k t (u : Str → Option Value) h tk own, (i : Int) * 4 < (rd.length : Int) → (∀ p ∈ rest, p.1 ≠ l) → OwnOff own (l :: rest.map (·.1)) → IntsAre vs ns → ns = octs rd i → ns.length ≤ 3 * i →
      Fr h₀ env.locals h (fun z => if z = x then some (.int (0 + (i : Int) * 4) t) else if z = y then some (.ref l) else if stored.contains z = true then u z else m₀ z) →
      News h₀ env.locals h ((l, PySem.W.listOf vs.toArray k) :: (rest ++ own)) →
      wpAny (model prog w) A (execs body env) (PostT h₀ env.locals x y stored m₀ rest own (OctP rd (i + 1)) { s with heap := h, toks := tk } Q) E { s with heap := h, toks := tk })
    (done : ∀ l vs ns k (u : Str → Option Value) h tk, (∀ p ∈ rest, p.1 ≠ l) → IntsAre vs ns → ns = octs rd ((rd.length + 3) / 4) → KBa.In ns → ns.length ≤ 3000 →
      Fr h₀ env.locals h (fun z => if z = x then u z else if z = y then some (.ref l) else if stored.contains z = true then u z else m₀ z) → News h₀ env.locals h ((l, PySem.W.listOf vs.toArray k) :: rest) → Q .next { s with heap := h, toks := tk }) :
    wpAny (model prog w) A (pyIter (.ref r)) (fun it s₂ => LoopAtV prog w A h₀ env x body Q E it s₂) E s := by
  refine rangeNew stored (OctP rd) hh hr (small4 hlen) (rangeSize4 _) F N ne hi hy hp (fun i l vs ns k t u h tk own hlt hne hoff hvs hP => turn i l vs ns k t u h tk own (by omega) hne hoff hvs hP (by rw [hP]; exact octs_len rd i)) fun l vs ns k u h tk hne hvs hP => done l vs ns k u h tk hne hvs hP (by rw [hP]; exact octs_rng hsc _) (by rw [hP]; exact Nat.le_trans (octs_len _ _) (by omega))
end
theorem getD_out {rd : List Int} {k : Nat} (h : rd.length ≤ k) : rd.getD k 0 = 0 := by
  rw [List.getD_eq_getElem?_getD, List.getElem?_eq_none h]; rfl
theorem k_four (i : Nat) : (0 + (i : Int) * 4).toNat = 4 * i := by rw [Int.zero_add, Int.mul_comm]; rfl
theorem left_four {n i : Nat} (h : (i : Int) * 4 < (n : Int)) : (if (n : Int) - (0 + (i : Int) * 4) - 1 < 3 then (n : Int) - (0 + (i : Int) * 4) - 1 else 3) = ((min 3 (n - 4 * i - 1) : Nat) : Int) := by split <;> omega
theorem oct_turn {rd os : List Int} {i t : Nat} {x : Int} (h : os = octs rd i) (hx : x = num4 rd (4 * i)) (ht : t = min 3 (rd.length - 4 * i - 1)) :
    OctP rd (i + 1) (os ++ List.take t [x.fdiv 65536, (x.fdiv 256).fmod 256, x.fmod 256]) := by
  subst h hx ht
  rfl
theorem fm4 (n : Nat) : Int.fmod ((n : Nat) : Int) 4 = ((n % 4 : Nat) : Int) := by
  rw [Int.fmod_eq_emod_of_nonneg _ (by decide)]; omega
theorem getD_zero {rd : List Int} {i : Nat} (P : Int → Prop) (h : rd.length ≤ i) (hp : P (rd.getD i 0)) : P 0 := by rw [getD_out h] at hp; exact hp
section
variable {w : World} {p : Program} {loose : List Str} {mean : ExcName → Option Value} {mg mb : Str → Option Value} {dp un : Nat} {gd : Option (List Code)} {cn : Str} {cs : Scope} {a : Addr} {ccd : Value} {cl : List (Str × Addr)} {outer : List Env} {L : Addr}
    {g : Heap} {L' : Addr} {m : Str → Option Value} {s : Shared} {Q : Value → Shared → Prop} {E : Value → Shared → Prop} {news : List (Addr × Obj)} {lr : Addr} {vs : List Value} {rd : List Int} {c : Nat}
    {oc : Value} {od : Option Addr} {osl : Array (Option Value)} {name qual : Str} {params : Arguments} {body : List Stmt} {scope : Scope} {dV kV doc pm cdv ct : Value} {an : Option Addr}
    {q1 q2 q3 q4 q5 q6 q7 q8 q9 q10 q11 q12 q13 q14 : Pos} {k j : Int} {tk tj : Tok}
theorem map3 {x y z : Str} {u v o : Value} (hx : m x = some u) (hy : m y = some v) (hz : m z = some o) : m = (fun (n : Str) => if n = x then some u else if n = y then some v else if n = z then some o else m n) := by
  funext n
  by_cases h1 : n = x
  · rw [if_pos h1, h1, hx]
  · rw [if_neg h1]
    by_cases h2 : n = y
    · rw [if_pos h2, h2, hy]
    · rw [if_neg h2]
      by_cases h3 : n = z
      · rw [if_pos h3, h3, hz]
      · rw [if_neg h3]
theorem rd_item (ho : (hd.heap_39 w.params).lookup 123 = some ⟨oc, od, .func (fnOf name qual params body scope dV kV doc pm an cdv ct), osl⟩)
    (F : Fr g L' s.heap m) (X : (hd.heap_39 w.params).In g) (T : Top p loose mean mg mb g) (h1 : m "read" = some (.ref lr)) (h2 : m "k" = some (.int k tk)) (h3 : m "j" = some (.int j tj)) (N : News g L' s.heap news) (hN : (lr, PySem.W.listOf vs.toArray c) ∈ news) (hi : IntsAre vs rd)
    (hk0 : 0 ≤ k) (hk1 : k ≤ 1000) (hj0 : 0 ≤ j) (hj1 : j ≤ 10) (hlen : rd.length ≤ 1000) (hq : ∀ t tk, Q (.int (rd.getD (k + j).toNat 0) t) { s with toks := tk }) :
    wpAny (model Challenge.rw_qh0109_01.row.prog w) ((ktrTop dp un gd cn cs L a ccd cl outer).deeper (envOf qual scope L' 123 cdv))
      (eval (.IfExp (.Compare (.BinOp (.Name "k" q1) .Add (.Name "j" q2) q3) [.Lt] [.Call (.Name "len" q4) [.Name "read" q5] [] q6] q7) (.Subscript (.Name "read" q8) (.BinOp (.Name "k" q9) .Add (.Name "j" q10) q11) q12) (.Constant (.int 0) 0 q13) q14) (envOf qual scope L' 123 cdv)) Q E s := by
  revert ho
  k_fill
  intro ho
  refine' look_use ho ?k6 ?_
  (case k6 => k_is)
  intro e
  cases e
  replace F := frTo F (map3 h1 h2 h3)
  replace N : News g L' s.heap [(lr, PySem.W.listOf vs.toArray c)] := fun q hq => by rw [List.mem_singleton.mp hq]; exact N _ hN
  clear hN h1 h2 h3
  k_with_none
  w_top off
  k_with "mine sides" => ((case kA => exact rfl); (case kF => exact rfl); (case kK => assumption); (case k6 => k_is); (case k7 => k_is); (case k8 => ktr_room); (case k9 => first | exact BindsTo.of_eq rfl | exact binds_K (by k_in) rfl (by k_is) rfl rfl rfl); (case c5 => decide); (case kB => exact locs rfl); (case c2 => exact rfl); (case c3 => exact rfl); (case c4 => exact rfl); k_whole; intro L' h' F' N' B' X' T'; (try dsimp only); (try k_lift B'); (try k_fold))
  k_with "call type:type" => ((with_reducible show wpAny _ _ (call _ [Value.bytes _ _]) _ _ _); refine call_type_of (Tx := "bytes") rfl (by decide +kernel) ?_)
  k_with "getMethod bytes" => (k_here; (with_reducible refine getm_tr ?_))
  k_with "getMethod type:bytes" => (k_here; k_dflt (refine' getm_mt ?k1 ?k2 ?k3 ?_; (case k1 => k_asm); (case k2 => k_asm); (case k3 => k_is); k_whole))
  k_with "call builtin:bytes.maketrans" => (k_here; k_dflt (refine' call_mt ?k1 ?_; (case k1 => first | rfl | (simp_all; done)); k_whole))
  k_with "call builtin:bytes.translate" => (k_here; k_dflt (refine' call_tr ?k1 ?k2 ?_; (case k1 => first | exact trTab_size _ _ | (simp_all; done)); (case k2 => first | omega | (simp_all; omega)); k_whole); intro t' k')
  k_with "call type:list" => (k_here; (with_reducible show wpAny _ _ (call (Value.type "list") [Value.bytes _ _]) _ _ _); k_dflt (refine' list_bytes_K ?k0 ?k1 ?k2 ?k3 ?_; (case k0 => rfl); (case k1 => k_asm); (case k2 => k_asm); (case k3 => first | decide | (simp_all; omega)); k_whole); intro l' h' tk' vs' c' F' N' l1 iX'; (try k_lt l1); (try k_sweep))
  k_with "mine useV" => ((case k1 => k_asm); (case k2 => k_asm); (case k3 => k_asm); (case k4 => k_asm); (case k5 => k_asm); (case k6 => first | exact rfl | assumption); (case k7 => first | exact True.intro | assumption); (case k8 => exact ⟨by ktr_room, by ktr_units⟩); k_whole)
  k_with "exec For Name Call cons nil" => (k_here; kst_src; (rename Fr _ _ _ _ => lF'); (with_unfolding_all refine' For_invVF lF' ?k1 ?k2 ?_; (case k1 => exact rfl); (case k2 => exact rfl); k_whole))
  k_with "exec For Name Name cons nil" => (k_here; kst_src; (rename Fr _ _ _ _ => lF'); (with_unfolding_all refine' For_invVF lF' ?k1 ?k2 ?_; (case k1 => exact rfl); (case k2 => exact rfl); k_whole))
  k_with "exec For Name Name cons nil" => (k_here; kstb_has; kstb_name; (rename Fr _ _ _ _ => lF'); (with_unfolding_all refine' For_invVF lF' ?k1 ?k2 ?_; (case k1 => exact rfl); (case k2 => exact rfl); k_whole))
  k_with "subscriptTail" => (k_here; (with_reducible show wpAny _ _ (subscriptTail _ _ (Value.bytes _ _) (Value.int _ _)) _ _ _); k_dflt (refine' KBw.item_K ?k1 ?k2 ?k3 ?k4 ?_; (case k1 => with_reducible assumption); (case k2 => simp only [List.length_cons, List.length_nil]; omega); (case k3 => omega); (case k4 => simp only [List.length_cons, List.length_nil]; omega); k_whole); intro _ _ kbaLo kbaHi)
  k_with "mine go" => repeat' (first | (k_unfold; (try dsimp only)) | walk1 | (dsimp only; walk1) | (leave1; (try dsimp only)) | fail "no step")
  k_with "storeName" => (k_here; (dsimp only); walk_at "storeName")
  k_with "call ref" => (k_here; (with_reducible show wpAny _ _ (call (Value.ref 109) _ _) _ _ _); k_dflt (refine' useL (signs_spec _) ?k1 ?k2 ?k3 ?k4 ?k5 ?k6 ?k7 ?k8 ?_; walk_at "mine useV"); intro l' vs' c' h' tk' F' N' ne' iX'; (try simp only [TLg.AllNe, and_true] at ne'); (try k_sweep))
  k_with "call ref" => (k_here; (with_reducible show wpAny _ _ (call (Value.ref 70) [Value.int _ _] _) _ _ _); k_dflt (refine' useV (val_spec _ _ _) ?k1 ?k2 ?k3 ?k4 ?k5 ?k6 ?k7 ?k8 ?_; walk_at "mine useV"); intro v' h' tk' F' N' hv'; obtain ⟨t', e'⟩ := hv'; subst e'; (try k_sweep))
  k_with "call ref" => (k_here; (with_reducible show wpAny _ _ (call (Value.ref 63) [Value.bool _] _) _ _ _); k_dflt (refine' useV (truth_spec _ _) ?k1 ?k2 ?k3 ?k4 ?k5 ?k6 ?k7 ?k8 ?_; walk_at "mine useV"); intro v' h' tk' F' N' hv'; subst hv'; (try k_sweep))
  k_with "call ref" => (k_here; (with_reducible show wpAny _ _ (call (Value.ref 56) [Value.bytes _ _] _) _ _ _); k_dflt (refine' useV (buffer_spec _ _ _) ?k1 ?k2 ?k3 ?k4 ?k5 ?k6 ?k7 ?k8 ?_; walk_at "mine useV"); intro v' h' tk' F' N' hv'; subst hv'; (try k_sweep))
  k_with "call ref" => (k_here; (with_reducible show wpAny _ _ (call (Value.ref 49) [Value.bytes _ _] _) _ _ _); k_dflt (refine' useV (ascii_spec _ _ _) ?k1 ?k2 ?k3 ?k4 ?k5 ?k6 ?k7 ?k8 ?_; walk_at "mine useV"); intro v' h' tk' F' N' hv'; subst hv'; (try k_sweep))
  k_with "call ref" => (k_here; (with_reducible show wpAny _ _ (call (Value.ref 29) [Value.bytes _ _] _) _ _ _); k_dflt (refine' useV (from_spec _ _ _) ?k1 ?k2 ?k3 ?k4 ?k5 ?k6 ?k7 ?k8 ?_; walk_at "mine useV"); intro v' h' tk' F' N' hv'; subst hv'; (try k_sweep))
  k_with "PostT" => (dsimp only [PostT])
  k_with "EndT" => k_dflt ((rename News _ _ _ _ => nE'); (have kMk := kstMark); (refine' EndT.intro (by assumption) nE' ?hy ?hm ?h1 ?h2 ?h3 ?h4 ?hi ?hp ?hr); (case hy => rfl); (case hm => k_memK); (case h1 => k_allIn); (case h2 => (intro p hp; k_ownIn)); (case h3 => k_all); (case h4 => k_all); (case hi => assumption); (case hp => k_extra "turn"); (case hr => (intro z h1 h2 h3; (have h4 := h3); (simp only [List.contains_cons, List.contains_nil, Bool.or_false, Bool.or_eq_false_iff, beq_eq_false_iff_ne, ne_eq] at h3); (simp [h1, h2, h3, h4]))))
  k_with "UnrEnd" => k_dflt ((rename News _ _ _ _ => nE'); (have kMk := kstMark); (refine' UnrEnd.intro (by assumption) nE' _ (fun p hp => hp) ?off ?_); (case off => k_all); clear nE' kMk)
  walk_at "mine go"
  all_goals first
    | exact hq _ _
    | exact getD_zero (fun v => Q (.int v _) _) (by omega) (hq _ _)
end
/-- the second statement of the loop at the head of these -/
noncomputable def second : List Stmt → Option Stmt
  | .For _ _ (_ :: st :: _) _ _ :: _ => some st
  | _ => none
noncomputable def numF (B : Int) (rd : List Int) (k : Int) : Nat → Int
  | 0 => 0
  | n + 1 => numF B rd k n * B + rd.getD (k.toNat + n) 0
theorem numF_64 {rd : List Int} {k : Int} (h : ∀ i, 0 ≤ rd.getD i 0 ∧ rd.getD i 0 < 64) : ∀ n ≤ 4, 0 ≤ numF 64 rd k n ∧ numF 64 rd k n < 16777216 ∧ (n < 4 → numF 64 rd k n < 262144) := by
  have h0 := h (k.toNat + 0)
  have h1 := h (k.toNat + 1)
  have h2 := h (k.toNat + 2)
  have h3 := h (k.toNat + 3)
  intro n hn
  match n with
  | 0 => simp only [numF]; omega
  | 1 => simp only [numF]; omega
  | 2 => simp only [numF]; omega
  | 3 => simp only [numF]; omega
  | 4 => simp only [numF]; omega
  | n + 5 => omega
theorem num_turn {rd : List Int} {k x j v : Int} {pre : List Int} (hk : 0 ≤ k) (h : ∀ i, 0 ≤ rd.getD i 0 ∧ rd.getD i 0 < 64) (hx : x = numF 64 rd k pre.length) (hj : j = 0 + (pre.length : Int)) (hl : pre.length < 4) (hv : v = rd.getD (k + j).toNat 0) :
    x * 64 + v = numF 64 rd k (pre ++ [j]).length ∧ 0 ≤ x * 64 + v ∧ x * 64 + v < 16777216 := by
  have e : x * 64 + v = numF 64 rd k (pre ++ [j]).length := by
    rw [List.length_append, List.length_singleton, hx, hv, hj, Int.zero_add, Int.toNat_add hk (Int.natCast_nonneg _), Int.toNat_natCast]; rfl
  have hr := numF_64 (k := k) h (pre ++ [j]).length (by rw [List.length_append, List.length_singleton]; omega)
  rw [← e] at hr
  exact ⟨e, hr.1, hr.2.1⟩
theorem num_end {rd : List Int} {k x : Int} (hk : 0 ≤ k) (hx : x = numF 64 rd k (rangeKs 0 4).length) : x = num4 rd k.toNat := by
  rw [rangeKs_length] at hx
  simp only [numF, Int.zero_mul, Int.zero_add] at hx
  rw [hx]; rfl
section
variable {w : World} {p : Program} {loose : List Str} {mean : ExcName → Option Value} {mg mb : Str → Option Value} {dp un : Nat} {gd : Option (List Code)} {cn : Str} {cs : Scope} {a : Addr} {ccd : Value} {cl : List (Str × Addr)} {outer : List Env} {L : Addr}
    {g : Heap} {L' : Addr} {m : Str → Option Value} {s : Shared} {E : Value → Shared → Prop} {news : List (Addr × Obj)} {lr : Addr} {vs : List Value} {rd : List Int} {c : Nat}
    {oc : Value} {od : Option Addr} {osl : Array (Option Value)} {name qual : Str} {params : Arguments} {body : List Stmt} {scope : Scope} {dV kV doc pm cdv ct : Value} {an : Option Addr}
    {st : Stmt} {k : Int} {tk tj : Tok}
theorem newsPush {h : Heap} {q : Addr × Obj} (N : News g L' h news) (hq : q ∈ news) : News g L' h (q :: news) := fun x hx => by
  rcases List.mem_cons.mp hx with rfl | hx
  · exact N _ hq
  · exact N _ hx
theorem newsPop {h : Heap} {q : Addr × Obj} (N : News g L' h (q :: news)) : News g L' h news := fun x hx => N _ (.tail _ hx)
theorem mapNum {m rest u : Str → Option Value} {v : Value} (em : m = rest) : (fun (y : Str) => if y = "j" then u y else if y = "number" then some v else if ([] : List Str).contains y = true then u y else rest y) = (fun (z : Str) => if z = "j" then u z else if z = "number" then some v else m z) := by
  subst em; funext y; rfl
theorem rd_num {Q : Flow → Shared → Prop} (ho : (hd.heap_39 w.params).lookup 123 = some ⟨oc, od, .func (fnOf name qual params body scope dV kV doc pm an cdv ct), osl⟩) (hst : second (body.drop 7) = some st)
    (F : Fr g L' s.heap m) (X : (hd.heap_39 w.params).In g) (T : Top p loose mean mg mb g) (h1 : m "read" = some (.ref lr)) (h2 : m "k" = some (.int k tk)) (h3 : m "number" = some (.int 0 tj)) (N : News g L' s.heap news) (hN : (lr, PySem.W.listOf vs.toArray c) ∈ news) (hi : IntsAre vs rd)
    (hk0 : 0 ≤ k) (hk1 : k ≤ 1000) (hlen : rd.length ≤ 1000) (hrd : ∀ n ∈ rd, 0 ≤ n ∧ n < 64)
    (hq : ∀ (x : Int) (h' : Heap) (tk' : Nat) (t : Tok) (u : Str → Option Value), x = num4 rd k.toNat → Fr g L' h' (fun (z : Str) => if z = "j" then u z else if z = "number" then some (.int x t) else m z) → News g L' h' news → Q .next { s with heap := h', toks := tk' }) :
    wpAny (model Challenge.rw_qh0109_01.row.prog w) ((ktrTop dp un gd cn cs L a ccd cl outer).deeper (envOf qual scope L' 123 cdv))
      (exec st (envOf qual scope L' 123 cdv)) Q (fun e s' => wpAny (model Challenge.rw_qh0109_01.row.prog w) ((ktrTop dp un gd cn cs L a ccd cl outer).deeper (envOf qual scope L' 123 cdv)) (leaving (envOf qual scope L' 123 cdv) e) (fun _ s'' => E e s'') (fun e' s'' => E e' s'') s') s := by
  revert ho hst
  k_fill
  intro ho hst
  refine' look_use ho ?k6 ?_
  (case k6 => k_is)
  intro e
  cases e
  cases hst
  have em := map3 h1 h2 h3
  replace F := frTo F em
  replace N := newsPush N hN
  have hg : ∀ i, 0 ≤ rd.getD i 0 ∧ rd.getD i 0 < 64 := getD_rng hrd
  clear hN h1 h2 h3
  k_with_none
  w_top off
  k_with "mine sides" => ((case kA => exact rfl); (case kF => exact rfl); (case kK => assumption); (case k6 => k_is); (case k7 => k_is); (case k8 => ktr_room); (case k9 => first | exact BindsTo.of_eq rfl | exact binds_K (by k_in) rfl (by k_is) rfl rfl rfl); (case c5 => decide); (case kB => exact locs rfl); (case c2 => exact rfl); (case c3 => exact rfl); (case c4 => exact rfl); k_whole; intro L' h' F' N' B' X' T'; (try dsimp only); (try k_lift B'); (try k_fold))
  k_with "call type:type" => ((with_reducible show wpAny _ _ (call _ [Value.bytes _ _]) _ _ _); refine call_type_of (Tx := "bytes") rfl (by decide +kernel) ?_)
  k_with "getMethod bytes" => (k_here; (with_reducible refine getm_tr ?_))
  k_with "getMethod type:bytes" => (k_here; k_dflt (refine' getm_mt ?k1 ?k2 ?k3 ?_; (case k1 => k_asm); (case k2 => k_asm); (case k3 => k_is); k_whole))
  k_with "call builtin:bytes.maketrans" => (k_here; k_dflt (refine' call_mt ?k1 ?_; (case k1 => first | rfl | (simp_all; done)); k_whole))
  k_with "call builtin:bytes.translate" => (k_here; k_dflt (refine' call_tr ?k1 ?k2 ?_; (case k1 => first | exact trTab_size _ _ | (simp_all; done)); (case k2 => first | omega | (simp_all; omega)); k_whole); intro t' k')
  k_with "call type:list" => (k_here; (with_reducible show wpAny _ _ (call (Value.type "list") [Value.bytes _ _]) _ _ _); k_dflt (refine' list_bytes_K ?k0 ?k1 ?k2 ?k3 ?_; (case k0 => rfl); (case k1 => k_asm); (case k2 => k_asm); (case k3 => first | decide | (simp_all; omega)); k_whole); intro l' h' tk' vs' c' F' N' l1 iX'; (try k_lt l1); (try k_sweep))
  k_with "mine useV" => ((case k1 => k_asm); (case k2 => k_asm); (case k3 => k_asm); (case k4 => k_asm); (case k5 => k_asm); (case k6 => first | exact rfl | assumption); (case k7 => first | exact True.intro | assumption); (case k8 => exact ⟨by ktr_room, by ktr_units⟩); k_whole)
  k_with "exec For Name Call cons nil" => (k_here; kst_src; (rename Fr _ _ _ _ => lF'); (with_unfolding_all refine' For_invVF lF' ?k1 ?k2 ?_; (case k1 => exact rfl); (case k2 => exact rfl); k_whole))
  k_with "exec For Name Name cons nil" => (k_here; kst_src; (rename Fr _ _ _ _ => lF'); (with_unfolding_all refine' For_invVF lF' ?k1 ?k2 ?_; (case k1 => exact rfl); (case k2 => exact rfl); k_whole))
  k_with "exec For Name Name cons nil" => (k_here; kstb_has; kstb_name; (rename Fr _ _ _ _ => lF'); (with_unfolding_all refine' For_invVF lF' ?k1 ?k2 ?_; (case k1 => exact rfl); (case k2 => exact rfl); k_whole))
  k_with "subscriptTail" => (k_here; (with_reducible show wpAny _ _ (subscriptTail _ _ (Value.bytes _ _) (Value.int _ _)) _ _ _); k_dflt (refine' KBw.item_K ?k1 ?k2 ?k3 ?k4 ?_; (case k1 => with_reducible assumption); (case k2 => simp only [List.length_cons, List.length_nil]; omega); (case k3 => omega); (case k4 => simp only [List.length_cons, List.length_nil]; omega); k_whole); intro _ _ kbaLo kbaHi)
  k_with "mine go" => repeat' (first | (k_unfold; (try dsimp only)) | walk1 | (dsimp only; walk1) | (leave1; (try dsimp only)) | fail "no step")
  k_with "storeName" => (k_here; (dsimp only); walk_at "storeName")
  k_with "call ref" => (k_here; (with_reducible show wpAny _ _ (call (Value.ref 109) _ _) _ _ _); k_dflt (refine' useL (signs_spec _) ?k1 ?k2 ?k3 ?k4 ?k5 ?k6 ?k7 ?k8 ?_; walk_at "mine useV"); intro l' vs' c' h' tk' F' N' ne' iX'; (try simp only [TLg.AllNe, and_true] at ne'); (try k_sweep))
  k_with "call ref" => (k_here; (with_reducible show wpAny _ _ (call (Value.ref 70) [Value.int _ _] _) _ _ _); k_dflt (refine' useV (val_spec _ _ _) ?k1 ?k2 ?k3 ?k4 ?k5 ?k6 ?k7 ?k8 ?_; walk_at "mine useV"); intro v' h' tk' F' N' hv'; obtain ⟨t', e'⟩ := hv'; subst e'; (try k_sweep))
  k_with "call ref" => (k_here; (with_reducible show wpAny _ _ (call (Value.ref 63) [Value.bool _] _) _ _ _); k_dflt (refine' useV (truth_spec _ _) ?k1 ?k2 ?k3 ?k4 ?k5 ?k6 ?k7 ?k8 ?_; walk_at "mine useV"); intro v' h' tk' F' N' hv'; subst hv'; (try k_sweep))
  k_with "call ref" => (k_here; (with_reducible show wpAny _ _ (call (Value.ref 56) [Value.bytes _ _] _) _ _ _); k_dflt (refine' useV (buffer_spec _ _ _) ?k1 ?k2 ?k3 ?k4 ?k5 ?k6 ?k7 ?k8 ?_; walk_at "mine useV"); intro v' h' tk' F' N' hv'; subst hv'; (try k_sweep))
  k_with "call ref" => (k_here; (with_reducible show wpAny _ _ (call (Value.ref 49) [Value.bytes _ _] _) _ _ _); k_dflt (refine' useV (ascii_spec _ _ _) ?k1 ?k2 ?k3 ?k4 ?k5 ?k6 ?k7 ?k8 ?_; walk_at "mine useV"); intro v' h' tk' F' N' hv'; subst hv'; (try k_sweep))
  k_with "call ref" => (k_here; (with_reducible show wpAny _ _ (call (Value.ref 29) [Value.bytes _ _] _) _ _ _); k_dflt (refine' useV (from_spec _ _ _) ?k1 ?k2 ?k3 ?k4 ?k5 ?k6 ?k7 ?k8 ?_; walk_at "mine useV"); intro v' h' tk' F' N' hv'; subst hv'; (try k_sweep))
  k_with "PostT" => (dsimp only [PostT])
  k_with "EndT" => k_dflt ((rename News _ _ _ _ => nE'); (have kMk := kstMark); (refine' EndT.intro (by assumption) nE' ?hy ?hm ?h1 ?h2 ?h3 ?h4 ?hi ?hp ?hr); (case hy => rfl); (case hm => k_memK); (case h1 => k_allIn); (case h2 => (intro p hp; k_ownIn)); (case h3 => k_all); (case h4 => k_all); (case hi => assumption); (case hp => k_extra "turn"); (case hr => (intro z h1 h2 h3; (have h4 := h3); (simp only [List.contains_cons, List.contains_nil, Bool.or_false, Bool.or_eq_false_iff, beq_eq_false_iff_ne, ne_eq] at h3); (simp [h1, h2, h3, h4]))))
  k_with "UnrEnd" => k_dflt ((rename News _ _ _ _ => nE'); (have kMk := kstMark); (refine' UnrEnd.intro (by assumption) nE' _ (fun p hp => hp) ?off ?_); (case off => k_all); clear nE' kMk)
  k_with "eval IfExp" => (k_here; (with_reducible show wpAny _ _ (eval (Expr.IfExp _ (Expr.Subscript (Expr.Name (Str.ofString "read") _) _ _) _ _) _) _ _ _); k_dflt (refine' rd_item ?ho ?F ?X ?T ?h1 ?h2 ?h3 ?N ?hN ?hi ?hk0 ?hk1 ?hj0 ?hj1 ?hl ?_; (case ho => k_is); (case F => k_asm); (case X => k_asm); (case T => k_asm); (case h1 => rfl); (case h2 => rfl); (case h3 => rfl); (case N => k_asm); (case hN => k_memK); (case hi => assumption); (case hk0 => omega); (case hk1 => omega); (case hj0 => omega); (case hj1 => omega); (case hl => omega); k_whole); intro t' tk')
  k_with "pyIter ref" => k_dflt (k_state_short (fun pre x => x = numF 64 rd k pre.length ∧ 0 ≤ x ∧ x < 16777216) "number")
  k_with "state" => k_dflt (first | exact ⟨rfl, by decide, by decide⟩ | exact num_turn hk0 hg (by assumption) (by assumption) (by assumption) rfl)
  walk_at "mine go"
  exact hq _ _ _ _ kU (num_end hk0 (by assumption)) (frTo kFr (mapNum em)) (newsPop kNews)
end
theorem due_tail {w : World} {p : Program} {loose : List Str} {mean : ExcName → Option Value} {mg mb : Str → Option Value} {dp un : Nat} {gd : Option (List Code)} {cn : Str} {cs : Scope} {a : Addr} {ccd : Value} {cl : List (Str × Addr)} {outer : List Env} {L : Addr}
    {g : Heap} {L' : Addr} {m : Str → Option Value} {s : Shared} {Q : Value → Shared → Prop} {E : Value → Shared → Prop} {news : List (Addr × Obj)} {lr : Addr} {vs : List Value} {rd : List Int} {c : Nat}
    {oc : Value} {od : Option Addr} {osl : Array (Option Value)} {name qual : Str} {params : Arguments} {body : List Stmt} {scope : Scope} {dV kV doc pm cdv ct : Value} {an : Option Addr} {tl : List Stmt}
    (ho : (hd.heap_39 w.params).lookup 123 = some ⟨oc, od, .func (fnOf name qual params body scope dV kV doc pm an cdv ct), osl⟩) (htl : body.drop 6 = tl)
    (F : Fr g L' s.heap m) (X : (hd.heap_39 w.params).In g) (T : Top p loose mean mg mb g) (hm : m "read" = some (.ref lr)) (N : News g L' s.heap news) (hN : (lr, PySem.W.listOf vs.toArray c) ∈ news) (hi : IntsAre vs rd) (hrd : ∀ n ∈ rd, 0 ≤ n ∧ n < 64) (hlen : rd.length ≤ 100)
    (hend : ∀ b t h' tk, (∀ x o, g.get? x = some o → h'.get? x = some o) → KBw.bInts b = octs rd ((rd.length + 3) / 4) → Q (.bytes b t) { s with heap := h', toks := tk }) :
    wpAny (model Challenge.rw_qh0109_01.row.prog w) ((ktrTop dp un gd cn cs L a ccd cl outer).deeper (envOf qual scope L' 123 cdv)) (execs tl (envOf qual scope L' 123 cdv)) (fun fl s' => Q (match fl with | .ret v => v | _ => .none) s')
      (fun e s' => wpAny (model Challenge.rw_qh0109_01.row.prog w) ((ktrTop dp un gd cn cs L a ccd cl outer).deeper (envOf qual scope L' 123 cdv)) (leaving (envOf qual scope L' 123 cdv) e) (fun _ s'' => E e s'') (fun e' s'' => E e' s'') s') s := by
  subst htl
  revert ho
  k_fill
  intro ho
  refine' look_use ho ?k6 ?_
  (case k6 => k_is)
  intro e
  cases e
  have F1 : Fr g L' s.heap (fun (y : Str) => if y = "read" then some (Value.ref lr) else m y) := by
    have e : (fun (y : Str) => if y = "read" then some (Value.ref lr) else m y) = m := by
      funext y
      by_cases h1 : y = "read"
      · rw [if_pos h1, h1, hm]
      · rw [if_neg h1]
    rw [e]; exact F
  have N1 : News g L' s.heap [(lr, PySem.W.listOf vs.toArray c)] := fun q hq => by rw [List.mem_singleton.mp hq]; exact N _ hN
  clear F N hN
  k_with_none
  w_top off
  k_with "mine sides" => ((case kA => exact rfl); (case kF => exact rfl); (case kK => assumption); (case k6 => k_is); (case k7 => k_is); (case k8 => ktr_room); (case k9 => first | exact BindsTo.of_eq rfl | exact binds_K (by k_in) rfl (by k_is) rfl rfl rfl); (case c5 => decide); (case kB => exact locs rfl); (case c2 => exact rfl); (case c3 => exact rfl); (case c4 => exact rfl); k_whole; intro L' h' F' N' B' X' T'; (try dsimp only); (try k_lift B'); (try k_fold))
  k_with "call type:type" => ((with_reducible show wpAny _ _ (call _ [Value.bytes _ _]) _ _ _); refine call_type_of (Tx := "bytes") rfl (by decide +kernel) ?_)
  k_with "getMethod bytes" => (k_here; (with_reducible refine getm_tr ?_))
  k_with "getMethod type:bytes" => (k_here; k_dflt (refine' getm_mt ?k1 ?k2 ?k3 ?_; (case k1 => k_asm); (case k2 => k_asm); (case k3 => k_is); k_whole))
  k_with "call builtin:bytes.maketrans" => (k_here; k_dflt (refine' call_mt ?k1 ?_; (case k1 => first | rfl | (simp_all; done)); k_whole))
  k_with "call builtin:bytes.translate" => (k_here; k_dflt (refine' call_tr ?k1 ?k2 ?_; (case k1 => first | exact trTab_size _ _ | (simp_all; done)); (case k2 => first | omega | (simp_all; omega)); k_whole); intro t' k')
  k_with "call type:list" => (k_here; (with_reducible show wpAny _ _ (call (Value.type "list") [Value.bytes _ _]) _ _ _); k_dflt (refine' list_bytes_K ?k0 ?k1 ?k2 ?k3 ?_; (case k0 => rfl); (case k1 => k_asm); (case k2 => k_asm); (case k3 => first | decide | (simp_all; omega)); k_whole); intro l' h' tk' vs' c' F' N' l1 iX'; (try k_lt l1); (try k_sweep))
  k_with "mine useV" => ((case k1 => k_asm); (case k2 => k_asm); (case k3 => k_asm); (case k4 => k_asm); (case k5 => k_asm); (case k6 => first | exact rfl | assumption); (case k7 => first | exact True.intro | assumption); (case k8 => exact ⟨by ktr_room, by ktr_units⟩); k_whole)
  k_with "exec For Name Call cons nil" => (k_here; kst_src; (rename Fr _ _ _ _ => lF'); (with_unfolding_all refine' For_invVF lF' ?k1 ?k2 ?_; (case k1 => exact rfl); (case k2 => exact rfl); k_whole))
  k_with "exec For Name Name cons nil" => (k_here; kst_src; (rename Fr _ _ _ _ => lF'); (with_unfolding_all refine' For_invVF lF' ?k1 ?k2 ?_; (case k1 => exact rfl); (case k2 => exact rfl); k_whole))
  k_with "exec For Name Name cons nil" => (k_here; kstb_has; kstb_name; (rename Fr _ _ _ _ => lF'); (with_unfolding_all refine' For_invVF lF' ?k1 ?k2 ?_; (case k1 => exact rfl); (case k2 => exact rfl); k_whole))
  k_with "subscriptTail" => (k_here; (with_reducible show wpAny _ _ (subscriptTail _ _ (Value.bytes _ _) (Value.int _ _)) _ _ _); k_dflt (refine' KBw.item_K ?k1 ?k2 ?k3 ?k4 ?_; (case k1 => with_reducible assumption); (case k2 => simp only [List.length_cons, List.length_nil]; omega); (case k3 => omega); (case k4 => simp only [List.length_cons, List.length_nil]; omega); k_whole); intro _ _ kbaLo kbaHi)
  k_with "mine go" => repeat' (first | (k_unfold; (try dsimp only)) | walk1 | (dsimp only; walk1) | (leave1; (try dsimp only)) | fail "no step")
  k_with "storeName" => (k_here; (dsimp only); walk_at "storeName")
  k_with "call ref" => (k_here; (with_reducible show wpAny _ _ (call (Value.ref 109) _ _) _ _ _); k_dflt (refine' useL (signs_spec _) ?k1 ?k2 ?k3 ?k4 ?k5 ?k6 ?k7 ?k8 ?_; walk_at "mine useV"); intro l' vs' c' h' tk' F' N' ne' iX'; (try simp only [TLg.AllNe, and_true] at ne'); (try k_sweep))
  k_with "call ref" => (k_here; (with_reducible show wpAny _ _ (call (Value.ref 70) [Value.int _ _] _) _ _ _); k_dflt (refine' useV (val_spec _ _ _) ?k1 ?k2 ?k3 ?k4 ?k5 ?k6 ?k7 ?k8 ?_; walk_at "mine useV"); intro v' h' tk' F' N' hv'; obtain ⟨t', e'⟩ := hv'; subst e'; (try k_sweep))
  k_with "call ref" => (k_here; (with_reducible show wpAny _ _ (call (Value.ref 63) [Value.bool _] _) _ _ _); k_dflt (refine' useV (truth_spec _ _) ?k1 ?k2 ?k3 ?k4 ?k5 ?k6 ?k7 ?k8 ?_; walk_at "mine useV"); intro v' h' tk' F' N' hv'; subst hv'; (try k_sweep))
  k_with "call ref" => (k_here; (with_reducible show wpAny _ _ (call (Value.ref 56) [Value.bytes _ _] _) _ _ _); k_dflt (refine' useV (buffer_spec _ _ _) ?k1 ?k2 ?k3 ?k4 ?k5 ?k6 ?k7 ?k8 ?_; walk_at "mine useV"); intro v' h' tk' F' N' hv'; subst hv'; (try k_sweep))
  k_with "call ref" => (k_here; (with_reducible show wpAny _ _ (call (Value.ref 49) [Value.bytes _ _] _) _ _ _); k_dflt (refine' useV (ascii_spec _ _ _) ?k1 ?k2 ?k3 ?k4 ?k5 ?k6 ?k7 ?k8 ?_; walk_at "mine useV"); intro v' h' tk' F' N' hv'; subst hv'; (try k_sweep))
  k_with "call ref" => (k_here; (with_reducible show wpAny _ _ (call (Value.ref 29) [Value.bytes _ _] _) _ _ _); k_dflt (refine' useV (from_spec _ _ _) ?k1 ?k2 ?k3 ?k4 ?k5 ?k6 ?k7 ?k8 ?_; walk_at "mine useV"); intro v' h' tk' F' N' hv'; subst hv'; (try k_sweep))
  k_with "PostT" => (dsimp only [PostT])
  k_with "EndT" => k_dflt ((rename News _ _ _ _ => nE'); (have kMk := kstMark); (refine' EndT.intro (by assumption) nE' ?hy ?hm ?h1 ?h2 ?h3 ?h4 ?hi ?hp ?hr); (case hy => rfl); (case hm => k_memK); (case h1 => k_allIn); (case h2 => (intro p hp; k_ownIn)); (case h3 => k_all); (case h4 => k_all); (case hi => assumption); (case hp => k_extra "turn"); (case hr => (intro z h1 h2 h3; (have h4 := h3); (simp only [List.contains_cons, List.contains_nil, Bool.or_false, Bool.or_eq_false_iff, beq_eq_false_iff_ne, ne_eq] at h3); (simp [h1, h2, h3, h4]))))
  k_with "UnrEnd" => k_dflt ((rename News _ _ _ _ => nE'); (have kMk := kstMark); (refine' UnrEnd.intro (by assumption) nE' _ (fun p hp => hp) ?off ?_); (case off => k_all); clear nE' kMk)
  k_with "eval IfExp" => (k_here; (with_reducible show wpAny _ _ (eval (Expr.IfExp _ (Expr.Subscript (Expr.Name (Str.ofString "read") _) _ _) _ _) _) _ _ _); k_dflt (refine' rd_item ?ho ?F ?X ?T ?h1 ?h2 ?h3 ?N ?hN ?hi ?hk0 ?hk1 ?hj0 ?hj1 ?hl ?_; (case ho => k_is); (case F => k_asm); (case X => k_asm); (case T => k_asm); (case h1 => rfl); (case h2 => rfl); (case h3 => rfl); (case N => k_asm); (case hN => k_memK); (case hi => assumption); (case hk0 => omega); (case hk1 => omega); (case hj0 => omega); (case hj1 => omega); (case hl => omega); k_whole); intro t' tk')
  k_with "exec For Name Call cons nil" => (k_here; (with_reducible show wpAny _ _ (exec (Stmt.For (Expr.Name (Str.ofString "j") _) _ _ _ _) _) _ _ _); k_dflt (refine' rd_num ?ho ?hst ?F ?X ?T ?h1 ?h2 ?h3 ?N ?hN ?hi ?hk0 ?hk1 ?hl ?hrd ?_; (case ho => k_is); (case hst => rfl); (case F => k_asm); (case X => k_asm); (case T => k_asm); (case h1 => rfl); (case h2 => rfl); (case h3 => rfl); (case N => k_asm); (case hN => k_memK); (case hi => assumption); (case hk0 => omega); (case hk1 => omega); (case hl => omega); (case hrd => assumption); k_whole); intro x9 h' tk' t9 u9 hx9 F' N'; (have hx8 := num4_rng hrd (0 + (i : Int) * 4).toNat); (rw [← hx9] at hx8); (try k_sweep))
  k_with "pyIter ref" => k_dflt (((with_reducible show wpAny _ _ (pyIter (Value.ref _)) (fun it s₂ => LoopAtV _ _ _ _ _ _ _ _ _ it s₂) _ _); (rename IsRange _ _ _ _ _ _ _ _ => rgX); (rename Fr _ _ _ _ => lF'); (rename News _ _ _ _ => lN'); (with_unfolding_all refine' dueLoop (y := "octets") ["number", "j", "three"] hrd (by omega) (by rfl) rgX lF' lN' (by k_all) IntsAre.nil (by rfl) (by rfl) ?_ ?_); (all_goals (try clear lF' lN')); (intro i l ws os k t u h tk own hlt hne hoff hws hos hol kFr kNews; (try simp only [List.cons_append, List.nil_append] at kNews); (try simp only [List.map_cons, List.map_nil] at hoff); (replace hne := TLgL.allNe_of hne); (simp only [TLg.AllNe, and_true] at hne); (try k_fold)); rotate_left; (intro l ws os k u h tk hne hws hos hin hol kFr kNews; (replace hne := TLgL.allNe_of hne); (simp only [TLg.AllNe, and_true] at hne); (try k_fold)); rotate_left))
  k_with "turn" => k_dflt (refine' oct_turn ?h1 ?h2 ?h3; (case h1 => assumption); (case h3 => (rw [left_four hlt]; rfl)); (case h2 => (rw [hx9, k_four])))
  show wpAny _ _ (execs [_, _, _] _) _ _ _
  k_fold
  walk_at "mine go"
  all_goals (refine hend _ _ _ _ (Fr.keep (by assumption)) ?_)
  all_goals ((rename (_ = octs _ _) => hos9); rw [← hos9]; exact KBa.ints_make (by assumption))
theorem fm4i (n : Nat) : (Int.fmod ((n : Nat) : Int) 4).toNat = n % 4 := by rw [fm4]; rfl
section
variable {w : World} {p : Program} {loose : List Str} {mean : ExcName → Option Value} {mg mb : Str → Option Value} {dp un : Nat} {gd : Option (List Code)} {cn : Str} {cs : Scope} {a : Addr} {ccd : Value} {cl : List (Str × Addr)} {outer : List Env} {L : Addr}
    {g : Heap} {L' : Addr} {m : Str → Option Value} {s : Shared} {Q : Bool → Shared → Prop} {E : Value → Shared → Prop} {news : List (Addr × Obj)}
    {oc : Value} {od : Option Addr} {osl : Array (Option Value)} {name qual : Str} {params : Arguments} {body : List Stmt} {scope : Scope} {dV kV doc pm cdv ct : Value} {an : Option Addr}
    {q1 q2 q3 q4 q5 q6 q7 q8 q9 q10 q11 q12 q13 q14 q15 q16 q17 q18 : Pos} {be pads : Int} {tb tp : Tok} {whole : Sem Value}
theorem due_more (ho : (hd.heap_39 w.params).lookup 123 = some ⟨oc, od, .func (fnOf name qual params body scope dV kV doc pm an cdv ct), osl⟩)
    (F : Fr g L' s.heap m) (X : (hd.heap_39 w.params).In g) (T : Top p loose mean mg mb g) (h1 : m "pads" = some (.int pads tp)) (h2 : m "beyond" = some (.int be tb)) (N : News g L' s.heap news) (hb : 0 ≤ be ∧ be < 4)
    (ht : pads > ([0, 3, 2, 1] : List Int).getD be.toNat 0 → ∀ h' tk, Fr g L' h' m → News g L' h' news → Q true { s with heap := h', toks := tk })
    (hf : ¬ pads > ([0, 3, 2, 1] : List Int).getD be.toNat 0 → ∀ h' tk, Fr g L' h' m → News g L' h' news → Q false { s with heap := h', toks := tk }) :
    wpAny (model Challenge.rw_qh0109_01.row.prog w) ((ktrTop dp un gd cn cs L a ccd cl outer).deeper (envOf qual scope L' 123 cdv))
      (isTrue (.Compare (.Name "pads" q1) [.Gt] [.Subscript (.List [.Constant (.int 0) 0 q2, .Constant (.int 3) 0 q3, .Constant (.int 2) 0 q4, .Constant (.int 1) 0 q5] q6) (.Name "beyond" q7) q8] q9) (envOf qual scope L' 123 cdv) whole) Q E s := by
  revert ho
  k_fill
  intro ho
  refine' look_use ho ?k6 ?_
  (case k6 => k_is)
  intro e
  cases e
  have em := map2 h1 h2
  replace F := frTo F em
  clear h1 h2
  k_with_none
  w_top off
  k_with "mine sides" => ((case kA => exact rfl); (case kF => exact rfl); (case kK => assumption); (case k6 => k_is); (case k7 => k_is); (case k8 => ktr_room); (case k9 => first | exact BindsTo.of_eq rfl | exact binds_K (by k_in) rfl (by k_is) rfl rfl rfl); (case c5 => decide); (case kB => exact locs rfl); (case c2 => exact rfl); (case c3 => exact rfl); (case c4 => exact rfl); k_whole; intro L' h' F' N' B' X' T'; (try dsimp only); (try k_lift B'); (try k_fold))
  k_with "call type:type" => ((with_reducible show wpAny _ _ (call _ [Value.bytes _ _]) _ _ _); refine call_type_of (Tx := "bytes") rfl (by decide +kernel) ?_)
  k_with "getMethod bytes" => (k_here; (with_reducible refine getm_tr ?_))
  k_with "getMethod type:bytes" => (k_here; k_dflt (refine' getm_mt ?k1 ?k2 ?k3 ?_; (case k1 => k_asm); (case k2 => k_asm); (case k3 => k_is); k_whole))
  k_with "call builtin:bytes.maketrans" => (k_here; k_dflt (refine' call_mt ?k1 ?_; (case k1 => first | rfl | (simp_all; done)); k_whole))
  k_with "call builtin:bytes.translate" => (k_here; k_dflt (refine' call_tr ?k1 ?k2 ?_; (case k1 => first | exact trTab_size _ _ | (simp_all; done)); (case k2 => first | omega | (simp_all; omega)); k_whole); intro t' k')
  k_with "call type:list" => (k_here; (with_reducible show wpAny _ _ (call (Value.type "list") [Value.bytes _ _]) _ _ _); k_dflt (refine' list_bytes_K ?k0 ?k1 ?k2 ?k3 ?_; (case k0 => rfl); (case k1 => k_asm); (case k2 => k_asm); (case k3 => first | decide | (simp_all; omega)); k_whole); intro l' h' tk' vs' c' F' N' l1 iX'; (try k_lt l1); (try k_sweep))
  k_with "mine useV" => ((case k1 => k_asm); (case k2 => k_asm); (case k3 => k_asm); (case k4 => k_asm); (case k5 => k_asm); (case k6 => first | exact rfl | assumption); (case k7 => first | exact True.intro | assumption); (case k8 => exact ⟨by ktr_room, by ktr_units⟩); k_whole)
  k_with "exec For Name Call cons nil" => (k_here; kst_src; (rename Fr _ _ _ _ => lF'); (with_unfolding_all refine' For_invVF lF' ?k1 ?k2 ?_; (case k1 => exact rfl); (case k2 => exact rfl); k_whole))
  k_with "exec For Name Name cons nil" => (k_here; kst_src; (rename Fr _ _ _ _ => lF'); (with_unfolding_all refine' For_invVF lF' ?k1 ?k2 ?_; (case k1 => exact rfl); (case k2 => exact rfl); k_whole))
  k_with "exec For Name Name cons nil" => (k_here; kstb_has; kstb_name; (rename Fr _ _ _ _ => lF'); (with_unfolding_all refine' For_invVF lF' ?k1 ?k2 ?_; (case k1 => exact rfl); (case k2 => exact rfl); k_whole))
  k_with "subscriptTail" => (k_here; (with_reducible show wpAny _ _ (subscriptTail _ _ (Value.bytes _ _) (Value.int _ _)) _ _ _); k_dflt (refine' KBw.item_K ?k1 ?k2 ?k3 ?k4 ?_; (case k1 => with_reducible assumption); (case k2 => simp only [List.length_cons, List.length_nil]; omega); (case k3 => omega); (case k4 => simp only [List.length_cons, List.length_nil]; omega); k_whole); intro _ _ kbaLo kbaHi)
  k_with "mine go" => repeat' (first | (k_unfold; (try dsimp only)) | walk1 | (dsimp only; walk1) | (leave1; (try dsimp only)) | fail "no step")
  k_with "storeName" => (k_here; (dsimp only); walk_at "storeName")
  k_with "call ref" => (k_here; (with_reducible show wpAny _ _ (call (Value.ref 109) _ _) _ _ _); k_dflt (refine' useL (signs_spec _) ?k1 ?k2 ?k3 ?k4 ?k5 ?k6 ?k7 ?k8 ?_; walk_at "mine useV"); intro l' vs' c' h' tk' F' N' ne' iX'; (try simp only [TLg.AllNe, and_true] at ne'); (try k_sweep))
  k_with "call ref" => (k_here; (with_reducible show wpAny _ _ (call (Value.ref 70) [Value.int _ _] _) _ _ _); k_dflt (refine' useV (val_spec _ _ _) ?k1 ?k2 ?k3 ?k4 ?k5 ?k6 ?k7 ?k8 ?_; walk_at "mine useV"); intro v' h' tk' F' N' hv'; obtain ⟨t', e'⟩ := hv'; subst e'; (try k_sweep))
  k_with "call ref" => (k_here; (with_reducible show wpAny _ _ (call (Value.ref 63) [Value.bool _] _) _ _ _); k_dflt (refine' useV (truth_spec _ _) ?k1 ?k2 ?k3 ?k4 ?k5 ?k6 ?k7 ?k8 ?_; walk_at "mine useV"); intro v' h' tk' F' N' hv'; subst hv'; (try k_sweep))
  k_with "call ref" => (k_here; (with_reducible show wpAny _ _ (call (Value.ref 56) [Value.bytes _ _] _) _ _ _); k_dflt (refine' useV (buffer_spec _ _ _) ?k1 ?k2 ?k3 ?k4 ?k5 ?k6 ?k7 ?k8 ?_; walk_at "mine useV"); intro v' h' tk' F' N' hv'; subst hv'; (try k_sweep))
  k_with "call ref" => (k_here; (with_reducible show wpAny _ _ (call (Value.ref 49) [Value.bytes _ _] _) _ _ _); k_dflt (refine' useV (ascii_spec _ _ _) ?k1 ?k2 ?k3 ?k4 ?k5 ?k6 ?k7 ?k8 ?_; walk_at "mine useV"); intro v' h' tk' F' N' hv'; subst hv'; (try k_sweep))
  k_with "call ref" => (k_here; (with_reducible show wpAny _ _ (call (Value.ref 29) [Value.bytes _ _] _) _ _ _); k_dflt (refine' useV (from_spec _ _ _) ?k1 ?k2 ?k3 ?k4 ?k5 ?k6 ?k7 ?k8 ?_; walk_at "mine useV"); intro v' h' tk' F' N' hv'; subst hv'; (try k_sweep))
  walk_at "mine go"
  all_goals (rename Fr _ _ _ _ => hF9; rename News _ _ _ _ => hN9; exact dec_q (R := fun b => Q b _) (fun h => ht h _ _ (frTo hF9 em.symm) (newsPop hN9)) (fun h => hf h _ _ (frTo hF9 em.symm) (newsPop hN9)))
theorem due_bad (ho : (hd.heap_39 w.params).lookup 123 = some ⟨oc, od, .func (fnOf name qual params body scope dV kV doc pm an cdv ct), osl⟩)
    (F : Fr g L' s.heap m) (X : (hd.heap_39 w.params).In g) (T : Top p loose mean mg mb g) (h1 : m "pads" = some (.int pads tp)) (h2 : m "beyond" = some (.int be tb))
    (ht : be = 1 ∨ (be = 2 ∧ pads ≠ 2) ∨ (be = 3 ∧ pads ≠ 1) → ∀ tk, Q true { s with toks := tk }) (hf : ¬ (be = 1 ∨ (be = 2 ∧ pads ≠ 2) ∨ (be = 3 ∧ pads ≠ 1)) → ∀ tk, Q false { s with toks := tk }) :
    wpAny (model Challenge.rw_qh0109_01.row.prog w) ((ktrTop dp un gd cn cs L a ccd cl outer).deeper (envOf qual scope L' 123 cdv))
      (isTrue (.BoolOp .Or [.Compare (.Name "beyond" q1) [.Eq] [.Constant (.int 1) 0 q2] q3, .BoolOp .And [.Compare (.Name "beyond" q4) [.Eq] [.Constant (.int 2) 0 q5] q6, .Compare (.Name "pads" q7) [.NotEq] [.Constant (.int 2) 0 q8] q9] q10, .BoolOp .And [.Compare (.Name "beyond" q11) [.Eq] [.Constant (.int 3) 0 q12] q13, .Compare (.Name "pads" q14) [.NotEq] [.Constant (.int 1) 0 q15] q16] q17] q18) (envOf qual scope L' 123 cdv) whole) Q E s := by
  revert ho
  k_fill
  intro ho
  refine' look_use ho ?k6 ?_
  (case k6 => k_is)
  intro e
  cases e
  replace F := frTo F (map2 h1 h2)
  have N : News g L' s.heap [] := News.nil
  clear h1 h2
  k_with_none
  w_top off
  k_with "mine sides" => ((case kA => exact rfl); (case kF => exact rfl); (case kK => assumption); (case k6 => k_is); (case k7 => k_is); (case k8 => ktr_room); (case k9 => first | exact BindsTo.of_eq rfl | exact binds_K (by k_in) rfl (by k_is) rfl rfl rfl); (case c5 => decide); (case kB => exact locs rfl); (case c2 => exact rfl); (case c3 => exact rfl); (case c4 => exact rfl); k_whole; intro L' h' F' N' B' X' T'; (try dsimp only); (try k_lift B'); (try k_fold))
  k_with "call type:type" => ((with_reducible show wpAny _ _ (call _ [Value.bytes _ _]) _ _ _); refine call_type_of (Tx := "bytes") rfl (by decide +kernel) ?_)
  k_with "getMethod bytes" => (k_here; (with_reducible refine getm_tr ?_))
  k_with "getMethod type:bytes" => (k_here; k_dflt (refine' getm_mt ?k1 ?k2 ?k3 ?_; (case k1 => k_asm); (case k2 => k_asm); (case k3 => k_is); k_whole))
  k_with "call builtin:bytes.maketrans" => (k_here; k_dflt (refine' call_mt ?k1 ?_; (case k1 => first | rfl | (simp_all; done)); k_whole))
  k_with "call builtin:bytes.translate" => (k_here; k_dflt (refine' call_tr ?k1 ?k2 ?_; (case k1 => first | exact trTab_size _ _ | (simp_all; done)); (case k2 => first | omega | (simp_all; omega)); k_whole); intro t' k')
  k_with "call type:list" => (k_here; (with_reducible show wpAny _ _ (call (Value.type "list") [Value.bytes _ _]) _ _ _); k_dflt (refine' list_bytes_K ?k0 ?k1 ?k2 ?k3 ?_; (case k0 => rfl); (case k1 => k_asm); (case k2 => k_asm); (case k3 => first | decide | (simp_all; omega)); k_whole); intro l' h' tk' vs' c' F' N' l1 iX'; (try k_lt l1); (try k_sweep))
  k_with "mine useV" => ((case k1 => k_asm); (case k2 => k_asm); (case k3 => k_asm); (case k4 => k_asm); (case k5 => k_asm); (case k6 => first | exact rfl | assumption); (case k7 => first | exact True.intro | assumption); (case k8 => exact ⟨by ktr_room, by ktr_units⟩); k_whole)
  k_with "exec For Name Call cons nil" => (k_here; kst_src; (rename Fr _ _ _ _ => lF'); (with_unfolding_all refine' For_invVF lF' ?k1 ?k2 ?_; (case k1 => exact rfl); (case k2 => exact rfl); k_whole))
  k_with "exec For Name Name cons nil" => (k_here; kst_src; (rename Fr _ _ _ _ => lF'); (with_unfolding_all refine' For_invVF lF' ?k1 ?k2 ?_; (case k1 => exact rfl); (case k2 => exact rfl); k_whole))
  k_with "exec For Name Name cons nil" => (k_here; kstb_has; kstb_name; (rename Fr _ _ _ _ => lF'); (with_unfolding_all refine' For_invVF lF' ?k1 ?k2 ?_; (case k1 => exact rfl); (case k2 => exact rfl); k_whole))
  k_with "subscriptTail" => (k_here; (with_reducible show wpAny _ _ (subscriptTail _ _ (Value.bytes _ _) (Value.int _ _)) _ _ _); k_dflt (refine' KBw.item_K ?k1 ?k2 ?k3 ?k4 ?_; (case k1 => with_reducible assumption); (case k2 => simp only [List.length_cons, List.length_nil]; omega); (case k3 => omega); (case k4 => simp only [List.length_cons, List.length_nil]; omega); k_whole); intro _ _ kbaLo kbaHi)
  k_with "mine go" => repeat' (first | (k_unfold; (try dsimp only)) | walk1 | (dsimp only; walk1) | (leave1; (try dsimp only)) | fail "no step")
  k_with "storeName" => (k_here; (dsimp only); walk_at "storeName")
  k_with "call ref" => (k_here; (with_reducible show wpAny _ _ (call (Value.ref 109) _ _) _ _ _); k_dflt (refine' useL (signs_spec _) ?k1 ?k2 ?k3 ?k4 ?k5 ?k6 ?k7 ?k8 ?_; walk_at "mine useV"); intro l' vs' c' h' tk' F' N' ne' iX'; (try simp only [TLg.AllNe, and_true] at ne'); (try k_sweep))
  k_with "call ref" => (k_here; (with_reducible show wpAny _ _ (call (Value.ref 70) [Value.int _ _] _) _ _ _); k_dflt (refine' useV (val_spec _ _ _) ?k1 ?k2 ?k3 ?k4 ?k5 ?k6 ?k7 ?k8 ?_; walk_at "mine useV"); intro v' h' tk' F' N' hv'; obtain ⟨t', e'⟩ := hv'; subst e'; (try k_sweep))
  k_with "call ref" => (k_here; (with_reducible show wpAny _ _ (call (Value.ref 63) [Value.bool _] _) _ _ _); k_dflt (refine' useV (truth_spec _ _) ?k1 ?k2 ?k3 ?k4 ?k5 ?k6 ?k7 ?k8 ?_; walk_at "mine useV"); intro v' h' tk' F' N' hv'; subst hv'; (try k_sweep))
  k_with "call ref" => (k_here; (with_reducible show wpAny _ _ (call (Value.ref 56) [Value.bytes _ _] _) _ _ _); k_dflt (refine' useV (buffer_spec _ _ _) ?k1 ?k2 ?k3 ?k4 ?k5 ?k6 ?k7 ?k8 ?_; walk_at "mine useV"); intro v' h' tk' F' N' hv'; subst hv'; (try k_sweep))
  k_with "call ref" => (k_here; (with_reducible show wpAny _ _ (call (Value.ref 49) [Value.bytes _ _] _) _ _ _); k_dflt (refine' useV (ascii_spec _ _ _) ?k1 ?k2 ?k3 ?k4 ?k5 ?k6 ?k7 ?k8 ?_; walk_at "mine useV"); intro v' h' tk' F' N' hv'; subst hv'; (try k_sweep))
  k_with "call ref" => (k_here; (with_reducible show wpAny _ _ (call (Value.ref 29) [Value.bytes _ _] _) _ _ _); k_dflt (refine' useV (from_spec _ _ _) ?k1 ?k2 ?k3 ?k4 ?k5 ?k6 ?k7 ?k8 ?_; walk_at "mine useV"); intro v' h' tk' F' N' hv'; subst hv'; (try k_sweep))
  walk_at "mine go"
  all_goals first
    | exact ht (.inl (by assumption)) _
    | exact ht (.inr (.inl ⟨by assumption, by assumption⟩)) _
    | exact hf (by omega) _
    | exact ht (.inr (.inr ⟨by assumption, by assumption⟩)) _
    | exact absurd ((by assumption : be = 2).symm.trans (by assumption : be = 3)) (by decide)
end
section
variable {sb : Bool} {ns rd : List Int} {pads : Int}
theorem due_skip (h : ScanAt sb ns rd pads) (hp : pads > ([0, 3, 2, 1] : List Int).getD (Int.fmod (rd.length : Int) 4).toNat 0) : dueOf sb ns = .skip := by
  rw [fm4i] at hp
  rw [due_end h, if_pos hp]
theorem due_no (h : ScanAt sb ns rd pads) (hp : ¬ pads > ([0, 3, 2, 1] : List Int).getD (Int.fmod (rd.length : Int) 4).toNat 0) (hc : Int.fmod (rd.length : Int) 4 = 1 ∨ (Int.fmod (rd.length : Int) 4 = 2 ∧ pads ≠ 2) ∨ (Int.fmod (rd.length : Int) 4 = 3 ∧ pads ≠ 1)) : dueOf sb ns = .no := by
  rw [fm4i] at hp
  rw [fm4] at hc
  rw [due_end h, if_neg hp, if_pos (by omega)]
theorem due_oct (h : ScanAt sb ns rd pads) (hp : ¬ pads > ([0, 3, 2, 1] : List Int).getD (Int.fmod (rd.length : Int) 4).toNat 0) (hc : ¬ (Int.fmod (rd.length : Int) 4 = 1 ∨ (Int.fmod (rd.length : Int) 4 = 2 ∧ pads ≠ 2) ∨ (Int.fmod (rd.length : Int) 4 = 3 ∧ pads ≠ 1))) : dueOf sb ns = .octets (octs rd ((rd.length + 3) / 4)) := by
  rw [fm4i] at hp
  rw [fm4] at hc
  rw [due_end h, if_neg hp, if_neg (by omega)]
end
theorem due_spec (w : World) (sb : Bool) (lp : Addr) (vs : List Value) (ns : List Int) (hi : IntsAre vs ns) (hr : ∀ n ∈ ns, 0 ≤ n ∧ n < 66) (hn : ns.length ≤ 100) :
    Calls w 123 [.ref lp, .bool sb] [] 4 (fun h => h.IsList lp vs.toArray) (fun _ _ v => DueVal (dueOf sb ns) v) := by
  unfold Calls
  k_fill
  intro p loose mean mg mb dp un gd cn cs a ccd cl outer A₀ base h₀ L m s Q E B F X T hk hpre hR hret
  refine wpAny_call ?_
  k_with_none
  w_top off
  k_with "mine sides" => ((case kA => exact rfl); (case kF => exact rfl); (case kK => assumption); (case k6 => k_is); (case k7 => k_is); (case k8 => ktr_room); (case k9 => first | exact BindsTo.of_eq rfl | exact binds_K (by k_in) rfl (by k_is) rfl rfl rfl); (case c5 => decide); (case kB => exact locs rfl); (case c2 => exact rfl); (case c3 => exact rfl); (case c4 => exact rfl); k_whole; intro L' h' F' N' B' X' T'; (try dsimp only); (try k_lift B'); (try k_fold))
  k_with "call type:type" => ((with_reducible show wpAny _ _ (call _ [Value.bytes _ _]) _ _ _); refine call_type_of (Tx := "bytes") rfl (by decide +kernel) ?_)
  k_with "getMethod bytes" => (k_here; (with_reducible refine getm_tr ?_))
  k_with "getMethod type:bytes" => (k_here; k_dflt (refine' getm_mt ?k1 ?k2 ?k3 ?_; (case k1 => k_asm); (case k2 => k_asm); (case k3 => k_is); k_whole))
  k_with "call builtin:bytes.maketrans" => (k_here; k_dflt (refine' call_mt ?k1 ?_; (case k1 => first | rfl | (simp_all; done)); k_whole))
  k_with "call builtin:bytes.translate" => (k_here; k_dflt (refine' call_tr ?k1 ?k2 ?_; (case k1 => first | exact trTab_size _ _ | (simp_all; done)); (case k2 => first | omega | (simp_all; omega)); k_whole); intro t' k')
  k_with "call type:list" => (k_here; (with_reducible show wpAny _ _ (call (Value.type "list") [Value.bytes _ _]) _ _ _); k_dflt (refine' list_bytes_K ?k0 ?k1 ?k2 ?k3 ?_; (case k0 => rfl); (case k1 => k_asm); (case k2 => k_asm); (case k3 => first | decide | (simp_all; omega)); k_whole); intro l' h' tk' vs' c' F' N' l1 iX'; (try k_lt l1); (try k_sweep))
  k_with "mine useV" => ((case k1 => k_asm); (case k2 => k_asm); (case k3 => k_asm); (case k4 => k_asm); (case k5 => k_asm); (case k6 => first | exact rfl | assumption); (case k7 => first | exact True.intro | assumption); (case k8 => exact ⟨by ktr_room, by ktr_units⟩); k_whole)
  k_with "exec For Name Call cons nil" => (k_here; kst_src; (rename Fr _ _ _ _ => lF'); (with_unfolding_all refine' For_invVF lF' ?k1 ?k2 ?_; (case k1 => exact rfl); (case k2 => exact rfl); k_whole))
  k_with "exec For Name Name cons nil" => (k_here; kst_src; (rename Fr _ _ _ _ => lF'); (with_unfolding_all refine' For_invVF lF' ?k1 ?k2 ?_; (case k1 => exact rfl); (case k2 => exact rfl); k_whole))
  k_with "exec For Name Name cons nil" => (k_here; kstb_has; kstb_name; (rename Fr _ _ _ _ => lF'); (with_unfolding_all refine' For_invVF lF' ?k1 ?k2 ?_; (case k1 => exact rfl); (case k2 => exact rfl); k_whole))
  k_with "subscriptTail" => (k_here; (with_reducible show wpAny _ _ (subscriptTail _ _ (Value.bytes _ _) (Value.int _ _)) _ _ _); k_dflt (refine' KBw.item_K ?k1 ?k2 ?k3 ?k4 ?_; (case k1 => with_reducible assumption); (case k2 => simp only [List.length_cons, List.length_nil]; omega); (case k3 => omega); (case k4 => simp only [List.length_cons, List.length_nil]; omega); k_whole); intro _ _ kbaLo kbaHi)
  k_with "mine go" => repeat' (first | (k_unfold; (try dsimp only)) | walk1 | (dsimp only; walk1) | (leave1; (try dsimp only)) | fail "no step")
  k_with "storeName" => (k_here; (dsimp only); walk_at "storeName")
  k_with "call ref" => (k_here; (with_reducible show wpAny _ _ (call (Value.ref 109) _ _) _ _ _); k_dflt (refine' useL (signs_spec _) ?k1 ?k2 ?k3 ?k4 ?k5 ?k6 ?k7 ?k8 ?_; walk_at "mine useV"); intro l' vs' c' h' tk' F' N' ne' iX'; (try simp only [TLg.AllNe, and_true] at ne'); (try k_sweep))
  k_with "call ref" => (k_here; (with_reducible show wpAny _ _ (call (Value.ref 70) [Value.int _ _] _) _ _ _); k_dflt (refine' useV (val_spec _ _ _) ?k1 ?k2 ?k3 ?k4 ?k5 ?k6 ?k7 ?k8 ?_; walk_at "mine useV"); intro v' h' tk' F' N' hv'; obtain ⟨t', e'⟩ := hv'; subst e'; (try k_sweep))
  k_with "call ref" => (k_here; (with_reducible show wpAny _ _ (call (Value.ref 63) [Value.bool _] _) _ _ _); k_dflt (refine' useV (truth_spec _ _) ?k1 ?k2 ?k3 ?k4 ?k5 ?k6 ?k7 ?k8 ?_; walk_at "mine useV"); intro v' h' tk' F' N' hv'; subst hv'; (try k_sweep))
  k_with "call ref" => (k_here; (with_reducible show wpAny _ _ (call (Value.ref 56) [Value.bytes _ _] _) _ _ _); k_dflt (refine' useV (buffer_spec _ _ _) ?k1 ?k2 ?k3 ?k4 ?k5 ?k6 ?k7 ?k8 ?_; walk_at "mine useV"); intro v' h' tk' F' N' hv'; subst hv'; (try k_sweep))
  k_with "call ref" => (k_here; (with_reducible show wpAny _ _ (call (Value.ref 49) [Value.bytes _ _] _) _ _ _); k_dflt (refine' useV (ascii_spec _ _ _) ?k1 ?k2 ?k3 ?k4 ?k5 ?k6 ?k7 ?k8 ?_; walk_at "mine useV"); intro v' h' tk' F' N' hv'; subst hv'; (try k_sweep))
  k_with "call ref" => (k_here; (with_reducible show wpAny _ _ (call (Value.ref 29) [Value.bytes _ _] _) _ _ _); k_dflt (refine' useV (from_spec _ _ _) ?k1 ?k2 ?k3 ?k4 ?k5 ?k6 ?k7 ?k8 ?_; walk_at "mine useV"); intro v' h' tk' F' N' hv'; subst hv'; (try k_sweep))
  k_with "isTrue Compare" => (k_here; (with_reducible show wpAny _ _ (isTrue (Expr.Compare (Expr.Name (Str.ofString "pads") _) [CmpOp.Gt] _ _) _ _) _ _ _); k_dflt (refine' due_more ?zvo ?zvF ?zvX ?zvT ?zv1 ?zv2 ?zvN ⟨fmod_lo _ (by decide), fmod_hi _ (by decide)⟩ ?_ ?_; (case zvo => k_is); (case zvF => k_asm); (case zvX => k_asm); (case zvT => k_asm); (case zv1 => rfl); (case zv2 => rfl); (case zvN => k_asm)); (intro hv9 h' tk9 F' N'; (try dsimp only)))
  k_with "isTrue BoolOp" => (k_here; (with_reducible show wpAny _ _ (isTrue (Expr.BoolOp BoolOp.Or [Expr.Compare (Expr.Name (Str.ofString "beyond") _) _ _ _, _, _] _) _ _) _ _ _); k_dflt (refine' due_bad ?zvo ?zvF ?zvX ?zvT ?zv1 ?zv2 ?_ ?_; (case zvo => k_is); (case zvF => k_asm); (case zvX => k_asm); (case zvT => k_asm); (case zv1 => rfl); (case zv2 => rfl)); (intro hv8 tk9; (try dsimp only)))
  k_with "execs cons Assign cons" => k_dflt ((with_reducible show wpAny _ _ (execs (Stmt.Assign [Expr.Name (Str.ofString "octets") _] _ _ :: _) _) _ _ _); (refine' due_tail ?ho ?htl ?F ?X ?T ?hm ?N ?hN ?hi ?hrd ?hlen ?_); (case ho => k_is); (case htl => rfl); (case F => assumption); (case X => assumption); (case T => assumption); (case hm => rfl); (case N => assumption); (case hN => k_memK); (case hi => assumption); (case hrd => exact And.right (by assumption : ScanAt _ _ _ _)); (case hlen => omega); (intro b' t' h' tk' st' hb'))
  k_dflt (refine' enterS (binds := [("places", .ref lp), ("strict", .bool sb)]) B F X T ?kA ?kF ?kK ?k6 ?k7 ?k8 ?k9 ?kB ?_ ?c2 ?c3 ?c4 ?c5; walk_at "mine sides")
  k_with "pyIter ref" => k_dflt (k_state (fun pre rd pads => ScanAt sb pre rd pads ∧ rd.length ≤ pre.length ∧ 0 ≤ pads ∧ pads ≤ pre.length) "read" "pads")
  k_with "state" => first
    | exact ⟨scanAt_nil, by omega, by omega, by omega⟩
    | (refine ⟨scanAt_pad (by assumption) (by assumption), ?_, ?_, ?_⟩ <;> (try simp only [List.length_append, List.length_cons, List.length_nil]) <;> omega)
    | (refine ⟨scanAt_junk (by assumption) (by assumption) (by assumption), ?_, ?_, ?_⟩ <;> (try simp only [List.length_append, List.length_cons, List.length_nil]) <;> omega)
    | (refine ⟨scanAt_sign (by assumption) (by assumption) (by assumption) (by assumption) (hr _ (by assumption)), ?_, ?_, ?_⟩ <;> (try simp only [List.length_append, List.length_cons, List.length_nil]) <;> omega)
  walk_at "mine go"
  all_goals (refine hret _ _ _ (by first | assumption | exact Fr.keep (by assumption)) ?_)
  all_goals first
    | (rw [due_junk (by assumption) (by assumption) (by assumption) (by assumption)]; rfl)
    | (rw [due_behind (by assumption) (by assumption) (by assumption) (by assumption) (by assumption)]; simp_all [DueVal]; done)
    | (rw [due_skip (by assumption) (by assumption)]; rfl)
    | (rw [due_no (by assumption) (by assumption) (by assumption)]; rfl)
    | (rw [due_oct (by assumption) (by assumption) (by assumption)]; exact ⟨_, _, rfl, by assumption⟩)
/-! a2b_base64, plainly -/
noncomputable def a2bGo (sb : Bool) : List Int → List Int → Int → Int → Int → Option (List Int)
  | [], out, q, _, pads => if q = 1 then none else if q ≠ 0 ∧ q + pads < 4 then none else some out
  | c :: r, out, q, l, pads =>
    if c = 61 then
      if 2 ≤ q ∧ q + (pads + 1) ≤ 4 then a2bGo sb r out q l (pads + 1)
      else if sb then none else a2bGo sb r out q l (pads + 1)
    else if 64 ≤ b64val c then (if sb then none else a2bGo sb r out q l pads)
    else if pads ≠ 0 ∧ sb = true then none
    else if q = 0 then a2bGo sb r out 1 (b64val c) 0
    else if q = 1 then a2bGo sb r (out ++ [l * 4 + b64val c / 16]) 2 (b64val c % 16) 0
    else if q = 2 then a2bGo sb r (out ++ [l * 16 + b64val c / 4]) 3 (b64val c % 4) 0
    else a2bGo sb r (out ++ [l * 64 + b64val c]) 0 0 0
noncomputable def A2At (sb : Bool) (pre out : List Int) (q l pads : Int) : Prop :=
  (∀ post, a2bGo sb (pre ++ post) [] 0 0 0 = a2bGo sb post out q l pads) ∧ (∀ n ∈ out, 0 ≤ n ∧ n < 256) ∧ (q = 2 → l < 16) ∧ (q = 3 → l < 4)
theorem b64val_lo (c : Int) (h : 0 ≤ c) : 0 ≤ b64val c := by
  unfold b64val; repeat' split
  all_goals omega
section
variable {sb : Bool} {pre post out ks : List Int} {q l pads c x y : Int}
theorem a2_nil : A2At sb [] [] 0 0 0 := ⟨fun _ => rfl, (fun _ h => (nomatch h)), (fun h => by omega), (fun h => by omega)⟩
theorem a2_pad1 (h : A2At sb pre out q l pads) (hc : c = 61) (h1 : 2 ≤ q) (h2 : q + (pads + 1) ≤ 4) : A2At sb (pre ++ [c]) out q l (pads + 1) := by
  refine ⟨fun post => ?_, h.2⟩
  rw [List.append_assoc, h.1, hc]
  show a2bGo sb (61 :: post) out q l pads = _
  rw [a2bGo, if_pos rfl, if_pos ⟨h1, h2⟩]
theorem a2_pad2 (h : A2At sb pre out q l pads) (hc : c = 61) (hs : sb = false) : A2At sb (pre ++ [c]) out q l (pads + 1) := by
  refine ⟨fun post => ?_, h.2⟩
  rw [List.append_assoc, h.1, hc, hs]
  show a2bGo false (61 :: post) out q l pads = _
  rw [a2bGo, if_pos rfl]
  split
  · rfl
  · simp
theorem a2_junk (h : A2At sb pre out q l pads) (hc : c ≠ 61) (hv : 64 ≤ b64val c) (hs : sb = false) : A2At sb (pre ++ [c]) out q l pads := by
  refine ⟨fun post => ?_, h.2⟩
  rw [List.append_assoc, h.1, hs]
  show a2bGo false (c :: post) out q l pads = _
  rw [a2bGo, if_neg hc, if_pos hv]
  simp
theorem a2_s0 (h : A2At sb pre out q l pads) (hc : c ≠ 61) (hv : b64val c < 64) (hp : ¬ (pads ≠ 0 ∧ sb = true)) (hq : q = 0) : A2At sb (pre ++ [c]) out 1 (b64val c) 0 := by
  refine ⟨fun post => ?_, h.2.1, fun h => by omega, fun h => by omega⟩
  rw [List.append_assoc, h.1]
  show a2bGo sb (c :: post) out q l pads = _
  rw [a2bGo, if_neg hc, if_neg (by omega), if_neg hp, if_pos hq]
theorem a2_s1 (h : A2At sb pre out q l pads) (hc : c ≠ 61) (h0 : 0 ≤ c) (hl : 0 ≤ l ∧ l < 64) (hv : b64val c < 64) (hp : ¬ (pads ≠ 0 ∧ sb = true)) (hq : q = 1) (hx : x = l * 4 + b64val c / 16) (hy : y = b64val c % 16) : A2At sb (pre ++ [c]) (out ++ [x]) 2 y 0 := by
  have := b64val_lo c h0
  subst hx hy
  refine ⟨fun post => ?_, fun n hn => ?_, fun _ => by omega, fun h => by omega⟩
  · rw [List.append_assoc, h.1]
    show a2bGo sb (c :: post) out q l pads = _
    rw [a2bGo, if_neg hc, if_neg (by omega), if_neg hp, if_neg (by omega), if_pos hq]
  · rcases List.mem_append.mp hn with hn | hn
    · exact h.2.1 n hn
    · have := List.mem_singleton.mp hn; omega
theorem a2_s2 (h : A2At sb pre out q l pads) (hc : c ≠ 61) (h0 : 0 ≤ c) (hl : 0 ≤ l) (hv : b64val c < 64) (hp : ¬ (pads ≠ 0 ∧ sb = true)) (hq : q = 2) (hx : x = l * 16 + b64val c / 4) (hy : y = b64val c % 4) : A2At sb (pre ++ [c]) (out ++ [x]) 3 y 0 := by
  have := b64val_lo c h0
  have hl2 := h.2.2.1 hq
  subst hx hy
  refine ⟨fun post => ?_, fun n hn => ?_, fun h => by omega, fun _ => by omega⟩
  · rw [List.append_assoc, h.1]
    show a2bGo sb (c :: post) out q l pads = _
    rw [a2bGo, if_neg hc, if_neg (by omega), if_neg hp, if_neg (by omega), if_neg (by omega), if_pos hq]
  · rcases List.mem_append.mp hn with hn | hn
    · exact h.2.1 n hn
    · have := List.mem_singleton.mp hn; omega
theorem a2_s3 (h : A2At sb pre out q l pads) (hc : c ≠ 61) (h0 : 0 ≤ c) (hl : 0 ≤ l) (hv : b64val c < 64) (hp : ¬ (pads ≠ 0 ∧ sb = true)) (hq : q = 3) (hx : x = l * 64 + b64val c) : A2At sb (pre ++ [c]) (out ++ [x]) 0 0 0 := by
  have := b64val_lo c h0
  have hl2 := h.2.2.2 hq
  subst hx
  refine ⟨fun post => ?_, fun n hn => ?_, fun h => by omega, fun h => by omega⟩
  · rw [List.append_assoc, h.1]
    show a2bGo sb (c :: post) out q l pads = _
    rw [a2bGo, if_neg hc, if_neg (by omega), if_neg hp, if_neg (by omega), if_neg (by omega), if_neg (by omega)]
  · rcases List.mem_append.mp hn with hn | hn
    · exact h.2.1 n hn
    · have := List.mem_singleton.mp hn; omega
/-! the refusals -/
theorem a2e_pad (h : A2At sb pre out q l pads) (e : ks = pre ++ c :: post) (hc : c = 61) (h1 : ¬ (2 ≤ q ∧ q + (pads + 1) ≤ 4)) (hs : sb = true) : a2bGo sb ks [] 0 0 0 = none := by
  rw [e, h.1, hc, a2bGo, if_pos rfl, if_neg h1, hs, if_pos rfl]
theorem a2e_junk (h : A2At sb pre out q l pads) (e : ks = pre ++ c :: post) (hc : c ≠ 61) (hv : 64 ≤ b64val c) (hs : sb = true) : a2bGo sb ks [] 0 0 0 = none := by
  rw [e, h.1, a2bGo, if_neg hc, if_pos hv, hs, if_pos rfl]
theorem a2e_behind (h : A2At sb pre out q l pads) (e : ks = pre ++ c :: post) (hc : c ≠ 61) (hv : b64val c < 64) (hp : pads ≠ 0) (hs : sb = true) : a2bGo sb ks [] 0 0 0 = none := by
  rw [e, h.1, a2bGo, if_neg hc, if_neg (by omega), if_pos ⟨hp, hs⟩]
theorem a2_last (h : A2At sb ks out q l pads) : a2bGo sb ks [] 0 0 0 = if q = 1 then none else if q ≠ 0 ∧ q + pads < 4 then none else some out := by
  have e := h.1 []
  rw [List.append_nil] at e
  rw [e]; rfl
end
theorem or_fin1 : ∀ a : Fin 64, ∀ v : Fin 64, Builtin.bitOr ((a.val : Int) * 4) ((v.val : Int) / 16) = (a.val : Int) * 4 + (v.val : Int) / 16 := by decide +kernel
theorem or_fin2 : ∀ a : Fin 16, ∀ v : Fin 64, Builtin.bitOr ((a.val : Int) * 16) ((v.val : Int) / 4) = (a.val : Int) * 16 + (v.val : Int) / 4 := by decide +kernel
theorem or_fin3 : ∀ a : Fin 4, ∀ v : Fin 64, Builtin.bitOr ((a.val : Int) * 64) (v.val : Int) = (a.val : Int) * 64 + (v.val : Int) := by decide +kernel
theorem or_1 {a v : Int} (h0 : 0 ≤ a) (h1 : a < 64) (h2 : 0 ≤ v) (h3 : v < 64) : Builtin.bitOr (a * 4) (v / 16) = a * 4 + v / 16 := by
  have := or_fin1 ⟨a.toNat, by omega⟩ ⟨v.toNat, by omega⟩
  have e1 : ((a.toNat : Nat) : Int) = a := by omega
  have e2 : ((v.toNat : Nat) : Int) = v := by omega
  simpa only [e1, e2] using this
theorem or_2 {a v : Int} (h0 : 0 ≤ a) (h1 : a < 16) (h2 : 0 ≤ v) (h3 : v < 64) : Builtin.bitOr (a * 16) (v / 4) = a * 16 + v / 4 := by
  have := or_fin2 ⟨a.toNat, by omega⟩ ⟨v.toNat, by omega⟩
  have e1 : ((a.toNat : Nat) : Int) = a := by omega
  have e2 : ((v.toNat : Nat) : Int) = v := by omega
  simpa only [e1, e2] using this
theorem or_3 {a v : Int} (h0 : 0 ≤ a) (h1 : a < 4) (h2 : 0 ≤ v) (h3 : v < 64) : Builtin.bitOr (a * 64) v = a * 64 + v := by
  have := or_fin3 ⟨a.toNat, by omega⟩ ⟨v.toNat, by omega⟩
  have e1 : ((a.toNat : Nat) : Int) = a := by omega
  have e2 : ((v.toNat : Nat) : Int) = v := by omega
  simpa only [e1, e2] using this
/-! b2a_base64, plainly -/
noncomputable def sg (k : Int) : Int := signs.getD k.toNat 0
theorem sg_in (k : Int) : 0 ≤ sg k ∧ sg k < 256 := KBw.getD_in (by decide +kernel)
noncomputable def b2aGo : List Int → List Int → Int → Int → List Int
  | [], out, lb, lc => if lb = 2 then out ++ [sg (lc % 4 * 16), 61, 61] else if lb = 4 then out ++ [sg (lc % 16 * 4), 61] else out
  | b :: r, out, lb, lc =>
    if lb = 0 then b2aGo r (out ++ [sg ((lc * 256 + b) % 65536 / 4 % 64)]) 2 ((lc * 256 + b) % 65536)
    else if lb = 2 then b2aGo r (out ++ [sg ((lc * 256 + b) % 65536 / 16 % 64)]) 4 ((lc * 256 + b) % 65536)
    else b2aGo r (out ++ [sg ((lc * 256 + b) % 65536 / 64 % 64), sg ((lc * 256 + b) % 65536 % 64)]) 0 ((lc * 256 + b) % 65536)
/-- the text of these octets -/
noncomputable def enc : List Int → List Int
  | [] => []
  | [a] => [sg (a / 4), sg (a % 4 * 16), 61, 61]
  | [a, b] => [sg (a / 4), sg (a % 4 * 16 + b / 16), sg (b % 16 * 4), 61]
  | a :: b :: c :: r => [sg (a / 4), sg (a % 4 * 16 + b / 16), sg (b % 16 * 4 + c / 64), sg (c % 64)] ++ enc r
theorem dm {a b p q r : Int} (hp : 0 < p) (hq : 0 < q) (hr : 0 < r) (h0 : 0 ≤ b) (h1 : b < p * q) : (a * (p * q) + b) / p % (r * q) = a % r * q + b / p := by
  have e1 : (a * (p * q) + b) / p = b / p + a * q := by
    rw [Int.add_comm, Int.mul_left_comm, Int.add_mul_ediv_left _ _ (Int.ne_of_gt hp)]
  have h2 : 0 ≤ b / p := Int.ediv_nonneg h0 (Int.le_of_lt hp)
  have h3 : b / p < q := Int.ediv_lt_of_lt_mul hp (Int.mul_comm p q ▸ h1)
  have e2 : a = a % r + r * (a / r) := (Int.emod_add_mul_ediv a r).symm
  have h4 : 0 ≤ a % r := Int.emod_nonneg _ (Int.ne_of_gt hr)
  have h5 : a % r + 1 ≤ r := Int.emod_lt_of_pos _ hr
  have h6 : (a % r + 1) * q ≤ r * q := Int.mul_le_mul_of_nonneg_right h5 (Int.le_of_lt hq)
  have e3 : b / p + a * q = a % r * q + b / p + (r * q) * (a / r) := by
    conv => lhs; rw [e2, Int.add_mul, Int.mul_right_comm]
    rw [← Int.add_assoc, Int.add_comm (b / p)]
  rw [e1, e3, Int.add_mul_emod_self_left]
  refine Int.emod_eq_of_lt (Int.add_nonneg (Int.mul_nonneg h4 (Int.le_of_lt hq)) h2) (Int.lt_of_lt_of_le ?_ h6)
  rw [Int.add_mul, Int.one_mul]
  exact Int.add_lt_add_left h3 _
theorem ml {u b : Int} (k m : Int) : (u * (k * m) + b) % m = b % m := by
  rw [Int.add_comm, ← Int.mul_assoc, Int.add_mul_emod_self_right]
section
variable {u a b c d : Int}
theorem lo16 (h : 0 ≤ b ∧ b < 256) : (u * 256 + b) % 65536 = u % 256 * 256 + b := by
  have := dm (a := u) (p := 1) (q := 256) (r := 256) (by decide) (by decide) (by decide) h.1 h.2
  rw [Int.ediv_one, Int.ediv_one] at this; exact this
theorem lo8 (h : 0 ≤ b ∧ b < 256) : (u * 256 + b) % 256 = b := (ml 1 256).trans (Int.emod_eq_of_lt h.1 h.2)
theorem hi6 (h : 0 ≤ a ∧ a < 256) : (u * 256 + a) / 4 % 64 = a / 4 := by
  have := dm (a := u) (p := 4) (q := 64) (r := 1) (by decide) (by decide) (by decide) h.1 h.2
  rw [Int.emod_one, Int.zero_mul, Int.zero_add] at this; exact this
theorem mi6 (hb : 0 ≤ b ∧ b < 256) : (a * 256 + b) / 16 % 64 = a % 4 * 16 + b / 16 :=
  dm (a := a) (p := 16) (q := 16) (r := 4) (by decide) (by decide) (by decide) hb.1 hb.2
theorem mi4 (hc : 0 ≤ c ∧ c < 256) : (b * 256 + c) / 64 % 64 = b % 16 * 4 + c / 64 :=
  dm (a := b) (p := 64) (q := 4) (r := 16) (by decide) (by decide) (by decide) hc.1 hc.2
theorem lo6 (b c : Int) : (b * 256 + c) % 64 = c % 64 := ml 4 64
theorem lo2 (u a : Int) : (u * 256 + a) % 4 = a % 4 := ml 64 4
theorem lo4 (u a : Int) : (u * 256 + a) % 16 = a % 16 := ml 16 16
theorem dq {n : Int} (hn : 0 < n) (h0 : 0 ≤ d) (h1 : d < n) : (u * n + d) / n = u := by
  rw [Int.add_comm, Int.add_mul_ediv_right _ _ (Int.ne_of_gt hn), Int.ediv_eq_zero_of_lt h0 h1, Int.zero_add]
end
theorem b2a_enc : ∀ (ks out : List Int) (lc : Int), (∀ n ∈ ks, 0 ≤ n ∧ n < 256) → b2aGo ks out 0 lc = out ++ enc ks
  | [], out, lc, _ => by simp [b2aGo, enc]
  | [a], out, lc, h => by
    have ha := h a (.head _)
    rw [b2aGo, if_pos rfl, b2aGo, if_pos rfl, lo16 ha, hi6 ha, lo2, List.append_assoc]; rfl
  | [a, b], out, lc, h => by
    have ha := h a (.head _)
    have hb := h b (.tail _ (.head _))
    rw [b2aGo, if_pos rfl, b2aGo, if_neg (by decide), if_pos rfl, b2aGo, if_neg (by decide), if_pos rfl, lo16 ha, hi6 ha, lo16 hb, lo8 ha, mi6 hb, lo4, List.append_assoc, List.append_assoc]; rfl
  | a :: b :: c :: r, out, lc, h => by
    have ha := h a (.head _)
    have hb := h b (.tail _ (.head _))
    have hc := h c (.tail _ (.tail _ (.head _)))
    rw [b2aGo, if_pos rfl, b2aGo, if_neg (by decide), if_pos rfl, b2aGo, if_neg (by decide), if_neg (by decide), lo16 ha, hi6 ha, lo16 hb, lo8 ha, mi6 hb, lo16 hc, lo8 hb, mi4 hc, lo6, b2a_enc r _ _ fun n hn => h n (.tail _ (.tail _ (.tail _ hn)))]
    simp only [List.append_assoc]; rfl
theorem nat_and_shift (a b k : Nat) (h : b < 2 ^ k) : (a * 2 ^ k) &&& b = 0 := by
  apply Nat.eq_of_testBit_eq
  intro i
  rw [Nat.testBit_and, Nat.zero_testBit]
  by_cases hi : i < k
  · rw [Nat.testBit_mul_two_pow]; simp [show ¬ k ≤ i by omega]
  · rw [Nat.testBit_lt_two_pow (Nat.lt_of_lt_of_le h (Nat.pow_le_pow_right (by decide) (by omega)))]; simp
theorem or_shift {a b : Int} (k : Nat) (ha : 0 ≤ a) (hb : 0 ≤ b) (h : b < 2 ^ k) : Builtin.bitOr (a * 2 ^ k) b = a * 2 ^ k + b := by
  rw [bitOr_and]
  have hp : (0 : Int) < 2 ^ k := kbt_pos k
  have h0 : 0 ≤ a * 2 ^ k := Int.mul_nonneg ha (by omega)
  have e : Builtin.bitAnd (a * 2 ^ k) b = 0 := by
    have hc : ((2 ^ k : Nat) : Int) = (2 : Int) ^ k := kbt_cast k
    have e1 : (a * 2 ^ k).toNat = a.toNat * 2 ^ k := by
      have : a * 2 ^ k = ((a.toNat * 2 ^ k : Nat) : Int) := by
        rw [Int.natCast_mul, hc, Int.toNat_of_nonneg ha]
      rw [this]; rfl
    have e2 : b.toNat < 2 ^ k := by
      have : (b.toNat : Int) < ((2 ^ k : Nat) : Int) := by rw [hc, Int.toNat_of_nonneg hb]; exact h
      exact Int.ofNat_lt.mp this
    show Spec.bitAnd _ _ = 0
    unfold Spec.bitAnd
    simp only [decide_eq_true h0, decide_eq_true hb]
    rw [e1, nat_and_shift _ _ _ e2]; rfl
  rw [e]; omega
noncomputable def A2V (r : Option (List Int)) (v : Value) : Prop := ∃ os b t, r = some os ∧ v = .bytes b t ∧ KBw.bInts b = os
theorem or_1w {a v : Int} (h0 : 0 ≤ a) (h1 : a < 64) (h2 : 0 ≤ v) (h3 : v < 64) : Builtin.bitOr (a * 2 ^ Int.toNat 2) (v.fdiv (2 ^ Int.toNat 4)) = a * 4 + v / 16 := by
  rw [show (2 : Int) ^ Int.toNat 2 = 4 from by decide, show (2 : Int) ^ Int.toNat 4 = 16 from by decide, Int.fdiv_eq_ediv_of_nonneg _ (by decide)]
  exact or_1 h0 h1 h2 h3
theorem or_2w {a v : Int} (h0 : 0 ≤ a) (h1 : a < 16) (h2 : 0 ≤ v) (h3 : v < 64) : Builtin.bitOr (a * 2 ^ Int.toNat 4) (v.fdiv (2 ^ Int.toNat 2)) = a * 16 + v / 4 := by
  rw [show (2 : Int) ^ Int.toNat 2 = 4 from by decide, show (2 : Int) ^ Int.toNat 4 = 16 from by decide, Int.fdiv_eq_ediv_of_nonneg _ (by decide)]
  exact or_2 h0 h1 h2 h3
theorem or_3w {a v : Int} (h0 : 0 ≤ a) (h1 : a < 4) (h2 : 0 ≤ v) (h3 : v < 64) : Builtin.bitOr (a * 2 ^ Int.toNat 6) v = a * 64 + v := by
  rw [show (2 : Int) ^ Int.toNat 6 = 64 from by decide]
  exact or_3 h0 h1 h2 h3
theorem raisedS_nil {base G : Heap} {l : List Env} {e t : Addr} {cls : Value} {vs : List Value} {news : List (Addr × Obj)} {h : Heap} (R : RaisedS base G l e cls t vs news h) : RaisedS base G l e cls t vs [] h := by
  obtain ⟨⟨B, h1, h2, _, h4, h5⟩, h6⟩ := R
  exact ⟨⟨B, h1, h2, (fun _ h => nomatch h), h4, h5⟩, h6⟩
section
variable {sb : Bool} {pre post out ks : List Int} {q l pads c : Int}
theorem w_pad1 (h : A2At sb pre out q l pads) (hi : KBa.In out) (h1 : out.length ≤ pre.length) (h2 : 0 ≤ q) (h3 : q ≤ 3) (h4 : 0 ≤ l) (h5 : l < 64) (h6 : 0 ≤ pads) (h7 : pads ≤ pre.length) (hc : c = 61) (g1 : 2 ≤ q) (g2 : q + (pads + 1) ≤ 4) : A2At sb (pre ++ [c]) (out) (q) (l) (pads + 1) ∧ KBa.In (out) ∧ (out).length ≤ (pre ++ [c]).length ∧ 0 ≤ (q : Int) ∧ (q : Int) ≤ 3 ∧ 0 ≤ (l : Int) ∧ (l : Int) < 64 ∧ 0 ≤ (pads + 1 : Int) ∧ (pads + 1 : Int) ≤ (pre ++ [c]).length := by
  refine ⟨a2_pad1 h hc g1 g2, hi, by simp only [List.length_append, List.length_cons, List.length_nil]; omega, by omega, by omega, by omega, by omega, by omega, by simp only [List.length_append, List.length_cons, List.length_nil]; omega⟩
theorem w_pad2 (h : A2At sb pre out q l pads) (hi : KBa.In out) (h1 : out.length ≤ pre.length) (h2 : 0 ≤ q) (h3 : q ≤ 3) (h4 : 0 ≤ l) (h5 : l < 64) (h6 : 0 ≤ pads) (h7 : pads ≤ pre.length) (hc : c = 61) (hs : sb = false) : A2At sb (pre ++ [c]) (out) (q) (l) (pads + 1) ∧ KBa.In (out) ∧ (out).length ≤ (pre ++ [c]).length ∧ 0 ≤ (q : Int) ∧ (q : Int) ≤ 3 ∧ 0 ≤ (l : Int) ∧ (l : Int) < 64 ∧ 0 ≤ (pads + 1 : Int) ∧ (pads + 1 : Int) ≤ (pre ++ [c]).length := by
  refine ⟨a2_pad2 h hc hs, hi, by simp only [List.length_append, List.length_cons, List.length_nil]; omega, by omega, by omega, by omega, by omega, by omega, by simp only [List.length_append, List.length_cons, List.length_nil]; omega⟩
theorem w_junk (h : A2At sb pre out q l pads) (hi : KBa.In out) (h1 : out.length ≤ pre.length) (h2 : 0 ≤ q) (h3 : q ≤ 3) (h4 : 0 ≤ l) (h5 : l < 64) (h6 : 0 ≤ pads) (h7 : pads ≤ pre.length) (hc : c ≠ 61) (hv : 64 ≤ b64val c) (hs : sb = false) : A2At sb (pre ++ [c]) (out) (q) (l) (pads) ∧ KBa.In (out) ∧ (out).length ≤ (pre ++ [c]).length ∧ 0 ≤ (q : Int) ∧ (q : Int) ≤ 3 ∧ 0 ≤ (l : Int) ∧ (l : Int) < 64 ∧ 0 ≤ (pads : Int) ∧ (pads : Int) ≤ (pre ++ [c]).length := by
  refine ⟨a2_junk h hc hv hs, hi, by simp only [List.length_append, List.length_cons, List.length_nil]; omega, by omega, by omega, by omega, by omega, by omega, by simp only [List.length_append, List.length_cons, List.length_nil]; omega⟩
theorem w_s0 (h : A2At sb pre out q l pads) (hi : KBa.In out) (h1 : out.length ≤ pre.length) (h2 : 0 ≤ q) (h3 : q ≤ 3) (h4 : 0 ≤ l) (h5 : l < 64) (h6 : 0 ≤ pads) (h7 : pads ≤ pre.length) (hc : c ≠ 61) (h0 : 0 ≤ c) (hv' : ¬ 64 ≤ b64val c) (hp : ¬ (pads ≠ 0 ∧ sb = true)) (hq : q = 0) : A2At sb (pre ++ [c]) (out) (1) (b64val c) (0) ∧ KBa.In (out) ∧ (out).length ≤ (pre ++ [c]).length ∧ 0 ≤ (1 : Int) ∧ (1 : Int) ≤ 3 ∧ 0 ≤ (b64val c : Int) ∧ (b64val c : Int) < 64 ∧ 0 ≤ (0 : Int) ∧ (0 : Int) ≤ (pre ++ [c]).length := by
  have hv9 := b64val_lo c h0
  have hv : b64val c < 64 := by omega
  refine ⟨a2_s0 h hc hv hp hq, hi, by simp only [List.length_append, List.length_cons, List.length_nil]; omega, by omega, by omega, by omega, by omega, by omega, by simp only [List.length_append, List.length_cons, List.length_nil]; omega⟩
theorem w_s1 (h : A2At sb pre out q l pads) (hi : KBa.In out) (h1 : out.length ≤ pre.length) (h2 : 0 ≤ q) (h3 : q ≤ 3) (h4 : 0 ≤ l) (h5 : l < 64) (h6 : 0 ≤ pads) (h7 : pads ≤ pre.length) (hc : c ≠ 61) (h0 : 0 ≤ c) (hv' : ¬ 64 ≤ b64val c) (hp : ¬ (pads ≠ 0 ∧ sb = true)) (hq : q = 1) : A2At sb (pre ++ [c]) (out ++ [Builtin.bitOr (l * 2 ^ Int.toNat 2) ((b64val c).fdiv (2 ^ Int.toNat 4))]) (2) (Builtin.bitAnd (b64val c) 15) (0) ∧ KBa.In (out ++ [Builtin.bitOr (l * 2 ^ Int.toNat 2) ((b64val c).fdiv (2 ^ Int.toNat 4))]) ∧ (out ++ [Builtin.bitOr (l * 2 ^ Int.toNat 2) ((b64val c).fdiv (2 ^ Int.toNat 4))]).length ≤ (pre ++ [c]).length ∧ 0 ≤ (2 : Int) ∧ (2 : Int) ≤ 3 ∧ 0 ≤ (Builtin.bitAnd (b64val c) 15 : Int) ∧ (Builtin.bitAnd (b64val c) 15 : Int) < 64 ∧ 0 ≤ (0 : Int) ∧ (0 : Int) ≤ (pre ++ [c]).length := by
  have hv9 := b64val_lo c h0
  have hv : b64val c < 64 := by omega
  rw [or_1w h4 h5 hv9 hv, bitAnd_m4]
  refine ⟨a2_s1 h hc h0 ⟨h4, h5⟩ hv hp hq rfl rfl, in_snoc hi (by omega), by simp only [List.length_append, List.length_cons, List.length_nil]; omega, by omega, by omega, by omega, by omega, by omega, by simp only [List.length_append, List.length_cons, List.length_nil]; omega⟩
theorem w_s2 (h : A2At sb pre out q l pads) (hi : KBa.In out) (h1 : out.length ≤ pre.length) (h2 : 0 ≤ q) (h3 : q ≤ 3) (h4 : 0 ≤ l) (h5 : l < 64) (h6 : 0 ≤ pads) (h7 : pads ≤ pre.length) (hc : c ≠ 61) (h0 : 0 ≤ c) (hv' : ¬ 64 ≤ b64val c) (hp : ¬ (pads ≠ 0 ∧ sb = true)) (hq : q = 2) : A2At sb (pre ++ [c]) (out ++ [Builtin.bitOr (l * 2 ^ Int.toNat 4) ((b64val c).fdiv (2 ^ Int.toNat 2))]) (3) (Builtin.bitAnd (b64val c) 3) (0) ∧ KBa.In (out ++ [Builtin.bitOr (l * 2 ^ Int.toNat 4) ((b64val c).fdiv (2 ^ Int.toNat 2))]) ∧ (out ++ [Builtin.bitOr (l * 2 ^ Int.toNat 4) ((b64val c).fdiv (2 ^ Int.toNat 2))]).length ≤ (pre ++ [c]).length ∧ 0 ≤ (3 : Int) ∧ (3 : Int) ≤ 3 ∧ 0 ≤ (Builtin.bitAnd (b64val c) 3 : Int) ∧ (Builtin.bitAnd (b64val c) 3 : Int) < 64 ∧ 0 ≤ (0 : Int) ∧ (0 : Int) ≤ (pre ++ [c]).length := by
  have hv9 := b64val_lo c h0
  have hv : b64val c < 64 := by omega
  have hl9 := h.2.2.1 hq
  rw [or_2w h4 hl9 hv9 hv, bitAnd_m2]
  refine ⟨a2_s2 h hc h0 h4 hv hp hq rfl rfl, in_snoc hi (by omega), by simp only [List.length_append, List.length_cons, List.length_nil]; omega, by omega, by omega, by omega, by omega, by omega, by simp only [List.length_append, List.length_cons, List.length_nil]; omega⟩
theorem w_s3 (h : A2At sb pre out q l pads) (hi : KBa.In out) (h1 : out.length ≤ pre.length) (h2 : 0 ≤ q) (h3 : q ≤ 3) (h4 : 0 ≤ l) (h5 : l < 64) (h6 : 0 ≤ pads) (h7 : pads ≤ pre.length) (hc : c ≠ 61) (h0 : 0 ≤ c) (hv' : ¬ 64 ≤ b64val c) (hp : ¬ (pads ≠ 0 ∧ sb = true)) (n0 : q ≠ 0) (n1 : q ≠ 1) (n2 : q ≠ 2) : A2At sb (pre ++ [c]) (out ++ [Builtin.bitOr (l * 2 ^ Int.toNat 6) (b64val c)]) (0) (0) (0) ∧ KBa.In (out ++ [Builtin.bitOr (l * 2 ^ Int.toNat 6) (b64val c)]) ∧ (out ++ [Builtin.bitOr (l * 2 ^ Int.toNat 6) (b64val c)]).length ≤ (pre ++ [c]).length ∧ 0 ≤ (0 : Int) ∧ (0 : Int) ≤ 3 ∧ 0 ≤ (0 : Int) ∧ (0 : Int) < 64 ∧ 0 ≤ (0 : Int) ∧ (0 : Int) ≤ (pre ++ [c]).length := by
  have hv9 := b64val_lo c h0
  have hv : b64val c < 64 := by omega
  have hl9 := h.2.2.2 (by omega)
  rw [or_3w h4 hl9 hv9 hv]
  refine ⟨a2_s3 h hc h0 h4 hv hp (by omega) rfl, in_snoc hi (by omega), by simp only [List.length_append, List.length_cons, List.length_nil]; omega, by omega, by omega, by omega, by omega, by omega, by simp only [List.length_append, List.length_cons, List.length_nil]; omega⟩
end
theorem msg_mod {prog : Program} {w : World} {A : Around} {E : Value → Shared → Prop} {s : Shared} {Q : Value → Shared → Prop} {k : Int} {t u : Tok} (hA : A.handled = none) (h0 : 0 ≤ k) (h1 : k < 1000) (h : ∀ v t' tk, Q (.str v t') { s with toks := tk }) :
    wpAny (model prog w) A (binaryOp .Mod (.str (Str.ofString "Invalid base64-encoded string: number of data characters (%d) cannot be 1 more than a multiple of 4") t) (.int k u)) Q E s := by
  (refine' KPc.mod_int ?kpcF ?kpcl ?kpch ?kpcm ?_; (case kpcF => kpc_eq); (case kpcl => omega); (case kpch => omega); (case kpcm => k_dflt kpc_run))
  intro _ _
  exact h _ _ _
theorem msg_len {n : Nat} (hn : n ≤ 600) : 0 ≤ (n : Int).fdiv 3 * 4 + 1 ∧ (n : Int).fdiv 3 * 4 + 1 < 1000 := by
  rw [Int.fdiv_eq_ediv_of_nonneg _ (by decide)]; omega
section
variable {sb : Bool} {ks out : List Int} {q l pads : Int} {t : Tok}
theorem a2_e4 (h : A2At sb ks out q l pads) (hq : q = 1) : a2bGo sb ks [] 0 0 0 = none := by rw [a2_last h, if_pos hq]
theorem a2_e5 (h : A2At sb ks out q l pads) (h0 : q ≠ 0) (hp : q + pads < 4) : a2bGo sb ks [] 0 0 0 = none := by
  rw [a2_last h]
  split
  · rfl
  · rw [if_pos ⟨h0, hp⟩]
theorem a2_ok0 (h : A2At sb ks out q l pads) (hi : KBa.In out) (hq : q = 0) : A2V (a2bGo sb ks [] 0 0 0) (.bytes (byteArr out) t) := by
  refine ⟨out, _, _, ?_, rfl, KBa.ints_make hi⟩
  rw [a2_last h, if_neg (by omega), if_neg (by omega)]
theorem a2_ok1 (h : A2At sb ks out q l pads) (hi : KBa.In out) (n1 : q ≠ 1) (hp : ¬ q + pads < 4) : A2V (a2bGo sb ks [] 0 0 0) (.bytes (byteArr out) t) := by
  refine ⟨out, _, _, ?_, rfl, KBa.ints_make hi⟩
  rw [a2_last h, if_neg n1, if_neg (by omega)]
end
section
variable {w : World} {p : Program} {loose : List Str} {mean : ExcName → Option Value} {mg mb : Str → Option Value} {dp un : Nat} {gd : Option (List Code)} {cn : Str} {cs : Scope} {a : Addr} {ccd : Value} {cl : List (Str × Addr)} {outer : List Env} {L : Addr}
    {g : Heap} {L' : Addr} {m : Str → Option Value} {s : Shared} {Q : Bool → Shared → Prop} {E : Value → Shared → Prop}
    {oc : Value} {od : Option Addr} {osl : Array (Option Value)} {name qual : Str} {params : Arguments} {body : List Stmt} {scope : Scope} {dV kV doc pm cdv ct : Value} {an : Option Addr}
    {q1 q2 q3 q4 q5 q6 q7 q8 q9 : Pos} {q pads : Int} {tq tp : Tok} {sb : Bool} {whole : Sem Value}
theorem a2b_room (ho : (hd.heap_39 w.params).lookup 78 = some ⟨oc, od, .func (fnOf name qual params body scope dV kV doc pm an cdv ct), osl⟩)
    (F : Fr g L' s.heap m) (X : (hd.heap_39 w.params).In g) (T : Top p loose mean mg mb g) (h1 : m "quad_pos" = some (.int q tq)) (h2 : m "pads" = some (.int pads tp)) (hq : 0 ≤ q ∧ q ≤ 3) (hp : 0 ≤ pads ∧ pads ≤ 1000)
    (ht : 2 ≤ q → q + pads ≤ 4 → ∀ tk, Q true { s with toks := tk }) (hf : ¬ (2 ≤ q ∧ q + pads ≤ 4) → ∀ tk, Q false { s with toks := tk }) :
    wpAny (model Challenge.rw_qh0109_01.row.prog w) ((ktrTop dp un gd cn cs L a ccd cl outer).deeper (envOf qual scope L' 78 cdv))
      (isTrue (.BoolOp .And [.Compare (.Name "quad_pos" q1) [.GtE] [.Constant (.int 2) 0 q2] q3, .Compare (.BinOp (.Name "quad_pos" q4) .Add (.Name "pads" q5) q6) [.LtE] [.Constant (.int 4) 0 q7] q8] q9) (envOf qual scope L' 78 cdv) whole) Q E s := by
  revert ho
  k_fill
  intro ho
  refine' look_use ho ?k6 ?_
  (case k6 => k_is)
  intro e
  cases e
  replace F := frTo F (map2 h1 h2)
  have N : News g L' s.heap [] := News.nil
  clear h1 h2
  k_with_none
  w_top off
  k_with "mine sides" => ((case kA => exact rfl); (case kF => exact rfl); (case kK => assumption); (case k6 => k_is); (case k7 => k_is); (case k8 => ktr_room); (case k9 => first | exact BindsTo.of_eq rfl | exact binds_K (by k_in) rfl (by k_is) rfl rfl rfl); (case c5 => decide); (case kB => exact locs rfl); (case c2 => exact rfl); (case c3 => exact rfl); (case c4 => exact rfl); k_whole; intro L' h' F' N' B' X' T'; (try dsimp only); (try k_lift B'); (try k_fold))
  k_with "call type:type" => ((with_reducible show wpAny _ _ (call _ [Value.bytes _ _]) _ _ _); refine call_type_of (Tx := "bytes") rfl (by decide +kernel) ?_)
  k_with "getMethod bytes" => (k_here; (with_reducible refine getm_tr ?_))
  k_with "getMethod type:bytes" => (k_here; k_dflt (refine' getm_mt ?k1 ?k2 ?k3 ?_; (case k1 => k_asm); (case k2 => k_asm); (case k3 => k_is); k_whole))
  k_with "call builtin:bytes.maketrans" => (k_here; k_dflt (refine' call_mt ?k1 ?_; (case k1 => first | rfl | (simp_all; done)); k_whole))
  k_with "call builtin:bytes.translate" => (k_here; k_dflt (refine' call_tr ?k1 ?k2 ?_; (case k1 => first | exact trTab_size _ _ | (simp_all; done)); (case k2 => first | omega | (simp_all; omega)); k_whole); intro t' k')
  k_with "call type:list" => (k_here; (with_reducible show wpAny _ _ (call (Value.type "list") [Value.bytes _ _]) _ _ _); k_dflt (refine' list_bytes_K ?k0 ?k1 ?k2 ?k3 ?_; (case k0 => rfl); (case k1 => k_asm); (case k2 => k_asm); (case k3 => first | decide | (simp_all; omega)); k_whole); intro l' h' tk' vs' c' F' N' l1 iX'; (try k_lt l1); (try k_sweep))
  k_with "mine useV" => ((case k1 => k_asm); (case k2 => k_asm); (case k3 => k_asm); (case k4 => k_asm); (case k5 => k_asm); (case k6 => first | exact rfl | assumption); (case k7 => first | exact True.intro | assumption); (case k8 => exact ⟨by ktr_room, by ktr_units⟩); k_whole)
  k_with "exec For Name Call cons nil" => (k_here; kst_src; (rename Fr _ _ _ _ => lF'); (with_unfolding_all refine' For_invVF lF' ?k1 ?k2 ?_; (case k1 => exact rfl); (case k2 => exact rfl); k_whole))
  k_with "exec For Name Name cons nil" => (k_here; kst_src; (rename Fr _ _ _ _ => lF'); (with_unfolding_all refine' For_invVF lF' ?k1 ?k2 ?_; (case k1 => exact rfl); (case k2 => exact rfl); k_whole))
  k_with "exec For Name Name cons nil" => (k_here; kstb_has; kstb_name; (rename Fr _ _ _ _ => lF'); (with_unfolding_all refine' For_invVF lF' ?k1 ?k2 ?_; (case k1 => exact rfl); (case k2 => exact rfl); k_whole))
  k_with "subscriptTail" => (k_here; (with_reducible show wpAny _ _ (subscriptTail _ _ (Value.bytes _ _) (Value.int _ _)) _ _ _); k_dflt (refine' KBw.item_K ?k1 ?k2 ?k3 ?k4 ?_; (case k1 => with_reducible assumption); (case k2 => simp only [List.length_cons, List.length_nil]; omega); (case k3 => omega); (case k4 => simp only [List.length_cons, List.length_nil]; omega); k_whole); intro _ _ kbaLo kbaHi)
  k_with "mine go" => repeat' (first | (k_unfold; (try dsimp only)) | walk1 | (dsimp only; walk1) | (leave1; (try dsimp only)) | fail "no step")
  k_with "storeName" => (k_here; (dsimp only); walk_at "storeName")
  k_with "call ref" => (k_here; (with_reducible show wpAny _ _ (call (Value.ref 109) _ _) _ _ _); k_dflt (refine' useL (signs_spec _) ?k1 ?k2 ?k3 ?k4 ?k5 ?k6 ?k7 ?k8 ?_; walk_at "mine useV"); intro l' vs' c' h' tk' F' N' ne' iX'; (try simp only [TLg.AllNe, and_true] at ne'); (try k_sweep))
  k_with "call ref" => (k_here; (with_reducible show wpAny _ _ (call (Value.ref 70) [Value.int _ _] _) _ _ _); k_dflt (refine' useV (val_spec _ _ _) ?k1 ?k2 ?k3 ?k4 ?k5 ?k6 ?k7 ?k8 ?_; walk_at "mine useV"); intro v' h' tk' F' N' hv'; obtain ⟨t', e'⟩ := hv'; subst e'; (try k_sweep))
  k_with "call ref" => (k_here; (with_reducible show wpAny _ _ (call (Value.ref 63) [Value.bool _] _) _ _ _); k_dflt (refine' useV (truth_spec _ _) ?k1 ?k2 ?k3 ?k4 ?k5 ?k6 ?k7 ?k8 ?_; walk_at "mine useV"); intro v' h' tk' F' N' hv'; subst hv'; (try k_sweep))
  k_with "call ref" => (k_here; (with_reducible show wpAny _ _ (call (Value.ref 56) [Value.bytes _ _] _) _ _ _); k_dflt (refine' useV (buffer_spec _ _ _) ?k1 ?k2 ?k3 ?k4 ?k5 ?k6 ?k7 ?k8 ?_; walk_at "mine useV"); intro v' h' tk' F' N' hv'; subst hv'; (try k_sweep))
  k_with "call ref" => (k_here; (with_reducible show wpAny _ _ (call (Value.ref 49) [Value.bytes _ _] _) _ _ _); k_dflt (refine' useV (ascii_spec _ _ _) ?k1 ?k2 ?k3 ?k4 ?k5 ?k6 ?k7 ?k8 ?_; walk_at "mine useV"); intro v' h' tk' F' N' hv'; subst hv'; (try k_sweep))
  k_with "call ref" => (k_here; (with_reducible show wpAny _ _ (call (Value.ref 29) [Value.bytes _ _] _) _ _ _); k_dflt (refine' useV (from_spec _ _ _) ?k1 ?k2 ?k3 ?k4 ?k5 ?k6 ?k7 ?k8 ?_; walk_at "mine useV"); intro v' h' tk' F' N' hv'; subst hv'; (try k_sweep))
  k_with "leaving ref" => k_dflt (refine' leave_raiseS ?k1 ?k0 ?k2 ?k3 ?_; (case k0 => assumption); (case k1 => assumption); (case k2 => assumption); (case k3 => k_asm); k_whole; intro h' t' R' RK' U')
  k_with "binaryOp Mod str int" => (k_here; k_dflt (refine' msg_mod ?k0 (And.left (msg_len ?k1)) (And.right (msg_len ?k2)) ?_; (case k0 => exact rfl); (case k1 => omega); (case k2 => omega); k_whole); intro v' t' k')
  walk_at "mine go"
  all_goals first
    | exact dec_q (R := fun b => Q b _) (fun h => ht (by assumption) h _) (fun h => hf (fun g => h g.2) _)
    | exact ht (by assumption) (by assumption) _
    | exact hf (fun h => absurd h.1 (by assumption)) _
    | exact hf (fun h => absurd h.2 (by assumption)) _
theorem a2b_behind (ho : (hd.heap_39 w.params).lookup 78 = some ⟨oc, od, .func (fnOf name qual params body scope dV kV doc pm an cdv ct), osl⟩)
    (F : Fr g L' s.heap m) (X : (hd.heap_39 w.params).In g) (T : Top p loose mean mg mb g) (h1 : m "strict_mode" = some (.bool sb)) (h2 : m "pads" = some (.int pads tp))
    (ht : pads ≠ 0 → sb = true → ∀ tk, Q true { s with toks := tk }) (hf : ¬ (pads ≠ 0 ∧ sb = true) → ∀ tk, Q false { s with toks := tk }) :
    wpAny (model Challenge.rw_qh0109_01.row.prog w) ((ktrTop dp un gd cn cs L a ccd cl outer).deeper (envOf qual scope L' 78 cdv))
      (isTrue (.BoolOp .And [.Name "pads" q1, .Name "strict_mode" q2] q9) (envOf qual scope L' 78 cdv) whole) Q E s := by
  revert ho
  k_fill
  intro ho
  refine' look_use ho ?k6 ?_
  (case k6 => k_is)
  intro e
  cases e
  replace F := frTo F (map2 h1 h2)
  have N : News g L' s.heap [] := News.nil
  clear h1 h2
  k_with_none
  w_top off
  k_with "mine sides" => ((case kA => exact rfl); (case kF => exact rfl); (case kK => assumption); (case k6 => k_is); (case k7 => k_is); (case k8 => ktr_room); (case k9 => first | exact BindsTo.of_eq rfl | exact binds_K (by k_in) rfl (by k_is) rfl rfl rfl); (case c5 => decide); (case kB => exact locs rfl); (case c2 => exact rfl); (case c3 => exact rfl); (case c4 => exact rfl); k_whole; intro L' h' F' N' B' X' T'; (try dsimp only); (try k_lift B'); (try k_fold))
  k_with "call type:type" => ((with_reducible show wpAny _ _ (call _ [Value.bytes _ _]) _ _ _); refine call_type_of (Tx := "bytes") rfl (by decide +kernel) ?_)
  k_with "getMethod bytes" => (k_here; (with_reducible refine getm_tr ?_))
  k_with "getMethod type:bytes" => (k_here; k_dflt (refine' getm_mt ?k1 ?k2 ?k3 ?_; (case k1 => k_asm); (case k2 => k_asm); (case k3 => k_is); k_whole))
  k_with "call builtin:bytes.maketrans" => (k_here; k_dflt (refine' call_mt ?k1 ?_; (case k1 => first | rfl | (simp_all; done)); k_whole))
  k_with "call builtin:bytes.translate" => (k_here; k_dflt (refine' call_tr ?k1 ?k2 ?_; (case k1 => first | exact trTab_size _ _ | (simp_all; done)); (case k2 => first | omega | (simp_all; omega)); k_whole); intro t' k')
  k_with "call type:list" => (k_here; (with_reducible show wpAny _ _ (call (Value.type "list") [Value.bytes _ _]) _ _ _); k_dflt (refine' list_bytes_K ?k0 ?k1 ?k2 ?k3 ?_; (case k0 => rfl); (case k1 => k_asm); (case k2 => k_asm); (case k3 => first | decide | (simp_all; omega)); k_whole); intro l' h' tk' vs' c' F' N' l1 iX'; (try k_lt l1); (try k_sweep))
  k_with "mine useV" => ((case k1 => k_asm); (case k2 => k_asm); (case k3 => k_asm); (case k4 => k_asm); (case k5 => k_asm); (case k6 => first | exact rfl | assumption); (case k7 => first | exact True.intro | assumption); (case k8 => exact ⟨by ktr_room, by ktr_units⟩); k_whole)
  k_with "exec For Name Call cons nil" => (k_here; kst_src; (rename Fr _ _ _ _ => lF'); (with_unfolding_all refine' For_invVF lF' ?k1 ?k2 ?_; (case k1 => exact rfl); (case k2 => exact rfl); k_whole))
  k_with "exec For Name Name cons nil" => (k_here; kst_src; (rename Fr _ _ _ _ => lF'); (with_unfolding_all refine' For_invVF lF' ?k1 ?k2 ?_; (case k1 => exact rfl); (case k2 => exact rfl); k_whole))
  k_with "exec For Name Name cons nil" => (k_here; kstb_has; kstb_name; (rename Fr _ _ _ _ => lF'); (with_unfolding_all refine' For_invVF lF' ?k1 ?k2 ?_; (case k1 => exact rfl); (case k2 => exact rfl); k_whole))
  k_with "subscriptTail" => (k_here; (with_reducible show wpAny _ _ (subscriptTail _ _ (Value.bytes _ _) (Value.int _ _)) _ _ _); k_dflt (refine' KBw.item_K ?k1 ?k2 ?k3 ?k4 ?_; (case k1 => with_reducible assumption); (case k2 => simp only [List.length_cons, List.length_nil]; omega); (case k3 => omega); (case k4 => simp only [List.length_cons, List.length_nil]; omega); k_whole); intro _ _ kbaLo kbaHi)
  k_with "mine go" => repeat' (first | (k_unfold; (try dsimp only)) | walk1 | (dsimp only; walk1) | (leave1; (try dsimp only)) | fail "no step")
  k_with "storeName" => (k_here; (dsimp only); walk_at "storeName")
  k_with "call ref" => (k_here; (with_reducible show wpAny _ _ (call (Value.ref 109) _ _) _ _ _); k_dflt (refine' useL (signs_spec _) ?k1 ?k2 ?k3 ?k4 ?k5 ?k6 ?k7 ?k8 ?_; walk_at "mine useV"); intro l' vs' c' h' tk' F' N' ne' iX'; (try simp only [TLg.AllNe, and_true] at ne'); (try k_sweep))
  k_with "call ref" => (k_here; (with_reducible show wpAny _ _ (call (Value.ref 70) [Value.int _ _] _) _ _ _); k_dflt (refine' useV (val_spec _ _ _) ?k1 ?k2 ?k3 ?k4 ?k5 ?k6 ?k7 ?k8 ?_; walk_at "mine useV"); intro v' h' tk' F' N' hv'; obtain ⟨t', e'⟩ := hv'; subst e'; (try k_sweep))
  k_with "call ref" => (k_here; (with_reducible show wpAny _ _ (call (Value.ref 63) [Value.bool _] _) _ _ _); k_dflt (refine' useV (truth_spec _ _) ?k1 ?k2 ?k3 ?k4 ?k5 ?k6 ?k7 ?k8 ?_; walk_at "mine useV"); intro v' h' tk' F' N' hv'; subst hv'; (try k_sweep))
  k_with "call ref" => (k_here; (with_reducible show wpAny _ _ (call (Value.ref 56) [Value.bytes _ _] _) _ _ _); k_dflt (refine' useV (buffer_spec _ _ _) ?k1 ?k2 ?k3 ?k4 ?k5 ?k6 ?k7 ?k8 ?_; walk_at "mine useV"); intro v' h' tk' F' N' hv'; subst hv'; (try k_sweep))
  k_with "call ref" => (k_here; (with_reducible show wpAny _ _ (call (Value.ref 49) [Value.bytes _ _] _) _ _ _); k_dflt (refine' useV (ascii_spec _ _ _) ?k1 ?k2 ?k3 ?k4 ?k5 ?k6 ?k7 ?k8 ?_; walk_at "mine useV"); intro v' h' tk' F' N' hv'; subst hv'; (try k_sweep))
  k_with "call ref" => (k_here; (with_reducible show wpAny _ _ (call (Value.ref 29) [Value.bytes _ _] _) _ _ _); k_dflt (refine' useV (from_spec _ _ _) ?k1 ?k2 ?k3 ?k4 ?k5 ?k6 ?k7 ?k8 ?_; walk_at "mine useV"); intro v' h' tk' F' N' hv'; subst hv'; (try k_sweep))
  k_with "leaving ref" => k_dflt (refine' leave_raiseS ?k1 ?k0 ?k2 ?k3 ?_; (case k0 => assumption); (case k1 => assumption); (case k2 => assumption); (case k3 => k_asm); k_whole; intro h' t' R' RK' U')
  k_with "binaryOp Mod str int" => (k_here; k_dflt (refine' msg_mod ?k0 (And.left (msg_len ?k1)) (And.right (msg_len ?k2)) ?_; (case k0 => exact rfl); (case k1 => omega); (case k2 => omega); k_whole); intro v' t' k')
  walk_at "mine go"
  all_goals first
    | exact ht (by assumption) (by assumption) s.toks
    | exact hf (fun h => absurd (h.2.symm.trans (by assumption)) (by decide)) s.toks
    | exact hf (fun h => h.1 (by assumption)) s.toks
end
theorem a2b_spec (w : World) (sb : Bool) (b : Array UInt8) (tb : Tok) (ks : List Int) (hb : KBw.bInts b = ks) (hn : ks.length ≤ 100) :
    CallsE w 78 [.bytes b tb] [("strict_mode", .bool sb)] 6 (A2V (a2bGo sb ks [] 0 0 0)) (a2bGo sb ks [] 0 0 0 = none) := by
  unfold CallsE
  k_fill
  intro p loose mean mg mb dp un gd cn cs a ccd cl outer A₀ base h₀ L m s Q E B F X T hk hR hret herr
  refine wpAny_call ?_
  k_with_none
  w_top off
  k_with "mine sides" => ((case kA => exact rfl); (case kF => exact rfl); (case kK => assumption); (case k6 => k_is); (case k7 => k_is); (case k8 => ktr_room); (case k9 => first | exact BindsTo.of_eq rfl | exact binds_K (by k_in) rfl (by k_is) rfl rfl rfl); (case c5 => decide); (case kB => exact locs rfl); (case c2 => exact rfl); (case c3 => exact rfl); (case c4 => exact rfl); k_whole; intro L' h' F' N' B' X' T'; (try dsimp only); (try k_lift B'); (try k_fold))
  k_with "call type:type" => ((with_reducible show wpAny _ _ (call _ [Value.bytes _ _]) _ _ _); refine call_type_of (Tx := "bytes") rfl (by decide +kernel) ?_)
  k_with "getMethod bytes" => (k_here; (with_reducible refine getm_tr ?_))
  k_with "getMethod type:bytes" => (k_here; k_dflt (refine' getm_mt ?k1 ?k2 ?k3 ?_; (case k1 => k_asm); (case k2 => k_asm); (case k3 => k_is); k_whole))
  k_with "call builtin:bytes.maketrans" => (k_here; k_dflt (refine' call_mt ?k1 ?_; (case k1 => first | rfl | (simp_all; done)); k_whole))
  k_with "call builtin:bytes.translate" => (k_here; k_dflt (refine' call_tr ?k1 ?k2 ?_; (case k1 => first | exact trTab_size _ _ | (simp_all; done)); (case k2 => first | omega | (simp_all; omega)); k_whole); intro t' k')
  k_with "call type:list" => (k_here; (with_reducible show wpAny _ _ (call (Value.type "list") [Value.bytes _ _]) _ _ _); k_dflt (refine' list_bytes_K ?k0 ?k1 ?k2 ?k3 ?_; (case k0 => rfl); (case k1 => k_asm); (case k2 => k_asm); (case k3 => first | decide | (simp_all; omega)); k_whole); intro l' h' tk' vs' c' F' N' l1 iX'; (try k_lt l1); (try k_sweep))
  k_with "mine useV" => ((case k1 => k_asm); (case k2 => k_asm); (case k3 => k_asm); (case k4 => k_asm); (case k5 => k_asm); (case k6 => first | exact rfl | assumption); (case k7 => first | exact True.intro | assumption); (case k8 => exact ⟨by ktr_room, by ktr_units⟩); k_whole)
  k_with "exec For Name Call cons nil" => (k_here; kst_src; (rename Fr _ _ _ _ => lF'); (with_unfolding_all refine' For_invVF lF' ?k1 ?k2 ?_; (case k1 => exact rfl); (case k2 => exact rfl); k_whole))
  k_with "exec For Name Name cons nil" => (k_here; kst_src; (rename Fr _ _ _ _ => lF'); (with_unfolding_all refine' For_invVF lF' ?k1 ?k2 ?_; (case k1 => exact rfl); (case k2 => exact rfl); k_whole))
  k_with "exec For Name Name cons nil" => (k_here; kstb_has; kstb_name; (rename Fr _ _ _ _ => lF'); (with_unfolding_all refine' For_invVF lF' ?k1 ?k2 ?_; (case k1 => exact rfl); (case k2 => exact rfl); k_whole))
  k_with "subscriptTail" => (k_here; (with_reducible show wpAny _ _ (subscriptTail _ _ (Value.bytes _ _) (Value.int _ _)) _ _ _); k_dflt (refine' KBw.item_K ?k1 ?k2 ?k3 ?k4 ?_; (case k1 => with_reducible assumption); (case k2 => simp only [List.length_cons, List.length_nil]; omega); (case k3 => omega); (case k4 => simp only [List.length_cons, List.length_nil]; omega); k_whole); intro _ _ kbaLo kbaHi)
  k_with "mine go" => repeat' (first | (k_unfold; (try dsimp only)) | walk1 | (dsimp only; walk1) | (leave1; (try dsimp only)) | fail "no step")
  k_with "storeName" => (k_here; (dsimp only); walk_at "storeName")
  k_with "call ref" => (k_here; (with_reducible show wpAny _ _ (call (Value.ref 109) _ _) _ _ _); k_dflt (refine' useL (signs_spec _) ?k1 ?k2 ?k3 ?k4 ?k5 ?k6 ?k7 ?k8 ?_; walk_at "mine useV"); intro l' vs' c' h' tk' F' N' ne' iX'; (try simp only [TLg.AllNe, and_true] at ne'); (try k_sweep))
  k_with "call ref" => (k_here; (with_reducible show wpAny _ _ (call (Value.ref 70) [Value.int _ _] _) _ _ _); k_dflt (refine' useV (val_spec _ _ _) ?k1 ?k2 ?k3 ?k4 ?k5 ?k6 ?k7 ?k8 ?_; walk_at "mine useV"); intro v' h' tk' F' N' hv'; obtain ⟨t', e'⟩ := hv'; subst e'; (try k_sweep))
  k_with "call ref" => (k_here; (with_reducible show wpAny _ _ (call (Value.ref 63) [Value.bool _] _) _ _ _); k_dflt (refine' useV (truth_spec _ _) ?k1 ?k2 ?k3 ?k4 ?k5 ?k6 ?k7 ?k8 ?_; walk_at "mine useV"); intro v' h' tk' F' N' hv'; subst hv'; (try k_sweep))
  k_with "call ref" => (k_here; (with_reducible show wpAny _ _ (call (Value.ref 56) [Value.bytes _ _] _) _ _ _); k_dflt (refine' useV (buffer_spec _ _ _) ?k1 ?k2 ?k3 ?k4 ?k5 ?k6 ?k7 ?k8 ?_; walk_at "mine useV"); intro v' h' tk' F' N' hv'; subst hv'; (try k_sweep))
  k_with "call ref" => (k_here; (with_reducible show wpAny _ _ (call (Value.ref 49) [Value.bytes _ _] _) _ _ _); k_dflt (refine' useV (ascii_spec _ _ _) ?k1 ?k2 ?k3 ?k4 ?k5 ?k6 ?k7 ?k8 ?_; walk_at "mine useV"); intro v' h' tk' F' N' hv'; subst hv'; (try k_sweep))
  k_with "call ref" => (k_here; (with_reducible show wpAny _ _ (call (Value.ref 29) [Value.bytes _ _] _) _ _ _); k_dflt (refine' useV (from_spec _ _ _) ?k1 ?k2 ?k3 ?k4 ?k5 ?k6 ?k7 ?k8 ?_; walk_at "mine useV"); intro v' h' tk' F' N' hv'; subst hv'; (try k_sweep))
  k_with "leaving ref" => k_dflt (refine' leave_raiseS ?k1 ?k0 ?k2 ?k3 ?_; (case k0 => assumption); (case k1 => assumption); (case k2 => assumption); (case k3 => k_asm); k_whole; intro h' t' R' RK' U')
  k_with "binaryOp Mod str int" => (k_here; k_dflt (refine' msg_mod ?k0 (And.left (msg_len ?k1)) (And.right (msg_len ?k2)) ?_; (case k0 => exact rfl); (case k1 => omega); (case k2 => omega); k_whole); intro v' t' k')
  k_with "isTrue BoolOp" => (k_here; (with_reducible show wpAny _ _ (isTrue (Expr.BoolOp BoolOp.And [Expr.Compare (Expr.Name (Str.ofString "quad_pos") _) _ _ _, _] _) _ _) _ _ _); k_dflt (refine' a2b_room ?zvo ?zvF ?zvX ?zvT ?zv1 ?zv2 ?zvq ?zvp ?_ ?_; (case zvo => k_is); (case zvF => k_asm); (case zvX => k_asm); (case zvT => k_asm); (case zv1 => rfl); (case zv2 => rfl); (case zvq => exact ⟨by omega, by omega⟩); (case zvp => exact ⟨by omega, by omega⟩); (focus (intro hv9 hv8 tk9; (try dsimp only))); rotate_left; (focus (intro hv9 tk9; (try dsimp only))); rotate_left))
  k_with "isTrue BoolOp" => (k_here; (with_reducible show wpAny _ _ (isTrue (Expr.BoolOp BoolOp.And [Expr.Name (Str.ofString "pads") _, _] _) _ _) _ _ _); k_dflt (refine' a2b_behind ?zvo ?zvF ?zvX ?zvT ?zv1 ?zv2 ?_ ?_; (case zvo => k_is); (case zvF => k_asm); (case zvX => k_asm); (case zvT => k_asm); (case zv1 => rfl); (case zv2 => rfl); (focus (intro hv9 hv8 tk9; (try dsimp only))); rotate_left; (focus (intro hv9 tk9; (try dsimp only))); rotate_left))
  k_dflt (refine' enterS (binds := [("data", .bytes b tb), ("strict_mode", .bool sb)]) B F X T ?kA ?kF ?kK ?k6 ?k7 ?k8 ?k9 ?kB ?_ ?c2 ?c3 ?c4 ?c5; walk_at "mine sides")
  k_with "pyIter bytes" => k_dflt (((have hb9 : KBw.bInts b = ks := hb); k_state (fun pre out q l pads i => A2At sb pre out q l pads ∧ KBa.In out ∧ out.length ≤ pre.length ∧ 0 ≤ q ∧ q ≤ 3 ∧ 0 ≤ l ∧ l < 64 ∧ 0 ≤ pads ∧ pads ≤ pre.length) "out" "quad_pos" "leftchar" "pads" "i"))
  k_with "state" => first
    | exact ⟨a2_nil, (fun _ h => nomatch h), by decide, by decide, by decide, by decide, by decide, by decide, by decide⟩
    | with_reducible exact w_pad1 (by assumption) (by assumption) (by assumption) (by assumption) (by assumption) (by assumption) (by assumption) (by assumption) (by assumption) (by assumption) (by assumption) (by assumption)
    | with_reducible exact w_pad2 (by assumption) (by assumption) (by assumption) (by assumption) (by assumption) (by assumption) (by assumption) (by assumption) (by assumption) (by assumption) (by assumption)
    | with_reducible exact w_junk (by assumption) (by assumption) (by assumption) (by assumption) (by assumption) (by assumption) (by assumption) (by assumption) (by assumption) (by assumption) (by assumption) (by assumption)
    | with_reducible exact w_s0 (by assumption) (by assumption) (by assumption) (by assumption) (by assumption) (by assumption) (by assumption) (by assumption) (by assumption) (by assumption) (by assumption) (by assumption) (by assumption) (by assumption)
    | with_reducible exact w_s1 (by assumption) (by assumption) (by assumption) (by assumption) (by assumption) (by assumption) (by assumption) (by assumption) (by assumption) (by assumption) (by assumption) (by assumption) (by assumption) (by assumption)
    | with_reducible exact w_s2 (by assumption) (by assumption) (by assumption) (by assumption) (by assumption) (by assumption) (by assumption) (by assumption) (by assumption) (by assumption) (by assumption) (by assumption) (by assumption) (by assumption)
    | with_reducible exact w_s3 (by assumption) (by assumption) (by assumption) (by assumption) (by assumption) (by assumption) (by assumption) (by assumption) (by assumption) (by assumption) (by assumption) (by assumption) (by assumption) (by assumption) (by assumption) (by assumption)
  walk_at "mine go"
  all_goals first
    | (refine herr _ _ _ _ _ ?none (raisedS_nil (by assumption)) (by assumption); (case none => first
        | exact a2e_pad (by assumption) (by assumption) (by assumption) (by assumption) (by assumption)
        | exact a2e_junk (by assumption) (by assumption) (by assumption) (by assumption) (by assumption)
        | exact a2e_behind (by assumption) (by assumption) (by assumption) (by omega) (by assumption) (by assumption)
        | exact a2_e4 (by assumption) (by assumption)
        | exact a2_e5 (by assumption) (by assumption) (by assumption)))
    | (refine hret _ _ _ (Fr.keep (by assumption)) ?_; first
        | exact a2_ok0 (by assumption) (by assumption) (by assumption)
        | exact a2_ok1 (by assumption) (by assumption) (by assumption) (by assumption))
noncomputable def B2At (pre out : List Int) (lb lc : Int) : Prop := (∀ post, b2aGo (pre ++ post) [] 0 0 = b2aGo post out lb lc) ∧ ∀ n ∈ out, 0 ≤ n ∧ n < 256
theorem b2_nil : B2At [] [] 0 0 := ⟨fun _ => rfl, fun _ h => nomatch h⟩
theorem and63 (x : Int) : 0 ≤ Builtin.bitAnd x 63 ∧ Builtin.bitAnd x 63 < 64 := by rw [bitAnd_m6]; omega
theorem c_eq {lc k : Int} (h0 : 0 ≤ lc) (h1 : 0 ≤ k) (h2 : k < 256) : Builtin.bitAnd (Builtin.bitOr (lc * 2 ^ Int.toNat 8) k) 65535 = (lc * 256 + k) % 65536 := by
  have e := or_shift (a := lc) (b := k) 8 h0 h1 (by omega)
  rw [show Int.toNat 8 = 8 from rfl, e]
  exact kbt_mask (lc * 2 ^ 8 + k) 16
theorem item_sg (i : Int) : (((alphabet.toList.getD i.toNat 0).toNat : Nat) : Int) = sg i := by
  rw [KBw.getD_ints]
  show (KBw.bInts alphabet).getD i.toNat 0 = _
  rw [signs_eq]; rfl
section
variable {pre out : List Int} {lc k x y c : Int}
theorem b2_0 (h : B2At pre out 0 lc) (hc : c = (lc * 256 + k) % 65536) (hx : x = sg (c / 4 % 64)) : B2At (pre ++ [k]) (out ++ [x]) 2 c := by
  subst hx hc
  refine ⟨fun post => ?_, fun n hn => ?_⟩
  · rw [List.append_assoc, h.1]; show b2aGo (k :: post) out 0 lc = _; rw [b2aGo, if_pos rfl]
  · rcases List.mem_append.mp hn with hn | hn
    · exact h.2 n hn
    · rw [List.mem_singleton.mp hn]; exact sg_in _
theorem b2_2 (h : B2At pre out 2 lc) (hc : c = (lc * 256 + k) % 65536) (hx : x = sg (c / 16 % 64)) : B2At (pre ++ [k]) (out ++ [x]) 4 c := by
  subst hx hc
  refine ⟨fun post => ?_, fun n hn => ?_⟩
  · rw [List.append_assoc, h.1]; show b2aGo (k :: post) out 2 lc = _; rw [b2aGo, if_neg (by decide), if_pos rfl]
  · rcases List.mem_append.mp hn with hn | hn
    · exact h.2 n hn
    · rw [List.mem_singleton.mp hn]; exact sg_in _
theorem b2_4 (h : B2At pre out 4 lc) (hc : c = (lc * 256 + k) % 65536) (hx : x = sg (c / 64 % 64)) (hy : y = sg (c % 64)) : B2At (pre ++ [k]) (out ++ [x] ++ [y]) 0 c := by
  subst hx hy hc
  refine ⟨fun post => ?_, fun n hn => ?_⟩
  · rw [List.append_assoc, h.1]; show b2aGo (k :: post) out 4 lc = _; rw [b2aGo, if_neg (by decide), if_neg (by decide), List.append_assoc]; rfl
  · rcases List.mem_append.mp hn with hn | hn
    · rcases List.mem_append.mp hn with hn | hn
      · exact h.2 n hn
      · rw [List.mem_singleton.mp hn]; exact sg_in _
    · rw [List.mem_singleton.mp hn]; exact sg_in _
end
theorem sg_at {c : Int} (d : Nat) (h : 0 ≤ c) : (((alphabet.toList.getD (Builtin.bitAnd (c.fdiv (2 ^ d)) 63).toNat 0).toNat : Nat) : Int) = sg (c / 2 ^ d % 64) := by
  rw [item_sg, bitAnd_m6, Int.fdiv_eq_ediv_of_nonneg _ (Int.le_of_lt (kbt_pos d))]
theorem sg_2 {c : Int} (h : 0 ≤ c) : (((alphabet.toList.getD (Builtin.bitAnd (c.fdiv (2 ^ (0 + 8 - 6 : Int).toNat)) 63).toNat 0).toNat : Nat) : Int) = sg (c / 4 % 64) := sg_at 2 h
theorem sg_4 {c : Int} (h : 0 ≤ c) : (((alphabet.toList.getD (Builtin.bitAnd (c.fdiv (2 ^ (2 + 8 - 6 : Int).toNat)) 63).toNat 0).toNat : Nat) : Int) = sg (c / 16 % 64) := sg_at 4 h
theorem sg_6 {c : Int} (h : 0 ≤ c) : (((alphabet.toList.getD (Builtin.bitAnd (c.fdiv (2 ^ (4 + 8 - 6 : Int).toNat)) 63).toNat 0).toNat : Nat) : Int) = sg (c / 64 % 64) := sg_at 6 h
theorem sg_0 {c : Int} (h : 0 ≤ c) : (((alphabet.toList.getD (Builtin.bitAnd (c.fdiv (2 ^ (4 + 8 - 6 - 6 : Int).toNat)) 63).toNat 0).toNat : Nat) : Int) = sg (c % 64) := by
  have e := sg_at (c := c) 0 h
  rw [show (2 : Int) ^ 0 = 1 from by decide, Int.ediv_one] at e
  exact e
theorem c_lo {lc k : Int} (h0 : 0 ≤ lc) (h1 : 0 ≤ k) (h2 : k < 256) : 0 ≤ Builtin.bitAnd (Builtin.bitOr (lc * 2 ^ Int.toNat 8) k) 65535 ∧ Builtin.bitAnd (Builtin.bitOr (lc * 2 ^ Int.toNat 8) k) 65535 < 65536 := by
  rw [c_eq h0 h1 h2]; omega
theorem lshift_4 {prog : Program} {w : World} {A : Around} {E : Value → Shared → Prop} {s : Shared} {Q : Value → Shared → Prop} {a : Int} {t u : Tok} (ha : a.natAbs < 2 ^ 64) (h : Q (.int (a * 16) s.toks) { s with toks := s.toks + 1 }) :
    wpAny (model prog w) A (binaryOp .LShift (.int a t) (.int 4 u)) Q E s := lshift_int_small (by decide) (by decide) ha h
theorem lshift_2 {prog : Program} {w : World} {A : Around} {E : Value → Shared → Prop} {s : Shared} {Q : Value → Shared → Prop} {a : Int} {t u : Tok} (ha : a.natAbs < 2 ^ 64) (h : Q (.int (a * 4) s.toks) { s with toks := s.toks + 1 }) :
    wpAny (model prog w) A (binaryOp .LShift (.int a t) (.int 2 u)) Q E s := lshift_int_small (by decide) (by decide) ha h
theorem and_lit {prog : Program} {w : World} {A : Around} {E : Value → Shared → Prop} {s : Shared} {Q : Value → Shared → Prop} {a b c : Int} {t u : Tok} (hc : Builtin.bitAnd a b = c) (h : Q (.int c s.toks) { s with toks := s.toks + 1 }) :
    wpAny (model prog w) A (binaryOp .BitAnd (.int a t) (.int b u)) Q E s := and_int (by rw [hc]; exact h)
theorem b2_last {ks out : List Int} {lb lc : Int} (h : B2At ks out lb lc) : b2aGo ks [] 0 0 = if lb = 2 then out ++ [sg (lc % 4 * 16), 61, 61] else if lb = 4 then out ++ [sg (lc % 16 * 4), 61] else out := by
  have e := h.1 []
  rw [List.append_nil] at e
  rw [e]; rfl
section
variable {ks out : List Int} {lb lc x y z : Int} {c : Array UInt8}
theorem b2_size {ns : List Int} (h : ns.length ≤ 1000) : (byteArr ns).size ≤ 1000 := by rw [byteArr_size]; exact h
theorem b2_end2 (h : B2At ks out lb lc) (e : lb = 2) (hi : KBa.In (out ++ [(((alphabet.toList.getD (lc % 4 * 16).toNat 0).toNat : Nat) : Int)] ++ [61] ++ [61])) (hl : out.length ≤ 2 * ks.length) (hn : ks.length ≤ 100) : KBw.bInts (byteArr (out ++ [(((alphabet.toList.getD (lc % 4 * 16).toNat 0).toNat : Nat) : Int)] ++ [61] ++ [61])) = b2aGo ks [] 0 0 ∧ (byteArr (out ++ [(((alphabet.toList.getD (lc % 4 * 16).toNat 0).toNat : Nat) : Int)] ++ [61] ++ [61])).size ≤ 1000 := by
  refine ⟨?_, b2_size (by simp only [List.length_append, List.length_cons, List.length_nil]; omega)⟩
  rw [KBa.ints_make hi, b2_last h, if_pos e, item_sg, List.append_assoc, List.append_assoc]; rfl
theorem b2_end4 (h : B2At ks out lb lc) (e : lb = 4) (hi : KBa.In (out ++ [(((alphabet.toList.getD (lc % 16 * 4).toNat 0).toNat : Nat) : Int)] ++ [61])) (hl : out.length ≤ 2 * ks.length) (hn : ks.length ≤ 100) : KBw.bInts (byteArr (out ++ [(((alphabet.toList.getD (lc % 16 * 4).toNat 0).toNat : Nat) : Int)] ++ [61])) = b2aGo ks [] 0 0 ∧ (byteArr (out ++ [(((alphabet.toList.getD (lc % 16 * 4).toNat 0).toNat : Nat) : Int)] ++ [61])).size ≤ 1000 := by
  refine ⟨?_, b2_size (by simp only [List.length_append, List.length_cons, List.length_nil]; omega)⟩
  rw [KBa.ints_make hi, b2_last h, if_neg (by omega), if_pos e, item_sg, List.append_assoc]; rfl
theorem b2_end0 (h : B2At ks out lb lc) (e2 : lb ≠ 2) (e : lb ≠ 4) (hi : KBa.In out) (hl : out.length ≤ 2 * ks.length) (hn : ks.length ≤ 100) : KBw.bInts (byteArr out) = b2aGo ks [] 0 0 ∧ (byteArr out).size ≤ 1000 := by
  refine ⟨?_, b2_size (by omega)⟩
  rw [KBa.ints_make hi, b2_last h, if_neg e2, if_neg e]
end
theorem b2a_spec (w : World) (b : Array UInt8) (tb : Tok) (ks : List Int) (hb : KBw.bInts b = ks) (hn : ks.length ≤ 100) :
    Calls w 86 [.bytes b tb] [("newline", .bool false)] 6 (fun _ => True) (fun _ _ v => ∃ c t, v = .bytes c t ∧ KBw.bInts c = b2aGo ks [] 0 0 ∧ c.size ≤ 1000) := by
  unfold Calls
  k_fill
  intro p loose mean mg mb dp un gd cn cs a ccd cl outer A₀ base h₀ L m s Q E B F X T hk hpre hR hret
  refine wpAny_call ?_
  k_with_none
  w_top off
  k_with "mine sides" => ((case kA => exact rfl); (case kF => exact rfl); (case kK => assumption); (case k6 => k_is); (case k7 => k_is); (case k8 => ktr_room); (case k9 => first | exact BindsTo.of_eq rfl | exact binds_K (by k_in) rfl (by k_is) rfl rfl rfl); (case c5 => decide); (case kB => exact locs rfl); (case c2 => exact rfl); (case c3 => exact rfl); (case c4 => exact rfl); k_whole; intro L' h' F' N' B' X' T'; (try dsimp only); (try k_lift B'); (try k_fold))
  k_with "call type:type" => ((with_reducible show wpAny _ _ (call _ [Value.bytes _ _]) _ _ _); refine call_type_of (Tx := "bytes") rfl (by decide +kernel) ?_)
  k_with "getMethod bytes" => (k_here; (with_reducible refine getm_tr ?_))
  k_with "getMethod type:bytes" => (k_here; k_dflt (refine' getm_mt ?k1 ?k2 ?k3 ?_; (case k1 => k_asm); (case k2 => k_asm); (case k3 => k_is); k_whole))
  k_with "call builtin:bytes.maketrans" => (k_here; k_dflt (refine' call_mt ?k1 ?_; (case k1 => first | rfl | (simp_all; done)); k_whole))
  k_with "call builtin:bytes.translate" => (k_here; k_dflt (refine' call_tr ?k1 ?k2 ?_; (case k1 => first | exact trTab_size _ _ | (simp_all; done)); (case k2 => first | omega | (simp_all; omega)); k_whole); intro t' k')
  k_with "call type:list" => (k_here; (with_reducible show wpAny _ _ (call (Value.type "list") [Value.bytes _ _]) _ _ _); k_dflt (refine' list_bytes_K ?k0 ?k1 ?k2 ?k3 ?_; (case k0 => rfl); (case k1 => k_asm); (case k2 => k_asm); (case k3 => first | decide | (simp_all; omega)); k_whole); intro l' h' tk' vs' c' F' N' l1 iX'; (try k_lt l1); (try k_sweep))
  k_with "mine useV" => ((case k1 => k_asm); (case k2 => k_asm); (case k3 => k_asm); (case k4 => k_asm); (case k5 => k_asm); (case k6 => first | exact rfl | assumption); (case k7 => first | exact True.intro | assumption); (case k8 => exact ⟨by ktr_room, by ktr_units⟩); k_whole)
  k_with "exec For Name Call cons nil" => (k_here; kst_src; (rename Fr _ _ _ _ => lF'); (with_unfolding_all refine' For_invVF lF' ?k1 ?k2 ?_; (case k1 => exact rfl); (case k2 => exact rfl); k_whole))
  k_with "exec For Name Name cons nil" => (k_here; kst_src; (rename Fr _ _ _ _ => lF'); (with_unfolding_all refine' For_invVF lF' ?k1 ?k2 ?_; (case k1 => exact rfl); (case k2 => exact rfl); k_whole))
  k_with "exec For Name Name cons nil" => (k_here; kstb_has; kstb_name; (rename Fr _ _ _ _ => lF'); (with_unfolding_all refine' For_invVF lF' ?k1 ?k2 ?_; (case k1 => exact rfl); (case k2 => exact rfl); k_whole))
  k_with "subscriptTail" => (k_here; (with_reducible show wpAny _ _ (subscriptTail _ _ (Value.bytes _ _) (Value.int _ _)) _ _ _); k_dflt (refine' KBw.item_K ?k1 ?k2 ?k3 ?k4 ?_; (case k1 => with_reducible assumption); (case k2 => simp only [List.length_cons, List.length_nil]; omega); (case k3 => omega); (case k4 => simp only [List.length_cons, List.length_nil]; omega); k_whole); intro _ _ kbaLo kbaHi)
  k_with "mine go" => repeat' (first | (k_unfold; (try dsimp only)) | walk1 | (dsimp only; walk1) | (leave1; (try dsimp only)) | fail "no step")
  k_with "storeName" => (k_here; (dsimp only); walk_at "storeName")
  k_with "call ref" => (k_here; (with_reducible show wpAny _ _ (call (Value.ref 109) _ _) _ _ _); k_dflt (refine' useL (signs_spec _) ?k1 ?k2 ?k3 ?k4 ?k5 ?k6 ?k7 ?k8 ?_; walk_at "mine useV"); intro l' vs' c' h' tk' F' N' ne' iX'; (try simp only [TLg.AllNe, and_true] at ne'); (try k_sweep))
  k_with "call ref" => (k_here; (with_reducible show wpAny _ _ (call (Value.ref 70) [Value.int _ _] _) _ _ _); k_dflt (refine' useV (val_spec _ _ _) ?k1 ?k2 ?k3 ?k4 ?k5 ?k6 ?k7 ?k8 ?_; walk_at "mine useV"); intro v' h' tk' F' N' hv'; obtain ⟨t', e'⟩ := hv'; subst e'; (try k_sweep))
  k_with "call ref" => (k_here; (with_reducible show wpAny _ _ (call (Value.ref 63) [Value.bool _] _) _ _ _); k_dflt (refine' useV (truth_spec _ _) ?k1 ?k2 ?k3 ?k4 ?k5 ?k6 ?k7 ?k8 ?_; walk_at "mine useV"); intro v' h' tk' F' N' hv'; subst hv'; (try k_sweep))
  k_with "call ref" => (k_here; (with_reducible show wpAny _ _ (call (Value.ref 56) [Value.bytes _ _] _) _ _ _); k_dflt (refine' useV (buffer_spec _ _ _) ?k1 ?k2 ?k3 ?k4 ?k5 ?k6 ?k7 ?k8 ?_; walk_at "mine useV"); intro v' h' tk' F' N' hv'; subst hv'; (try k_sweep))
  k_with "call ref" => (k_here; (with_reducible show wpAny _ _ (call (Value.ref 49) [Value.bytes _ _] _) _ _ _); k_dflt (refine' useV (ascii_spec _ _ _) ?k1 ?k2 ?k3 ?k4 ?k5 ?k6 ?k7 ?k8 ?_; walk_at "mine useV"); intro v' h' tk' F' N' hv'; subst hv'; (try k_sweep))
  k_with "call ref" => (k_here; (with_reducible show wpAny _ _ (call (Value.ref 29) [Value.bytes _ _] _) _ _ _); k_dflt (refine' useV (from_spec _ _ _) ?k1 ?k2 ?k3 ?k4 ?k5 ?k6 ?k7 ?k8 ?_; walk_at "mine useV"); intro v' h' tk' F' N' hv'; subst hv'; (try k_sweep))
  k_with "subscriptTail" => (k_here; (with_reducible show wpAny _ _ (subscriptTail _ _ (Value.bytes _ _) (Value.int (Builtin.bitAnd _ 63) _)) _ _ _); k_dflt (refine' KBy.item_N ?k1 ?k2 ?k3 ?_; (case k1 => decide); (case k2 => exact (and63 _).1); (case k3 => exact (and63 _).2); k_whole))
  k_with "binaryOp BitAnd int int" => (k_here; first | (with_reducible refine and_lit (bitAnd_m2 _) ?_) | (with_reducible refine and_lit (bitAnd_m4 _) ?_))
  k_with "binaryOp LShift int int" => (k_here; (with_reducible refine lshift_4 ?k1 ?_); (case k1 => omega))
  k_with "binaryOp LShift int int" => (k_here; (with_reducible refine lshift_2 ?k1 ?_); (case k1 => omega))
  k_with "subscriptTail" => (k_here; (with_reducible show wpAny _ _ (subscriptTail _ _ (Value.bytes _ _) (Value.int (_ * _) _)) _ _ _); k_dflt (refine' KBy.item_N ?k1 ?k2 ?k3 ?_; (case k1 => decide); (case k2 => omega); (case k3 => ((show _ < (64 : Int)); omega)); k_whole))
  k_with "call type:bytes" => (k_here; (with_reducible show wpAny _ _ (call (Value.type "bytes") [Value.ref _]) _ _ _); (rename News _ _ _ _ => nE'); (simp only [List.push_toArray] at nE'); k_dflt (refine' KBa.make_K ?kbaF nE' ?kbah ?kbal ?kbai ?kbar ?kban ?_; (case kbaF => k_asm); (case kbah => rfl); (case kbal => exact News.isList nE' (by k_mem)); (case kbai => kst_facts); (case kbar => ((repeat' (refine in_snoc ?_ ?_)) <;> first | assumption | exact u8_in _ | decide)); (case kban => ((simp only [List.length_append, List.length_cons, List.length_nil]); omega))); (try clear nE'); intro _ _ _ F' N' kbaIn)
  k_dflt (refine' enterS (binds := [("data", .bytes b tb), ("newline", .bool false)]) B F X T ?kA ?kF ?kK ?k6 ?k7 ?k8 ?k9 ?kB ?_ ?c2 ?c3 ?c4 ?c5; walk_at "mine sides")
  k_with "pyIter bytes" => k_dflt (((have hb9 : KBw.bInts b = ks := hb); k_state (fun pre out lb lc => B2At pre out lb lc ∧ KBa.In out ∧ out.length ≤ 2 * pre.length ∧ (lb = 0 ∨ lb = 2 ∨ lb = 4) ∧ 0 ≤ lc ∧ lc < 65536) "out" "leftbits" "leftchar"; (rcases (by assumption : (_ = (0 : Int) ∨ _ = (2 : Int) ∨ _ = (4 : Int))) with h9 | h9 | h9 <;> subst h9)))
  k_with "state" => k_dflt first
    | exact ⟨b2_nil, (fun _ h => nomatch h), by decide, by decide, by decide, by decide⟩
    | ((rename B2At _ _ (0 : Int) _ => hB); refine' ⟨b2_0 hB ?h1 ?h2, ?h0, ?h3, ?h4, ?h5⟩; (case h0 => exact in_snoc (by assumption) (u8_in _)); (case h1 => exact c_eq (by assumption) (by assumption) (by assumption)); (case h2 => exact sg_2 (c_lo (by assumption) (by assumption) (by assumption)).1); (case h3 => simp only [List.length_append, List.length_cons, List.length_nil]; omega); (case h4 => decide); (case h5 => exact c_lo (by assumption) (by assumption) (by assumption)))
    | ((rename B2At _ _ (2 : Int) _ => hB); refine' ⟨b2_2 hB ?h1 ?h2, ?h0, ?h3, ?h4, ?h5⟩; (case h0 => exact in_snoc (by assumption) (u8_in _)); (case h1 => exact c_eq (by assumption) (by assumption) (by assumption)); (case h2 => exact sg_4 (c_lo (by assumption) (by assumption) (by assumption)).1); (case h3 => simp only [List.length_append, List.length_cons, List.length_nil]; omega); (case h4 => decide); (case h5 => exact c_lo (by assumption) (by assumption) (by assumption)))
    | ((rename B2At _ _ (4 : Int) _ => hB); refine' ⟨b2_4 hB ?h1 ?h2 ?h6, ?h0, ?h3, ?h4, ?h5⟩; (case h0 => (repeat' (refine in_snoc ?_ ?_)) <;> first | assumption | exact u8_in _); (case h1 => exact c_eq (by assumption) (by assumption) (by assumption)); (case h2 => exact sg_6 (c_lo (by assumption) (by assumption) (by assumption)).1); (case h6 => exact sg_0 (c_lo (by assumption) (by assumption) (by assumption)).1); (case h3 => simp only [List.length_append, List.length_cons, List.length_nil]; omega); (case h4 => decide); (case h5 => exact c_lo (by assumption) (by assumption) (by assumption)))
  walk_at "mine go"
  all_goals (refine hret _ _ _ (Fr.keep (by assumption)) ⟨_, _, rfl, ?_⟩)
  all_goals first
    | exact b2_end2 (by assumption) (by assumption) (by assumption) (by assumption) (by assumption)
    | exact b2_end4 (by assumption) (by assumption) (by assumption) (by assumption) (by assumption)
    | exact b2_end0 (by assumption) (by assumption) (by assumption) (by assumption) (by assumption) (by assumption)
theorem len_two {prog : Program} {w : World} {A : Around} {E : Value → Shared → Prop} {s : Shared} {Q : Value → Shared → Prop} {b : Array UInt8} {t : Tok} {p0 p1 : Int} (hk : KBw.bInts b = [p0, p1]) (h : Q (.int 2 (s.toks + 1)) { s with toks := s.toks + 1 + 1 }) : wpAny (model prog w) A (call (.builtin "len") [.bytes b t]) Q E s :=
  KBw.len_K hk (by show 2 ≤ _; decide) h
theorem tr_enc {pb c : Array UInt8} {p0 p1 : Int} {x : List Int} (hb : KBw.bInts pb = [p0, p1]) (hc : KBw.bInts c = x) : KBw.bInts (trBytes (trTab #[43, 47] pb) c) = x.map (trI 43 47 p0 p1) := by
  rw [tr_ints (f := #[43, 47]) (f0 := 43) (f1 := 47) (by rfl) hb, hc]
theorem tr_dec (b : Array UInt8) {pb : Array UInt8} {p0 p1 : Int} (hb : KBw.bInts pb = [p0, p1]) : KBw.bInts (trBytes (trTab pb #[43, 47]) b) = (KBw.bInts b).map (trI p0 p1 43 47) := tr_ints hb (by rfl)
theorem enc_none (w : World) (b : Array UInt8) (tb : Tok) (hn : b.size ≤ 60) :
    Calls w 94 [.bytes b tb, .none] [] 8 (fun _ => True) (fun _ _ v => ∃ c t, v = .bytes c t ∧ KBw.bInts c = b2aGo (KBw.bInts b) [] 0 0) := by
  unfold Calls
  k_fill
  intro p loose mean mg mb dp un gd cn cs a ccd cl outer A₀ base h₀ L m s Q E B F X T hk hpre hR hret
  refine wpAny_call ?_
  k_with_none
  w_top off
  k_with "mine sides" => ((case kA => exact rfl); (case kF => exact rfl); (case kK => assumption); (case k6 => k_is); (case k7 => k_is); (case k8 => ktr_room); (case k9 => first | exact BindsTo.of_eq rfl | exact binds_K (by k_in) rfl (by k_is) rfl rfl rfl); (case c5 => decide); (case kB => exact locs rfl); (case c2 => exact rfl); (case c3 => exact rfl); (case c4 => exact rfl); k_whole; intro L' h' F' N' B' X' T'; (try dsimp only); (try k_lift B'); (try k_fold))
  k_with "call type:type" => ((with_reducible show wpAny _ _ (call _ [Value.bytes _ _]) _ _ _); refine call_type_of (Tx := "bytes") rfl (by decide +kernel) ?_)
  k_with "getMethod bytes" => (k_here; (with_reducible refine getm_tr ?_))
  k_with "getMethod type:bytes" => (k_here; k_dflt (refine' getm_mt ?k1 ?k2 ?k3 ?_; (case k1 => k_asm); (case k2 => k_asm); (case k3 => k_is); k_whole))
  k_with "call builtin:bytes.maketrans" => (k_here; k_dflt (refine' call_mt ?k1 ?_; (case k1 => first | rfl | (simp_all; done)); k_whole))
  k_with "call builtin:bytes.translate" => (k_here; k_dflt (refine' call_tr ?k1 ?k2 ?_; (case k1 => first | exact trTab_size _ _ | (simp_all; done)); (case k2 => first | omega | (simp_all; omega)); k_whole); intro t' k')
  k_with "call type:list" => (k_here; (with_reducible show wpAny _ _ (call (Value.type "list") [Value.bytes _ _]) _ _ _); k_dflt (refine' list_bytes_K ?k0 ?k1 ?k2 ?k3 ?_; (case k0 => rfl); (case k1 => k_asm); (case k2 => k_asm); (case k3 => first | decide | (simp_all; omega)); k_whole); intro l' h' tk' vs' c' F' N' l1 iX'; (try k_lt l1); (try k_sweep))
  k_with "mine useV" => ((case k1 => k_asm); (case k2 => k_asm); (case k3 => k_asm); (case k4 => k_asm); (case k5 => k_asm); (case k6 => first | exact rfl | assumption); (case k7 => first | exact True.intro | assumption); (case k8 => exact ⟨by ktr_room, by ktr_units⟩); k_whole)
  k_with "exec For Name Call cons nil" => (k_here; kst_src; (rename Fr _ _ _ _ => lF'); (with_unfolding_all refine' For_invVF lF' ?k1 ?k2 ?_; (case k1 => exact rfl); (case k2 => exact rfl); k_whole))
  k_with "exec For Name Name cons nil" => (k_here; kst_src; (rename Fr _ _ _ _ => lF'); (with_unfolding_all refine' For_invVF lF' ?k1 ?k2 ?_; (case k1 => exact rfl); (case k2 => exact rfl); k_whole))
  k_with "exec For Name Name cons nil" => (k_here; kstb_has; kstb_name; (rename Fr _ _ _ _ => lF'); (with_unfolding_all refine' For_invVF lF' ?k1 ?k2 ?_; (case k1 => exact rfl); (case k2 => exact rfl); k_whole))
  k_with "subscriptTail" => (k_here; (with_reducible show wpAny _ _ (subscriptTail _ _ (Value.bytes _ _) (Value.int _ _)) _ _ _); k_dflt (refine' KBw.item_K ?k1 ?k2 ?k3 ?k4 ?_; (case k1 => with_reducible assumption); (case k2 => simp only [List.length_cons, List.length_nil]; omega); (case k3 => omega); (case k4 => simp only [List.length_cons, List.length_nil]; omega); k_whole); intro _ _ kbaLo kbaHi)
  k_with "mine go" => repeat' (first | (k_unfold; (try dsimp only)) | walk1 | (dsimp only; walk1) | (leave1; (try dsimp only)) | fail "no step")
  k_with "storeName" => (k_here; (dsimp only); walk_at "storeName")
  k_with "call ref" => (k_here; (with_reducible show wpAny _ _ (call (Value.ref 109) _ _) _ _ _); k_dflt (refine' useL (signs_spec _) ?k1 ?k2 ?k3 ?k4 ?k5 ?k6 ?k7 ?k8 ?_; walk_at "mine useV"); intro l' vs' c' h' tk' F' N' ne' iX'; (try simp only [TLg.AllNe, and_true] at ne'); (try k_sweep))
  k_with "call ref" => (k_here; (with_reducible show wpAny _ _ (call (Value.ref 70) [Value.int _ _] _) _ _ _); k_dflt (refine' useV (val_spec _ _ _) ?k1 ?k2 ?k3 ?k4 ?k5 ?k6 ?k7 ?k8 ?_; walk_at "mine useV"); intro v' h' tk' F' N' hv'; obtain ⟨t', e'⟩ := hv'; subst e'; (try k_sweep))
  k_with "call ref" => (k_here; (with_reducible show wpAny _ _ (call (Value.ref 63) [Value.bool _] _) _ _ _); k_dflt (refine' useV (truth_spec _ _) ?k1 ?k2 ?k3 ?k4 ?k5 ?k6 ?k7 ?k8 ?_; walk_at "mine useV"); intro v' h' tk' F' N' hv'; subst hv'; (try k_sweep))
  k_with "call ref" => (k_here; (with_reducible show wpAny _ _ (call (Value.ref 56) [Value.bytes _ _] _) _ _ _); k_dflt (refine' useV (buffer_spec _ _ _) ?k1 ?k2 ?k3 ?k4 ?k5 ?k6 ?k7 ?k8 ?_; walk_at "mine useV"); intro v' h' tk' F' N' hv'; subst hv'; (try k_sweep))
  k_with "call ref" => (k_here; (with_reducible show wpAny _ _ (call (Value.ref 49) [Value.bytes _ _] _) _ _ _); k_dflt (refine' useV (ascii_spec _ _ _) ?k1 ?k2 ?k3 ?k4 ?k5 ?k6 ?k7 ?k8 ?_; walk_at "mine useV"); intro v' h' tk' F' N' hv'; subst hv'; (try k_sweep))
  k_with "call ref" => (k_here; (with_reducible show wpAny _ _ (call (Value.ref 29) [Value.bytes _ _] _) _ _ _); k_dflt (refine' useV (from_spec _ _ _) ?k1 ?k2 ?k3 ?k4 ?k5 ?k6 ?k7 ?k8 ?_; walk_at "mine useV"); intro v' h' tk' F' N' hv'; subst hv'; (try k_sweep))
  k_with "call builtin:len" => (k_here; (with_reducible show wpAny _ _ (call (Value.builtin "len") [Value.bytes _ _]) _ _ _); k_dflt (refine len_two (by assumption) ?_))
  k_with "call ref" => (k_here; (with_reducible show wpAny _ _ (call (Value.ref 86) [Value.bytes _ _] _) _ _ _); k_dflt (refine' useV (b2a_spec _ _ _ _ rfl ?hn) ?k1 ?k2 ?k3 ?k4 ?k5 ?k6 ?k7 ?k8 ?_; (case hn => (rw [KBw.ints_length]; omega)); walk_at "mine useV"); intro v' h' tk' F' N' hv'; obtain ⟨c', t', e', hc', hs'⟩ := hv'; subst e'; (try k_sweep))
  k_with "call ref" => (k_here; (with_reducible show wpAny _ _ (call (Value.ref 78) [Value.bytes _ _] _) _ _ _); k_dflt (refine' useE (a2b_spec _ _ _ _ _ rfl ?hn) ?k1 ?k2 ?k3 ?k4 ?k5 ?k6 ?k8 ?_ ?_; (case hn => (rw [KBw.ints_length]; (try rw [tr_size]); omega)); (case k1 => k_asm); (case k2 => k_asm); (case k3 => k_asm); (case k4 => k_asm); (case k5 => k_asm); (case k6 => first | exact rfl | assumption); (case k8 => exact ⟨by ktr_room, by ktr_units⟩); k_whole); intro v' h' tk' F' N' hv'; (try k_sweep))
  k_with "leaving ref" => k_dflt (refine' leave_onS ?k1 ?k2 ?k3 ?k4 ?_; (case k3 => assumption); (case k2 => assumption); (case k1 => assumption); (case k4 => assumption); k_whole; intro h' R' RK' U')
  k_dflt (refine' enterS (binds := [("s", .bytes b tb), ("altchars", .none)]) B F X T ?kA ?kF ?kK ?k6 ?k7 ?k8 ?k9 ?kB ?_ ?c2 ?c3 ?c4 ?c5; walk_at "mine sides")
  walk_at "mine go"
  all_goals exact hret _ _ _ (Fr.keep (by assumption)) ⟨_, _, rfl, by assumption⟩
theorem enc_bytes (w : World) (b : Array UInt8) (tb : Tok) (hn : b.size ≤ 60) (pb : Array UInt8) (u : Tok) (p0 p1 : Int) (hb : KBw.bInts pb = [p0, p1]) (hp2 : pb.size = 2) :
    Calls w 94 [.bytes b tb, .bytes pb u] [] 8 (fun _ => True) (fun _ _ v => ∃ c t, v = .bytes c t ∧ KBw.bInts c = (b2aGo (KBw.bInts b) [] 0 0).map (trI 43 47 p0 p1)) := by
  unfold Calls
  k_fill
  intro p loose mean mg mb dp un gd cn cs a ccd cl outer A₀ base h₀ L m s Q E B F X T hk hpre hR hret
  refine wpAny_call ?_
  k_with_none
  w_top off
  k_with "mine sides" => ((case kA => exact rfl); (case kF => exact rfl); (case kK => assumption); (case k6 => k_is); (case k7 => k_is); (case k8 => ktr_room); (case k9 => first | exact BindsTo.of_eq rfl | exact binds_K (by k_in) rfl (by k_is) rfl rfl rfl); (case c5 => decide); (case kB => exact locs rfl); (case c2 => exact rfl); (case c3 => exact rfl); (case c4 => exact rfl); k_whole; intro L' h' F' N' B' X' T'; (try dsimp only); (try k_lift B'); (try k_fold))
  k_with "call type:type" => ((with_reducible show wpAny _ _ (call _ [Value.bytes _ _]) _ _ _); refine call_type_of (Tx := "bytes") rfl (by decide +kernel) ?_)
  k_with "getMethod bytes" => (k_here; (with_reducible refine getm_tr ?_))
  k_with "getMethod type:bytes" => (k_here; k_dflt (refine' getm_mt ?k1 ?k2 ?k3 ?_; (case k1 => k_asm); (case k2 => k_asm); (case k3 => k_is); k_whole))
  k_with "call builtin:bytes.maketrans" => (k_here; k_dflt (refine' call_mt ?k1 ?_; (case k1 => first | rfl | (simp_all; done)); k_whole))
  k_with "call builtin:bytes.translate" => (k_here; k_dflt (refine' call_tr ?k1 ?k2 ?_; (case k1 => first | exact trTab_size _ _ | (simp_all; done)); (case k2 => first | omega | (simp_all; omega)); k_whole); intro t' k')
  k_with "call type:list" => (k_here; (with_reducible show wpAny _ _ (call (Value.type "list") [Value.bytes _ _]) _ _ _); k_dflt (refine' list_bytes_K ?k0 ?k1 ?k2 ?k3 ?_; (case k0 => rfl); (case k1 => k_asm); (case k2 => k_asm); (case k3 => first | decide | (simp_all; omega)); k_whole); intro l' h' tk' vs' c' F' N' l1 iX'; (try k_lt l1); (try k_sweep))
  k_with "mine useV" => ((case k1 => k_asm); (case k2 => k_asm); (case k3 => k_asm); (case k4 => k_asm); (case k5 => k_asm); (case k6 => first | exact rfl | assumption); (case k7 => first | exact True.intro | assumption); (case k8 => exact ⟨by ktr_room, by ktr_units⟩); k_whole)
  k_with "exec For Name Call cons nil" => (k_here; kst_src; (rename Fr _ _ _ _ => lF'); (with_unfolding_all refine' For_invVF lF' ?k1 ?k2 ?_; (case k1 => exact rfl); (case k2 => exact rfl); k_whole))
  k_with "exec For Name Name cons nil" => (k_here; kst_src; (rename Fr _ _ _ _ => lF'); (with_unfolding_all refine' For_invVF lF' ?k1 ?k2 ?_; (case k1 => exact rfl); (case k2 => exact rfl); k_whole))
  k_with "exec For Name Name cons nil" => (k_here; kstb_has; kstb_name; (rename Fr _ _ _ _ => lF'); (with_unfolding_all refine' For_invVF lF' ?k1 ?k2 ?_; (case k1 => exact rfl); (case k2 => exact rfl); k_whole))
  k_with "subscriptTail" => (k_here; (with_reducible show wpAny _ _ (subscriptTail _ _ (Value.bytes _ _) (Value.int _ _)) _ _ _); k_dflt (refine' KBw.item_K ?k1 ?k2 ?k3 ?k4 ?_; (case k1 => with_reducible assumption); (case k2 => simp only [List.length_cons, List.length_nil]; omega); (case k3 => omega); (case k4 => simp only [List.length_cons, List.length_nil]; omega); k_whole); intro _ _ kbaLo kbaHi)
  k_with "mine go" => repeat' (first | (k_unfold; (try dsimp only)) | walk1 | (dsimp only; walk1) | (leave1; (try dsimp only)) | fail "no step")
  k_with "storeName" => (k_here; (dsimp only); walk_at "storeName")
  k_with "call ref" => (k_here; (with_reducible show wpAny _ _ (call (Value.ref 109) _ _) _ _ _); k_dflt (refine' useL (signs_spec _) ?k1 ?k2 ?k3 ?k4 ?k5 ?k6 ?k7 ?k8 ?_; walk_at "mine useV"); intro l' vs' c' h' tk' F' N' ne' iX'; (try simp only [TLg.AllNe, and_true] at ne'); (try k_sweep))
  k_with "call ref" => (k_here; (with_reducible show wpAny _ _ (call (Value.ref 70) [Value.int _ _] _) _ _ _); k_dflt (refine' useV (val_spec _ _ _) ?k1 ?k2 ?k3 ?k4 ?k5 ?k6 ?k7 ?k8 ?_; walk_at "mine useV"); intro v' h' tk' F' N' hv'; obtain ⟨t', e'⟩ := hv'; subst e'; (try k_sweep))
  k_with "call ref" => (k_here; (with_reducible show wpAny _ _ (call (Value.ref 63) [Value.bool _] _) _ _ _); k_dflt (refine' useV (truth_spec _ _) ?k1 ?k2 ?k3 ?k4 ?k5 ?k6 ?k7 ?k8 ?_; walk_at "mine useV"); intro v' h' tk' F' N' hv'; subst hv'; (try k_sweep))
  k_with "call ref" => (k_here; (with_reducible show wpAny _ _ (call (Value.ref 56) [Value.bytes _ _] _) _ _ _); k_dflt (refine' useV (buffer_spec _ _ _) ?k1 ?k2 ?k3 ?k4 ?k5 ?k6 ?k7 ?k8 ?_; walk_at "mine useV"); intro v' h' tk' F' N' hv'; subst hv'; (try k_sweep))
  k_with "call ref" => (k_here; (with_reducible show wpAny _ _ (call (Value.ref 49) [Value.bytes _ _] _) _ _ _); k_dflt (refine' useV (ascii_spec _ _ _) ?k1 ?k2 ?k3 ?k4 ?k5 ?k6 ?k7 ?k8 ?_; walk_at "mine useV"); intro v' h' tk' F' N' hv'; subst hv'; (try k_sweep))
  k_with "call ref" => (k_here; (with_reducible show wpAny _ _ (call (Value.ref 29) [Value.bytes _ _] _) _ _ _); k_dflt (refine' useV (from_spec _ _ _) ?k1 ?k2 ?k3 ?k4 ?k5 ?k6 ?k7 ?k8 ?_; walk_at "mine useV"); intro v' h' tk' F' N' hv'; subst hv'; (try k_sweep))
  k_with "call builtin:len" => (k_here; (with_reducible show wpAny _ _ (call (Value.builtin "len") [Value.bytes _ _]) _ _ _); k_dflt (refine len_two (by assumption) ?_))
  k_with "call ref" => (k_here; (with_reducible show wpAny _ _ (call (Value.ref 86) [Value.bytes _ _] _) _ _ _); k_dflt (refine' useV (b2a_spec _ _ _ _ rfl ?hn) ?k1 ?k2 ?k3 ?k4 ?k5 ?k6 ?k7 ?k8 ?_; (case hn => (rw [KBw.ints_length]; omega)); walk_at "mine useV"); intro v' h' tk' F' N' hv'; obtain ⟨c', t', e', hc', hs'⟩ := hv'; subst e'; (try k_sweep))
  k_with "call ref" => (k_here; (with_reducible show wpAny _ _ (call (Value.ref 78) [Value.bytes _ _] _) _ _ _); k_dflt (refine' useE (a2b_spec _ _ _ _ _ rfl ?hn) ?k1 ?k2 ?k3 ?k4 ?k5 ?k6 ?k8 ?_ ?_; (case hn => (rw [KBw.ints_length]; (try rw [tr_size]); omega)); (case k1 => k_asm); (case k2 => k_asm); (case k3 => k_asm); (case k4 => k_asm); (case k5 => k_asm); (case k6 => first | exact rfl | assumption); (case k8 => exact ⟨by ktr_room, by ktr_units⟩); k_whole); intro v' h' tk' F' N' hv'; (try k_sweep))
  k_with "leaving ref" => k_dflt (refine' leave_onS ?k1 ?k2 ?k3 ?k4 ?_; (case k3 => assumption); (case k2 => assumption); (case k1 => assumption); (case k4 => assumption); k_whole; intro h' R' RK' U')
  k_dflt (refine' enterS (binds := [("s", .bytes b tb), ("altchars", .bytes pb u)]) B F X T ?kA ?kF ?kK ?k6 ?k7 ?k8 ?k9 ?kB ?_ ?c2 ?c3 ?c4 ?c5; walk_at "mine sides")
  walk_at "mine go"
  all_goals (refine hret _ _ _ (Fr.keep (by assumption)) ⟨_, _, rfl, tr_enc (by assumption) (by assumption)⟩)
theorem dec_none (w : World) (b : Array UInt8) (tb : Tok) (hn : b.size ≤ 60) (sb : Bool) :
    CallsE w 102 [.bytes b tb, .none, .bool sb] [] 8 (A2V (a2bGo sb (KBw.bInts b) [] 0 0 0)) (a2bGo sb (KBw.bInts b) [] 0 0 0 = none) := by
  unfold CallsE
  k_fill
  intro p loose mean mg mb dp un gd cn cs a ccd cl outer A₀ base h₀ L m s Q E B F X T hk hR hret herr
  refine wpAny_call ?_
  k_with_none
  w_top off
  k_with "mine sides" => ((case kA => exact rfl); (case kF => exact rfl); (case kK => assumption); (case k6 => k_is); (case k7 => k_is); (case k8 => ktr_room); (case k9 => first | exact BindsTo.of_eq rfl | exact binds_K (by k_in) rfl (by k_is) rfl rfl rfl); (case c5 => decide); (case kB => exact locs rfl); (case c2 => exact rfl); (case c3 => exact rfl); (case c4 => exact rfl); k_whole; intro L' h' F' N' B' X' T'; (try dsimp only); (try k_lift B'); (try k_fold))
  k_with "call type:type" => ((with_reducible show wpAny _ _ (call _ [Value.bytes _ _]) _ _ _); refine call_type_of (Tx := "bytes") rfl (by decide +kernel) ?_)
  k_with "getMethod bytes" => (k_here; (with_reducible refine getm_tr ?_))
  k_with "getMethod type:bytes" => (k_here; k_dflt (refine' getm_mt ?k1 ?k2 ?k3 ?_; (case k1 => k_asm); (case k2 => k_asm); (case k3 => k_is); k_whole))
  k_with "call builtin:bytes.maketrans" => (k_here; k_dflt (refine' call_mt ?k1 ?_; (case k1 => first | rfl | (simp_all; done)); k_whole))
  k_with "call builtin:bytes.translate" => (k_here; k_dflt (refine' call_tr ?k1 ?k2 ?_; (case k1 => first | exact trTab_size _ _ | (simp_all; done)); (case k2 => first | omega | (simp_all; omega)); k_whole); intro t' k')
  k_with "call type:list" => (k_here; (with_reducible show wpAny _ _ (call (Value.type "list") [Value.bytes _ _]) _ _ _); k_dflt (refine' list_bytes_K ?k0 ?k1 ?k2 ?k3 ?_; (case k0 => rfl); (case k1 => k_asm); (case k2 => k_asm); (case k3 => first | decide | (simp_all; omega)); k_whole); intro l' h' tk' vs' c' F' N' l1 iX'; (try k_lt l1); (try k_sweep))
  k_with "mine useV" => ((case k1 => k_asm); (case k2 => k_asm); (case k3 => k_asm); (case k4 => k_asm); (case k5 => k_asm); (case k6 => first | exact rfl | assumption); (case k7 => first | exact True.intro | assumption); (case k8 => exact ⟨by ktr_room, by ktr_units⟩); k_whole)
  k_with "exec For Name Call cons nil" => (k_here; kst_src; (rename Fr _ _ _ _ => lF'); (with_unfolding_all refine' For_invVF lF' ?k1 ?k2 ?_; (case k1 => exact rfl); (case k2 => exact rfl); k_whole))
  k_with "exec For Name Name cons nil" => (k_here; kst_src; (rename Fr _ _ _ _ => lF'); (with_unfolding_all refine' For_invVF lF' ?k1 ?k2 ?_; (case k1 => exact rfl); (case k2 => exact rfl); k_whole))
  k_with "exec For Name Name cons nil" => (k_here; kstb_has; kstb_name; (rename Fr _ _ _ _ => lF'); (with_unfolding_all refine' For_invVF lF' ?k1 ?k2 ?_; (case k1 => exact rfl); (case k2 => exact rfl); k_whole))
  k_with "subscriptTail" => (k_here; (with_reducible show wpAny _ _ (subscriptTail _ _ (Value.bytes _ _) (Value.int _ _)) _ _ _); k_dflt (refine' KBw.item_K ?k1 ?k2 ?k3 ?k4 ?_; (case k1 => with_reducible assumption); (case k2 => simp only [List.length_cons, List.length_nil]; omega); (case k3 => omega); (case k4 => simp only [List.length_cons, List.length_nil]; omega); k_whole); intro _ _ kbaLo kbaHi)
  k_with "mine go" => repeat' (first | (k_unfold; (try dsimp only)) | walk1 | (dsimp only; walk1) | (leave1; (try dsimp only)) | fail "no step")
  k_with "storeName" => (k_here; (dsimp only); walk_at "storeName")
  k_with "call ref" => (k_here; (with_reducible show wpAny _ _ (call (Value.ref 109) _ _) _ _ _); k_dflt (refine' useL (signs_spec _) ?k1 ?k2 ?k3 ?k4 ?k5 ?k6 ?k7 ?k8 ?_; walk_at "mine useV"); intro l' vs' c' h' tk' F' N' ne' iX'; (try simp only [TLg.AllNe, and_true] at ne'); (try k_sweep))
  k_with "call ref" => (k_here; (with_reducible show wpAny _ _ (call (Value.ref 70) [Value.int _ _] _) _ _ _); k_dflt (refine' useV (val_spec _ _ _) ?k1 ?k2 ?k3 ?k4 ?k5 ?k6 ?k7 ?k8 ?_; walk_at "mine useV"); intro v' h' tk' F' N' hv'; obtain ⟨t', e'⟩ := hv'; subst e'; (try k_sweep))
  k_with "call ref" => (k_here; (with_reducible show wpAny _ _ (call (Value.ref 63) [Value.bool _] _) _ _ _); k_dflt (refine' useV (truth_spec _ _) ?k1 ?k2 ?k3 ?k4 ?k5 ?k6 ?k7 ?k8 ?_; walk_at "mine useV"); intro v' h' tk' F' N' hv'; subst hv'; (try k_sweep))
  k_with "call ref" => (k_here; (with_reducible show wpAny _ _ (call (Value.ref 56) [Value.bytes _ _] _) _ _ _); k_dflt (refine' useV (buffer_spec _ _ _) ?k1 ?k2 ?k3 ?k4 ?k5 ?k6 ?k7 ?k8 ?_; walk_at "mine useV"); intro v' h' tk' F' N' hv'; subst hv'; (try k_sweep))
  k_with "call ref" => (k_here; (with_reducible show wpAny _ _ (call (Value.ref 49) [Value.bytes _ _] _) _ _ _); k_dflt (refine' useV (ascii_spec _ _ _) ?k1 ?k2 ?k3 ?k4 ?k5 ?k6 ?k7 ?k8 ?_; walk_at "mine useV"); intro v' h' tk' F' N' hv'; subst hv'; (try k_sweep))
  k_with "call ref" => (k_here; (with_reducible show wpAny _ _ (call (Value.ref 29) [Value.bytes _ _] _) _ _ _); k_dflt (refine' useV (from_spec _ _ _) ?k1 ?k2 ?k3 ?k4 ?k5 ?k6 ?k7 ?k8 ?_; walk_at "mine useV"); intro v' h' tk' F' N' hv'; subst hv'; (try k_sweep))
  k_with "call builtin:len" => (k_here; (with_reducible show wpAny _ _ (call (Value.builtin "len") [Value.bytes _ _]) _ _ _); k_dflt (refine len_two (by assumption) ?_))
  k_with "call ref" => (k_here; (with_reducible show wpAny _ _ (call (Value.ref 86) [Value.bytes _ _] _) _ _ _); k_dflt (refine' useV (b2a_spec _ _ _ _ rfl ?hn) ?k1 ?k2 ?k3 ?k4 ?k5 ?k6 ?k7 ?k8 ?_; (case hn => (rw [KBw.ints_length]; omega)); walk_at "mine useV"); intro v' h' tk' F' N' hv'; obtain ⟨c', t', e', hc', hs'⟩ := hv'; subst e'; (try k_sweep))
  k_with "call ref" => (k_here; (with_reducible show wpAny _ _ (call (Value.ref 78) [Value.bytes _ _] _) _ _ _); k_dflt (refine' useE (a2b_spec _ _ _ _ _ rfl ?hn) ?k1 ?k2 ?k3 ?k4 ?k5 ?k6 ?k8 ?_ ?_; (case hn => (rw [KBw.ints_length]; (try rw [tr_size]); omega)); (case k1 => k_asm); (case k2 => k_asm); (case k3 => k_asm); (case k4 => k_asm); (case k5 => k_asm); (case k6 => first | exact rfl | assumption); (case k8 => exact ⟨by ktr_room, by ktr_units⟩); k_whole); intro v' h' tk' F' N' hv'; (try k_sweep))
  k_with "leaving ref" => k_dflt (refine' leave_onS ?k1 ?k2 ?k3 ?k4 ?_; (case k3 => assumption); (case k2 => assumption); (case k1 => assumption); (case k4 => assumption); k_whole; intro h' R' RK' U')
  k_dflt (refine' enterS (binds := [("s", .bytes b tb), ("altchars", .none), ("validate", .bool sb)]) B F X T ?kA ?kF ?kK ?k6 ?k7 ?k8 ?k9 ?kB ?_ ?c2 ?c3 ?c4 ?c5; walk_at "mine sides")
  walk_at "mine go"
  all_goals first
    | exact hret _ _ _ (Fr.keep (by assumption)) (by assumption)
    | exact herr _ _ _ _ _ (by assumption) (by assumption) (by assumption)
theorem dec_bytes (w : World) (b : Array UInt8) (tb : Tok) (hn : b.size ≤ 60) (sb : Bool) (pb : Array UInt8) (u : Tok) (p0 p1 : Int) (hb : KBw.bInts pb = [p0, p1]) (hp2 : pb.size = 2) :
    CallsE w 102 [.bytes b tb, .bytes pb u, .bool sb] [] 8 (A2V (a2bGo sb ((KBw.bInts b).map (trI p0 p1 43 47)) [] 0 0 0)) (a2bGo sb ((KBw.bInts b).map (trI p0 p1 43 47)) [] 0 0 0 = none) := by
  unfold CallsE
  k_fill
  intro p loose mean mg mb dp un gd cn cs a ccd cl outer A₀ base h₀ L m s Q E B F X T hk hR hret herr
  refine wpAny_call ?_
  k_with_none
  w_top off
  k_with "mine sides" => ((case kA => exact rfl); (case kF => exact rfl); (case kK => assumption); (case k6 => k_is); (case k7 => k_is); (case k8 => ktr_room); (case k9 => first | exact BindsTo.of_eq rfl | exact binds_K (by k_in) rfl (by k_is) rfl rfl rfl); (case c5 => decide); (case kB => exact locs rfl); (case c2 => exact rfl); (case c3 => exact rfl); (case c4 => exact rfl); k_whole; intro L' h' F' N' B' X' T'; (try dsimp only); (try k_lift B'); (try k_fold))
  k_with "call type:type" => ((with_reducible show wpAny _ _ (call _ [Value.bytes _ _]) _ _ _); refine call_type_of (Tx := "bytes") rfl (by decide +kernel) ?_)
  k_with "getMethod bytes" => (k_here; (with_reducible refine getm_tr ?_))
  k_with "getMethod type:bytes" => (k_here; k_dflt (refine' getm_mt ?k1 ?k2 ?k3 ?_; (case k1 => k_asm); (case k2 => k_asm); (case k3 => k_is); k_whole))
  k_with "call builtin:bytes.maketrans" => (k_here; k_dflt (refine' call_mt ?k1 ?_; (case k1 => first | rfl | (simp_all; done)); k_whole))
  k_with "call builtin:bytes.translate" => (k_here; k_dflt (refine' call_tr ?k1 ?k2 ?_; (case k1 => first | exact trTab_size _ _ | (simp_all; done)); (case k2 => first | omega | (simp_all; omega)); k_whole); intro t' k')
  k_with "call type:list" => (k_here; (with_reducible show wpAny _ _ (call (Value.type "list") [Value.bytes _ _]) _ _ _); k_dflt (refine' list_bytes_K ?k0 ?k1 ?k2 ?k3 ?_; (case k0 => rfl); (case k1 => k_asm); (case k2 => k_asm); (case k3 => first | decide | (simp_all; omega)); k_whole); intro l' h' tk' vs' c' F' N' l1 iX'; (try k_lt l1); (try k_sweep))
  k_with "mine useV" => ((case k1 => k_asm); (case k2 => k_asm); (case k3 => k_asm); (case k4 => k_asm); (case k5 => k_asm); (case k6 => first | exact rfl | assumption); (case k7 => first | exact True.intro | assumption); (case k8 => exact ⟨by ktr_room, by ktr_units⟩); k_whole)
  k_with "exec For Name Call cons nil" => (k_here; kst_src; (rename Fr _ _ _ _ => lF'); (with_unfolding_all refine' For_invVF lF' ?k1 ?k2 ?_; (case k1 => exact rfl); (case k2 => exact rfl); k_whole))
  k_with "exec For Name Name cons nil" => (k_here; kst_src; (rename Fr _ _ _ _ => lF'); (with_unfolding_all refine' For_invVF lF' ?k1 ?k2 ?_; (case k1 => exact rfl); (case k2 => exact rfl); k_whole))
  k_with "exec For Name Name cons nil" => (k_here; kstb_has; kstb_name; (rename Fr _ _ _ _ => lF'); (with_unfolding_all refine' For_invVF lF' ?k1 ?k2 ?_; (case k1 => exact rfl); (case k2 => exact rfl); k_whole))
  k_with "subscriptTail" => (k_here; (with_reducible show wpAny _ _ (subscriptTail _ _ (Value.bytes _ _) (Value.int _ _)) _ _ _); k_dflt (refine' KBw.item_K ?k1 ?k2 ?k3 ?k4 ?_; (case k1 => with_reducible assumption); (case k2 => simp only [List.length_cons, List.length_nil]; omega); (case k3 => omega); (case k4 => simp only [List.length_cons, List.length_nil]; omega); k_whole); intro _ _ kbaLo kbaHi)
  k_with "mine go" => repeat' (first | (k_unfold; (try dsimp only)) | walk1 | (dsimp only; walk1) | (leave1; (try dsimp only)) | fail "no step")
  k_with "storeName" => (k_here; (dsimp only); walk_at "storeName")
  k_with "call ref" => (k_here; (with_reducible show wpAny _ _ (call (Value.ref 109) _ _) _ _ _); k_dflt (refine' useL (signs_spec _) ?k1 ?k2 ?k3 ?k4 ?k5 ?k6 ?k7 ?k8 ?_; walk_at "mine useV"); intro l' vs' c' h' tk' F' N' ne' iX'; (try simp only [TLg.AllNe, and_true] at ne'); (try k_sweep))
  k_with "call ref" => (k_here; (with_reducible show wpAny _ _ (call (Value.ref 70) [Value.int _ _] _) _ _ _); k_dflt (refine' useV (val_spec _ _ _) ?k1 ?k2 ?k3 ?k4 ?k5 ?k6 ?k7 ?k8 ?_; walk_at "mine useV"); intro v' h' tk' F' N' hv'; obtain ⟨t', e'⟩ := hv'; subst e'; (try k_sweep))
  k_with "call ref" => (k_here; (with_reducible show wpAny _ _ (call (Value.ref 63) [Value.bool _] _) _ _ _); k_dflt (refine' useV (truth_spec _ _) ?k1 ?k2 ?k3 ?k4 ?k5 ?k6 ?k7 ?k8 ?_; walk_at "mine useV"); intro v' h' tk' F' N' hv'; subst hv'; (try k_sweep))
  k_with "call ref" => (k_here; (with_reducible show wpAny _ _ (call (Value.ref 56) [Value.bytes _ _] _) _ _ _); k_dflt (refine' useV (buffer_spec _ _ _) ?k1 ?k2 ?k3 ?k4 ?k5 ?k6 ?k7 ?k8 ?_; walk_at "mine useV"); intro v' h' tk' F' N' hv'; subst hv'; (try k_sweep))
  k_with "call ref" => (k_here; (with_reducible show wpAny _ _ (call (Value.ref 49) [Value.bytes _ _] _) _ _ _); k_dflt (refine' useV (ascii_spec _ _ _) ?k1 ?k2 ?k3 ?k4 ?k5 ?k6 ?k7 ?k8 ?_; walk_at "mine useV"); intro v' h' tk' F' N' hv'; subst hv'; (try k_sweep))
  k_with "call ref" => (k_here; (with_reducible show wpAny _ _ (call (Value.ref 29) [Value.bytes _ _] _) _ _ _); k_dflt (refine' useV (from_spec _ _ _) ?k1 ?k2 ?k3 ?k4 ?k5 ?k6 ?k7 ?k8 ?_; walk_at "mine useV"); intro v' h' tk' F' N' hv'; subst hv'; (try k_sweep))
  k_with "call builtin:len" => (k_here; (with_reducible show wpAny _ _ (call (Value.builtin "len") [Value.bytes _ _]) _ _ _); k_dflt (refine len_two (by assumption) ?_))
  k_with "call ref" => (k_here; (with_reducible show wpAny _ _ (call (Value.ref 86) [Value.bytes _ _] _) _ _ _); k_dflt (refine' useV (b2a_spec _ _ _ _ rfl ?hn) ?k1 ?k2 ?k3 ?k4 ?k5 ?k6 ?k7 ?k8 ?_; (case hn => (rw [KBw.ints_length]; omega)); walk_at "mine useV"); intro v' h' tk' F' N' hv'; obtain ⟨c', t', e', hc', hs'⟩ := hv'; subst e'; (try k_sweep))
  k_with "call ref" => (k_here; (with_reducible show wpAny _ _ (call (Value.ref 78) [Value.bytes _ _] _) _ _ _); k_dflt (refine' useE (a2b_spec _ _ _ _ _ rfl ?hn) ?k1 ?k2 ?k3 ?k4 ?k5 ?k6 ?k8 ?_ ?_; (case hn => (rw [KBw.ints_length]; (try rw [tr_size]); omega)); (case k1 => k_asm); (case k2 => k_asm); (case k3 => k_asm); (case k4 => k_asm); (case k5 => k_asm); (case k6 => first | exact rfl | assumption); (case k8 => exact ⟨by ktr_room, by ktr_units⟩); k_whole); intro v' h' tk' F' N' hv'; (try k_sweep))
  k_with "leaving ref" => k_dflt (refine' leave_onS ?k1 ?k2 ?k3 ?k4 ?_; (case k3 => assumption); (case k2 => assumption); (case k1 => assumption); (case k4 => assumption); k_whole; intro h' R' RK' U')
  k_dflt (refine' enterS (binds := [("s", .bytes b tb), ("altchars", .bytes pb u), ("validate", .bool sb)]) B F X T ?kA ?kF ?kK ?k6 ?k7 ?k8 ?k9 ?kB ?_ ?c2 ?c3 ?c4 ?c5; walk_at "mine sides")
  have hd9 := tr_dec b hb
  walk_at "mine go"
  all_goals first
    | (refine hret _ _ _ (Fr.keep (by assumption)) ?_; rw [← hd9]; assumption)
    | (refine herr _ _ _ _ _ ?_ (by assumption) (by assumption); rw [← hd9]; assumption)
section
variable {w : World} {p : Program} {loose : List Str} {mean : ExcName → Option Value} {mg mb : Str → Option Value} {dp un : Nat} {gd : Option (List Code)} {cn : Str} {cs : Scope} {a : Addr} {ccd : Value} {cl : List (Str × Addr)} {outer : List Env} {L : Addr}
    {g : Heap} {L' : Addr} {m : Str → Option Value} {s : Shared} {Q : Value → Shared → Prop} {E : Value → Shared → Prop} {news : List (Addr × Obj)} {b : Array UInt8} {tb : Tok} {os : List Int}
    {oc : Value} {od : Option Addr} {osl : Array (Option Value)} {name qual : Str} {params : Arguments} {body : List Stmt} {scope : Scope} {dV kV doc pm cdv ct : Value} {an : Option Addr}
    {q1 q2 q3 q4 q5 q6 q7 q8 q9 q10 q11 q12 q13 q14 : Pos} {k j : Int} {tk tj : Tok}
theorem news2 {h : Heap} {p q : Addr × Obj} (N : News g L' h news) (hp : p ∈ news) (hq : q ∈ news) : News g L' h [p, q] := fun x hx => by
  rcases List.mem_cons.mp hx with rfl | hx
  · exact N _ hp
  · rw [List.mem_singleton.mp hx]; exact N _ hq
theorem news3 {h : Heap} {p q r : Addr × Obj} (N : News g L' h news) (hp : p ∈ news) (hq : q ∈ news) (hr : r ∈ news) : News g L' h [p, q, r] := fun x hx => by
  rcases List.mem_cons.mp hx with rfl | hx
  · exact N _ hp
  · exact news2 N hq hr x hx
theorem wr_item (ho : (hd.heap_39 w.params).lookup 128 = some ⟨oc, od, .func (fnOf name qual params body scope dV kV doc pm an cdv ct), osl⟩)
    (F : Fr g L' s.heap m) (X : (hd.heap_39 w.params).In g) (T : Top p loose mean mg mb g) (h1 : m "row" = some (.bytes b tb)) (h2 : m "k" = some (.int k tk)) (h3 : m "j" = some (.int j tj)) (N : News g L' s.heap news) (hb : KBw.bInts b = os)
    (hk0 : 0 ≤ k) (hk1 : k ≤ 1000) (hj0 : 0 ≤ j) (hj1 : j ≤ 10) (hlen : os.length ≤ 1000) (hq : ∀ t tk, Q (.int (os.getD (k + j).toNat 0) t) { s with toks := tk }) :
    wpAny (model Challenge.rw_qh0109_01.row.prog w) ((ktrTop dp un gd cn cs L a ccd cl outer).deeper (envOfC qual scope L' 128 cdv))
      (eval (.IfExp (.Compare (.BinOp (.Name "k" q1) .Add (.Name "j" q2) q3) [.Lt] [.Call (.Name "len" q4) [.Name "row" q5] [] q6] q7) (.Subscript (.Name "row" q8) (.BinOp (.Name "k" q9) .Add (.Name "j" q10) q11) q12) (.Constant (.int 0) 0 q13) q14) (envOfC qual scope L' 128 cdv)) Q E s := by
  revert ho
  k_fill
  intro ho
  refine' look_use ho ?k6 ?_
  (case k6 => k_is)
  intro e
  cases e
  replace F := frTo F (map3 h1 h2 h3)
  replace N : News g L' s.heap [] := News.nil
  clear h1 h2 h3
  k_with_none
  w_top off
  k_with "mine sides" => ((case kA => exact rfl); (case kF => exact rfl); (case kK => assumption); (case k6 => k_is); (case k7 => k_is); (case k8 => ktr_room); (case k9 => first | exact BindsTo.of_eq rfl | exact binds_K (by k_in) rfl (by k_is) rfl rfl rfl); (case c5 => decide); (case kB => exact locs rfl); (case c2 => exact rfl); (case c3 => exact rfl); (case c4 => exact rfl); k_whole; intro L' h' F' N' B' X' T'; (try dsimp only); (try k_lift B'); (try k_fold))
  k_with "call type:type" => ((with_reducible show wpAny _ _ (call _ [Value.bytes _ _]) _ _ _); refine call_type_of (Tx := "bytes") rfl (by decide +kernel) ?_)
  k_with "getMethod bytes" => (k_here; (with_reducible refine getm_tr ?_))
  k_with "getMethod type:bytes" => (k_here; k_dflt (refine' getm_mt ?k1 ?k2 ?k3 ?_; (case k1 => k_asm); (case k2 => k_asm); (case k3 => k_is); k_whole))
  k_with "call builtin:bytes.maketrans" => (k_here; k_dflt (refine' call_mt ?k1 ?_; (case k1 => first | rfl | (simp_all; done)); k_whole))
  k_with "call builtin:bytes.translate" => (k_here; k_dflt (refine' call_tr ?k1 ?k2 ?_; (case k1 => first | exact trTab_size _ _ | (simp_all; done)); (case k2 => first | omega | (simp_all; omega)); k_whole); intro t' k')
  k_with "call type:list" => (k_here; (with_reducible show wpAny _ _ (call (Value.type "list") [Value.bytes _ _]) _ _ _); k_dflt (refine' list_bytes_K ?k0 ?k1 ?k2 ?k3 ?_; (case k0 => rfl); (case k1 => k_asm); (case k2 => k_asm); (case k3 => first | decide | (simp_all; omega)); k_whole); intro l' h' tk' vs' c' F' N' l1 iX'; (try k_lt l1); (try k_sweep))
  k_with "mine useV" => ((case k1 => k_asm); (case k2 => k_asm); (case k3 => k_asm); (case k4 => k_asm); (case k5 => k_asm); (case k6 => first | exact rfl | assumption); (case k7 => first | exact True.intro | assumption); (case k8 => exact ⟨by ktr_room, by ktr_units⟩); k_whole)
  k_with "exec For Name Call cons nil" => (k_here; kst_src; (rename Fr _ _ _ _ => lF'); (with_unfolding_all refine' For_invVF lF' ?k1 ?k2 ?_; (case k1 => exact rfl); (case k2 => exact rfl); k_whole))
  k_with "exec For Name Name cons nil" => (k_here; kst_src; (rename Fr _ _ _ _ => lF'); (with_unfolding_all refine' For_invVF lF' ?k1 ?k2 ?_; (case k1 => exact rfl); (case k2 => exact rfl); k_whole))
  k_with "exec For Name Name cons nil" => (k_here; kstb_has; kstb_name; (rename Fr _ _ _ _ => lF'); (with_unfolding_all refine' For_invVF lF' ?k1 ?k2 ?_; (case k1 => exact rfl); (case k2 => exact rfl); k_whole))
  k_with "subscriptTail" => (k_here; (with_reducible show wpAny _ _ (subscriptTail _ _ (Value.bytes _ _) (Value.int _ _)) _ _ _); k_dflt (refine' KBw.item_K ?k1 ?k2 ?k3 ?k4 ?_; (case k1 => with_reducible assumption); (case k2 => simp only [List.length_cons, List.length_nil]; omega); (case k3 => omega); (case k4 => simp only [List.length_cons, List.length_nil]; omega); k_whole); intro _ _ kbaLo kbaHi)
  k_with "mine go" => repeat' (first | (k_unfold; (try dsimp only)) | walk1 | (dsimp only; walk1) | (leave1; (try dsimp only)) | fail "no step")
  k_with "storeName" => (k_here; (dsimp only); walk_at "storeName")
  k_with "call ref" => (k_here; (with_reducible show wpAny _ _ (call (Value.ref 109) _ _) _ _ _); k_dflt (refine' useL (signs_spec _) ?k1 ?k2 ?k3 ?k4 ?k5 ?k6 ?k7 ?k8 ?_; walk_at "mine useV"); intro l' vs' c' h' tk' F' N' ne' iX'; (try simp only [TLg.AllNe, and_true] at ne'); (try k_sweep))
  k_with "call ref" => (k_here; (with_reducible show wpAny _ _ (call (Value.ref 70) [Value.int _ _] _) _ _ _); k_dflt (refine' useV (val_spec _ _ _) ?k1 ?k2 ?k3 ?k4 ?k5 ?k6 ?k7 ?k8 ?_; walk_at "mine useV"); intro v' h' tk' F' N' hv'; obtain ⟨t', e'⟩ := hv'; subst e'; (try k_sweep))
  k_with "call ref" => (k_here; (with_reducible show wpAny _ _ (call (Value.ref 63) [Value.bool _] _) _ _ _); k_dflt (refine' useV (truth_spec _ _) ?k1 ?k2 ?k3 ?k4 ?k5 ?k6 ?k7 ?k8 ?_; walk_at "mine useV"); intro v' h' tk' F' N' hv'; subst hv'; (try k_sweep))
  k_with "call ref" => (k_here; (with_reducible show wpAny _ _ (call (Value.ref 56) [Value.bytes _ _] _) _ _ _); k_dflt (refine' useV (buffer_spec _ _ _) ?k1 ?k2 ?k3 ?k4 ?k5 ?k6 ?k7 ?k8 ?_; walk_at "mine useV"); intro v' h' tk' F' N' hv'; subst hv'; (try k_sweep))
  k_with "call ref" => (k_here; (with_reducible show wpAny _ _ (call (Value.ref 49) [Value.bytes _ _] _) _ _ _); k_dflt (refine' useV (ascii_spec _ _ _) ?k1 ?k2 ?k3 ?k4 ?k5 ?k6 ?k7 ?k8 ?_; walk_at "mine useV"); intro v' h' tk' F' N' hv'; subst hv'; (try k_sweep))
  k_with "call ref" => (k_here; (with_reducible show wpAny _ _ (call (Value.ref 29) [Value.bytes _ _] _) _ _ _); k_dflt (refine' useV (from_spec _ _ _) ?k1 ?k2 ?k3 ?k4 ?k5 ?k6 ?k7 ?k8 ?_; walk_at "mine useV"); intro v' h' tk' F' N' hv'; subst hv'; (try k_sweep))
  k_with "call builtin:len" => (k_here; (with_reducible show wpAny _ _ (call (Value.builtin "len") [Value.bytes _ _]) _ _ _); k_dflt (refine len_two (by assumption) ?_))
  k_with "call ref" => (k_here; (with_reducible show wpAny _ _ (call (Value.ref 86) [Value.bytes _ _] _) _ _ _); k_dflt (refine' useV (b2a_spec _ _ _ _ rfl ?hn) ?k1 ?k2 ?k3 ?k4 ?k5 ?k6 ?k7 ?k8 ?_; (case hn => (rw [KBw.ints_length]; omega)); walk_at "mine useV"); intro v' h' tk' F' N' hv'; obtain ⟨c', t', e', hc', hs'⟩ := hv'; subst e'; (try k_sweep))
  k_with "call ref" => (k_here; (with_reducible show wpAny _ _ (call (Value.ref 78) [Value.bytes _ _] _) _ _ _); k_dflt (refine' useE (a2b_spec _ _ _ _ _ rfl ?hn) ?k1 ?k2 ?k3 ?k4 ?k5 ?k6 ?k8 ?_ ?_; (case hn => (rw [KBw.ints_length]; (try rw [tr_size]); omega)); (case k1 => k_asm); (case k2 => k_asm); (case k3 => k_asm); (case k4 => k_asm); (case k5 => k_asm); (case k6 => first | exact rfl | assumption); (case k8 => exact ⟨by ktr_room, by ktr_units⟩); k_whole); intro v' h' tk' F' N' hv'; (try k_sweep))
  k_with "leaving ref" => k_dflt (refine' leave_onS ?k1 ?k2 ?k3 ?k4 ?_; (case k3 => assumption); (case k2 => assumption); (case k1 => assumption); (case k4 => assumption); k_whole; intro h' R' RK' U')
  k_with "PostT" => (dsimp only [PostT])
  k_with "EndT" => k_dflt ((rename News _ _ _ _ => nE'); (have kMk := kstMark); (refine' EndT.intro (by assumption) nE' ?hy ?hm ?h1 ?h2 ?h3 ?h4 ?hi ?hp ?hr); (case hy => rfl); (case hm => k_memK); (case h1 => k_allIn); (case h2 => (intro p hp; k_ownIn)); (case h3 => k_all); (case h4 => k_all); (case hi => assumption); (case hp => k_extra "turn"); (case hr => (intro z h1 h2 h3; (have h4 := h3); (simp only [List.contains_cons, List.contains_nil, Bool.or_false, Bool.or_eq_false_iff, beq_eq_false_iff_ne, ne_eq] at h3); (simp [h1, h2, h3, h4]))))
  k_with "UnrEnd" => k_dflt ((rename News _ _ _ _ => nE'); (have kMk := kstMark); (refine' UnrEnd.intro (by assumption) nE' _ (fun p hp => hp) ?off ?_); (case off => k_all); clear nE' kMk)
  walk_at "mine go"
  all_goals first
    | exact hq _ _
    | exact getD_zero (fun v => Q (.int v _) _) (by omega) (hq _ _)
end
theorem numF_256 {rd : List Int} {k : Int} (h : ∀ i, 0 ≤ rd.getD i 0 ∧ rd.getD i 0 < 256) : ∀ n ≤ 3, 0 ≤ numF 256 rd k n ∧ numF 256 rd k n < 16777216 := by
  have h0 := h (k.toNat + 0)
  have h1 := h (k.toNat + 1)
  have h2 := h (k.toNat + 2)
  intro n hn
  match n with
  | 0 => simp only [numF]; omega
  | 1 => simp only [numF]; omega
  | 2 => simp only [numF]; omega
  | 3 => simp only [numF]; omega
  | n + 4 => omega
theorem num_turn3 {rd : List Int} {k x j v : Int} {pre : List Int} (hk : 0 ≤ k) (h : ∀ i, 0 ≤ rd.getD i 0 ∧ rd.getD i 0 < 256) (hx : x = numF 256 rd k pre.length) (hj : j = 0 + (pre.length : Int)) (hl : pre.length < 3) (hv : v = rd.getD (k + j).toNat 0) :
    x * 256 + v = numF 256 rd k (pre ++ [j]).length ∧ 0 ≤ x * 256 + v ∧ x * 256 + v < 16777216 := by
  have e : x * 256 + v = numF 256 rd k (pre ++ [j]).length := by
    rw [List.length_append, List.length_singleton, hx, hv, hj, Int.zero_add, Int.toNat_add hk (Int.natCast_nonneg _), Int.toNat_natCast]; rfl
  have hr := numF_256 (k := k) h (pre ++ [j]).length (by rw [List.length_append, List.length_singleton]; omega)
  rw [← e] at hr
  exact ⟨e, hr⟩
theorem num_end3 {rd : List Int} {k x : Int} (hk : 0 ≤ k) (hx : x = numF 256 rd k (rangeKs 0 3).length) : x = num3 rd k.toNat := by
  rw [rangeKs_length] at hx
  simp only [numF, Int.zero_mul, Int.zero_add] at hx
  rw [hx]; rfl
section
variable {w : World} {p : Program} {loose : List Str} {mean : ExcName → Option Value} {mg mb : Str → Option Value} {dp un : Nat} {gd : Option (List Code)} {cn : Str} {cs : Scope} {a : Addr} {ccd : Value} {cl : List (Str × Addr)} {outer : List Env} {L : Addr}
    {g : Heap} {L' : Addr} {m : Str → Option Value} {s : Shared} {E : Value → Shared → Prop} {news : List (Addr × Obj)} {b : Array UInt8} {tb : Tok} {rd : List Int}
    {oc : Value} {od : Option Addr} {osl : Array (Option Value)} {name qual : Str} {params : Arguments} {body : List Stmt} {scope : Scope} {dV kV doc pm cdv ct : Value} {an : Option Addr}
    {st : Stmt} {k : Int} {tk tj : Tok}
theorem wr_num {Q : Flow → Shared → Prop} (ho : (hd.heap_39 w.params).lookup 128 = some ⟨oc, od, .func (fnOf name qual params body scope dV kV doc pm an cdv ct), osl⟩) (hst : second (body.drop 3) = some st)
    (F : Fr g L' s.heap m) (X : (hd.heap_39 w.params).In g) (T : Top p loose mean mg mb g) (h1 : m "row" = some (.bytes b tb)) (h2 : m "k" = some (.int k tk)) (h3 : m "number" = some (.int 0 tj)) (N : News g L' s.heap news) (hb : KBw.bInts b = rd)
    (hk0 : 0 ≤ k) (hk1 : k ≤ 1000) (hlen : rd.length ≤ 1000) (hrd : ∀ n ∈ rd, 0 ≤ n ∧ n < 256)
    (hq : ∀ (x : Int) (h' : Heap) (tk' : Nat) (t : Tok) (u : Str → Option Value), x = num3 rd k.toNat → Fr g L' h' (fun (z : Str) => if z = "j" then u z else if z = "number" then some (.int x t) else m z) → News g L' h' news → Q .next { s with heap := h', toks := tk' }) :
    wpAny (model Challenge.rw_qh0109_01.row.prog w) ((ktrTop dp un gd cn cs L a ccd cl outer).deeper (envOfC qual scope L' 128 cdv))
      (exec st (envOfC qual scope L' 128 cdv)) Q (fun e s' => wpAny (model Challenge.rw_qh0109_01.row.prog w) ((ktrTop dp un gd cn cs L a ccd cl outer).deeper (envOfC qual scope L' 128 cdv)) (leaving (envOfC qual scope L' 128 cdv) e) (fun _ s'' => E e s'') (fun e' s'' => E e' s'') s') s := by
  revert ho hst
  k_fill
  intro ho hst
  refine' look_use ho ?k6 ?_
  (case k6 => k_is)
  intro e
  cases e
  cases hst
  have em := map3 h1 h2 h3
  replace F := frTo F em
  have hg : ∀ i, 0 ≤ rd.getD i 0 ∧ rd.getD i 0 < 256 := getD_by hrd (by decide)
  clear h1 h2 h3
  k_with_none
  w_top off
  k_with "mine sides" => ((case kA => exact rfl); (case kF => exact rfl); (case kK => assumption); (case k6 => k_is); (case k7 => k_is); (case k8 => ktr_room); (case k9 => first | exact BindsTo.of_eq rfl | exact binds_K (by k_in) rfl (by k_is) rfl rfl rfl); (case c5 => decide); (case kB => exact locs rfl); (case c2 => exact rfl); (case c3 => exact rfl); (case c4 => exact rfl); k_whole; intro L' h' F' N' B' X' T'; (try dsimp only); (try k_lift B'); (try k_fold))
  k_with "call type:type" => ((with_reducible show wpAny _ _ (call _ [Value.bytes _ _]) _ _ _); refine call_type_of (Tx := "bytes") rfl (by decide +kernel) ?_)
  k_with "getMethod bytes" => (k_here; (with_reducible refine getm_tr ?_))
  k_with "getMethod type:bytes" => (k_here; k_dflt (refine' getm_mt ?k1 ?k2 ?k3 ?_; (case k1 => k_asm); (case k2 => k_asm); (case k3 => k_is); k_whole))
  k_with "call builtin:bytes.maketrans" => (k_here; k_dflt (refine' call_mt ?k1 ?_; (case k1 => first | rfl | (simp_all; done)); k_whole))
  k_with "call builtin:bytes.translate" => (k_here; k_dflt (refine' call_tr ?k1 ?k2 ?_; (case k1 => first | exact trTab_size _ _ | (simp_all; done)); (case k2 => first | omega | (simp_all; omega)); k_whole); intro t' k')
  k_with "call type:list" => (k_here; (with_reducible show wpAny _ _ (call (Value.type "list") [Value.bytes _ _]) _ _ _); k_dflt (refine' list_bytes_K ?k0 ?k1 ?k2 ?k3 ?_; (case k0 => rfl); (case k1 => k_asm); (case k2 => k_asm); (case k3 => first | decide | (simp_all; omega)); k_whole); intro l' h' tk' vs' c' F' N' l1 iX'; (try k_lt l1); (try k_sweep))
  k_with "mine useV" => ((case k1 => k_asm); (case k2 => k_asm); (case k3 => k_asm); (case k4 => k_asm); (case k5 => k_asm); (case k6 => first | exact rfl | assumption); (case k7 => first | exact True.intro | assumption); (case k8 => exact ⟨by ktr_room, by ktr_units⟩); k_whole)
  k_with "exec For Name Call cons nil" => (k_here; kst_src; (rename Fr _ _ _ _ => lF'); (with_unfolding_all refine' For_invVF lF' ?k1 ?k2 ?_; (case k1 => exact rfl); (case k2 => exact rfl); k_whole))
  k_with "exec For Name Name cons nil" => (k_here; kst_src; (rename Fr _ _ _ _ => lF'); (with_unfolding_all refine' For_invVF lF' ?k1 ?k2 ?_; (case k1 => exact rfl); (case k2 => exact rfl); k_whole))
  k_with "exec For Name Name cons nil" => (k_here; kstb_has; kstb_name; (rename Fr _ _ _ _ => lF'); (with_unfolding_all refine' For_invVF lF' ?k1 ?k2 ?_; (case k1 => exact rfl); (case k2 => exact rfl); k_whole))
  k_with "subscriptTail" => (k_here; (with_reducible show wpAny _ _ (subscriptTail _ _ (Value.bytes _ _) (Value.int _ _)) _ _ _); k_dflt (refine' KBw.item_K ?k1 ?k2 ?k3 ?k4 ?_; (case k1 => with_reducible assumption); (case k2 => simp only [List.length_cons, List.length_nil]; omega); (case k3 => omega); (case k4 => simp only [List.length_cons, List.length_nil]; omega); k_whole); intro _ _ kbaLo kbaHi)
  k_with "mine go" => repeat' (first | (k_unfold; (try dsimp only)) | walk1 | (dsimp only; walk1) | (leave1; (try dsimp only)) | fail "no step")
  k_with "storeName" => (k_here; (dsimp only); walk_at "storeName")
  k_with "call ref" => (k_here; (with_reducible show wpAny _ _ (call (Value.ref 109) _ _) _ _ _); k_dflt (refine' useL (signs_spec _) ?k1 ?k2 ?k3 ?k4 ?k5 ?k6 ?k7 ?k8 ?_; walk_at "mine useV"); intro l' vs' c' h' tk' F' N' ne' iX'; (try simp only [TLg.AllNe, and_true] at ne'); (try k_sweep))
  k_with "call ref" => (k_here; (with_reducible show wpAny _ _ (call (Value.ref 70) [Value.int _ _] _) _ _ _); k_dflt (refine' useV (val_spec _ _ _) ?k1 ?k2 ?k3 ?k4 ?k5 ?k6 ?k7 ?k8 ?_; walk_at "mine useV"); intro v' h' tk' F' N' hv'; obtain ⟨t', e'⟩ := hv'; subst e'; (try k_sweep))
  k_with "call ref" => (k_here; (with_reducible show wpAny _ _ (call (Value.ref 63) [Value.bool _] _) _ _ _); k_dflt (refine' useV (truth_spec _ _) ?k1 ?k2 ?k3 ?k4 ?k5 ?k6 ?k7 ?k8 ?_; walk_at "mine useV"); intro v' h' tk' F' N' hv'; subst hv'; (try k_sweep))
  k_with "call ref" => (k_here; (with_reducible show wpAny _ _ (call (Value.ref 56) [Value.bytes _ _] _) _ _ _); k_dflt (refine' useV (buffer_spec _ _ _) ?k1 ?k2 ?k3 ?k4 ?k5 ?k6 ?k7 ?k8 ?_; walk_at "mine useV"); intro v' h' tk' F' N' hv'; subst hv'; (try k_sweep))
  k_with "call ref" => (k_here; (with_reducible show wpAny _ _ (call (Value.ref 49) [Value.bytes _ _] _) _ _ _); k_dflt (refine' useV (ascii_spec _ _ _) ?k1 ?k2 ?k3 ?k4 ?k5 ?k6 ?k7 ?k8 ?_; walk_at "mine useV"); intro v' h' tk' F' N' hv'; subst hv'; (try k_sweep))
  k_with "call ref" => (k_here; (with_reducible show wpAny _ _ (call (Value.ref 29) [Value.bytes _ _] _) _ _ _); k_dflt (refine' useV (from_spec _ _ _) ?k1 ?k2 ?k3 ?k4 ?k5 ?k6 ?k7 ?k8 ?_; walk_at "mine useV"); intro v' h' tk' F' N' hv'; subst hv'; (try k_sweep))
  k_with "call builtin:len" => (k_here; (with_reducible show wpAny _ _ (call (Value.builtin "len") [Value.bytes _ _]) _ _ _); k_dflt (refine len_two (by assumption) ?_))
  k_with "call ref" => (k_here; (with_reducible show wpAny _ _ (call (Value.ref 86) [Value.bytes _ _] _) _ _ _); k_dflt (refine' useV (b2a_spec _ _ _ _ rfl ?hn) ?k1 ?k2 ?k3 ?k4 ?k5 ?k6 ?k7 ?k8 ?_; (case hn => (rw [KBw.ints_length]; omega)); walk_at "mine useV"); intro v' h' tk' F' N' hv'; obtain ⟨c', t', e', hc', hs'⟩ := hv'; subst e'; (try k_sweep))
  k_with "call ref" => (k_here; (with_reducible show wpAny _ _ (call (Value.ref 78) [Value.bytes _ _] _) _ _ _); k_dflt (refine' useE (a2b_spec _ _ _ _ _ rfl ?hn) ?k1 ?k2 ?k3 ?k4 ?k5 ?k6 ?k8 ?_ ?_; (case hn => (rw [KBw.ints_length]; (try rw [tr_size]); omega)); (case k1 => k_asm); (case k2 => k_asm); (case k3 => k_asm); (case k4 => k_asm); (case k5 => k_asm); (case k6 => first | exact rfl | assumption); (case k8 => exact ⟨by ktr_room, by ktr_units⟩); k_whole); intro v' h' tk' F' N' hv'; (try k_sweep))
  k_with "leaving ref" => k_dflt (refine' leave_onS ?k1 ?k2 ?k3 ?k4 ?_; (case k3 => assumption); (case k2 => assumption); (case k1 => assumption); (case k4 => assumption); k_whole; intro h' R' RK' U')
  k_with "PostT" => (dsimp only [PostT])
  k_with "EndT" => k_dflt ((rename News _ _ _ _ => nE'); (have kMk := kstMark); (refine' EndT.intro (by assumption) nE' ?hy ?hm ?h1 ?h2 ?h3 ?h4 ?hi ?hp ?hr); (case hy => rfl); (case hm => k_memK); (case h1 => k_allIn); (case h2 => (intro p hp; k_ownIn)); (case h3 => k_all); (case h4 => k_all); (case hi => assumption); (case hp => k_extra "turn"); (case hr => (intro z h1 h2 h3; (have h4 := h3); (simp only [List.contains_cons, List.contains_nil, Bool.or_false, Bool.or_eq_false_iff, beq_eq_false_iff_ne, ne_eq] at h3); (simp [h1, h2, h3, h4]))))
  k_with "UnrEnd" => k_dflt ((rename News _ _ _ _ => nE'); (have kMk := kstMark); (refine' UnrEnd.intro (by assumption) nE' _ (fun p hp => hp) ?off ?_); (case off => k_all); clear nE' kMk)
  k_with "eval IfExp" => (k_here; (with_reducible show wpAny _ _ (eval (Expr.IfExp _ (Expr.Subscript (Expr.Name (Str.ofString "row") _) _ _) _ _) _) _ _ _); k_dflt (refine' wr_item ?ho ?F ?X ?T ?h1 ?h2 ?h3 ?N ?hb ?hk0 ?hk1 ?hj0 ?hj1 ?hl ?_; (case ho => k_is); (case F => k_asm); (case X => k_asm); (case T => k_asm); (case h1 => rfl); (case h2 => rfl); (case h3 => rfl); (case N => k_asm); (case hb => assumption); (case hk0 => omega); (case hk1 => omega); (case hj0 => omega); (case hj1 => omega); (case hl => omega); k_whole); intro t' tk')
  k_with "pyIter ref" => k_dflt (k_state_short (fun pre x => x = numF 256 rd k pre.length ∧ 0 ≤ x ∧ x < 16777216) "number")
  k_with "state" => k_dflt (first | exact ⟨rfl, by decide, by decide⟩ | exact num_turn3 hk0 hg (by assumption) (by assumption) (by assumption) rfl)
  walk_at "mine go"
  exact hq _ _ _ _ kU (num_end3 hk0 (by assumption)) (frTo kFr (mapNum em)) kNews
end
noncomputable def TxtP (S os : List Int) (i : Nat) (ns : List Int) : Prop := ns = wtext S os i
theorem k_three (i : Nat) : (0 + (i : Int) * 3).toNat = 3 * i := by rw [Int.zero_add, Int.mul_comm]; rfl
theorem left_three {n i : Nat} (h : (i : Int) * 3 < (n : Int)) : (if (n : Int) - (0 + (i : Int) * 3) < 3 then (n : Int) - (0 + (i : Int) * 3) else 3) = ((min 3 (n - 3 * i) : Nat) : Int) := by split <;> omega
theorem txt_turn {S os ts : List Int} {i t u : Nat} {x : Int} (h : ts = wtext S os i) (hx : x = num3 os (3 * i)) (ht : t = min 3 (os.length - 3 * i) + 1) (hu : u = 3 - min 3 (os.length - 3 * i)) :
    TxtP S os (i + 1) (ts ++ List.map (fun p => S.getD p.toNat 0) (List.take t [x.fdiv 262144, (x.fdiv 4096).fmod 64, (x.fdiv 64).fmod 64, x.fmod 64]) ++ (List.replicate u [61]).flatten) := by
  subst h hx ht hu
  rw [List.flatten_replicate_singleton, List.append_assoc]
  rfl
section
variable {prog : Program} {w : World} {A : Around} {E : Value → Shared → Prop} {s : Shared} {env : Env} {h₀ : Heap} {x y : Str} {body : List Stmt} {Q : Flow → Shared → Prop}
theorem txtLoop {S os : List Int} {r : Addr} {t₀ u₀ v₀ : Tok} {m₀ : Str → Option Value} {rest : List (Addr × Obj)} {l₀ : Addr} {vs₀ : List Value} {ns₀ : List Int} {k₀ : Nat} (stored : List Str) (hS : ∀ n ∈ S, 0 ≤ n ∧ n < 256) (hlen : os.length ≤ 100)
    (hh : A.handled = none) (hr : IsRange s.heap r 0 (os.length : Int) 3 t₀ u₀ v₀) (F : Fr h₀ env.locals s.heap m₀)
    (N : News h₀ env.locals s.heap ((l₀, PySem.W.listOf vs₀.toArray k₀) :: rest)) (ne : ∀ p ∈ rest, p.1 ≠ l₀) (hi : IntsAre vs₀ ns₀) (hy : m₀ y = some (.ref l₀)) (hp : ns₀ = [])
    (turn : ∀ (i : Nat) l vs ns k t (u : Str → Option Value) h tk own, (i : Int) * 3 < (os.length : Int) → (∀ p ∈ rest, p.1 ≠ l) → OwnOff own (l :: rest.map (·.1)) → IntsAre vs ns → ns = wtext S os i → ns.length ≤ 7 * i →
      Fr h₀ env.locals h (fun z => if z = x then some (.int (0 + (i : Int) * 3) t) else if z = y then some (.ref l) else if stored.contains z = true then u z else m₀ z) →
      News h₀ env.locals h ((l, PySem.W.listOf vs.toArray k) :: (rest ++ own)) →
      wpAny (model prog w) A (execs body env) (PostT h₀ env.locals x y stored m₀ rest own (TxtP S os (i + 1)) { s with heap := h, toks := tk } Q) E { s with heap := h, toks := tk })
    (done : ∀ l vs ns k (u : Str → Option Value) h tk, (∀ p ∈ rest, p.1 ≠ l) → IntsAre vs ns → ns = wtext S os ((os.length + 2) / 3) → KBa.In ns → ns.length ≤ 3000 →
      Fr h₀ env.locals h (fun z => if z = x then u z else if z = y then some (.ref l) else if stored.contains z = true then u z else m₀ z) → News h₀ env.locals h ((l, PySem.W.listOf vs.toArray k) :: rest) → Q .next { s with heap := h, toks := tk }) :
    wpAny (model prog w) A (pyIter (.ref r)) (fun it s₂ => LoopAtV prog w A h₀ env x body Q E it s₂) E s := by
  refine rangeNew stored (TxtP S os) hh hr (small3 (by omega)) (rangeSize3 _) F N ne hi hy hp (fun i l vs ns k t u h tk own hlt hne hoff hvs hP => turn i l vs ns k t u h tk own (by omega) hne hoff hvs hP (by rw [hP]; exact wtext_len S os i)) fun l vs ns k u h tk hne hvs hP => done l vs ns k u h tk hne hvs hP (by rw [hP]; exact wtext_rng hS _) (by rw [hP]; exact Nat.le_trans (wtext_len _ _ _) (by omega))
end
theorem wr_tail {w : World} {p : Program} {loose : List Str} {mean : ExcName → Option Value} {mg mb : Str → Option Value} {dp un : Nat} {gd : Option (List Code)} {cn : Str} {cs : Scope} {a : Addr} {ccd : Value} {cl : List (Str × Addr)} {outer : List Env} {L : Addr}
    {g : Heap} {L' : Addr} {m : Str → Option Value} {s : Shared} {Q : Value → Shared → Prop} {E : Value → Shared → Prop} {news : List (Addr × Obj)} {ls : Addr} {vs : List Value} {S os : List Int} {c : Nat} {oc9 : Obj} {b : Array UInt8} {tb : Tok}
    {oc : Value} {od : Option Addr} {osl : Array (Option Value)} {name qual : Str} {params : Arguments} {body : List Stmt} {scope : Scope} {dV kV doc pm cdv ct : Value} {an : Option Addr} {tl : List Stmt}
    (ho : (hd.heap_39 w.params).lookup 128 = some ⟨oc, od, .func (fnOf name qual params body scope dV kV doc pm an cdv ct), osl⟩) (htl : body.drop 2 = tl)
    (F : Fr g L' s.heap m) (X : (hd.heap_39 w.params).In g) (T : Top p loose mean mg mb g) (hr : m "row" = some (.bytes b tb)) (N : News g L' s.heap news) (hN : (ls, PySem.W.listOf vs.toArray c) ∈ news) (hN2 : (L' + 1, oc9) ∈ news) (hd9 : oc9.data = .cell (some (.ref ls))) (ne9 : L' + 1 ≠ ls) (hi : IntsAre vs S) (hS : ∀ n ∈ S, 0 ≤ n ∧ n < 256) (hSl : S.length = 64) (hb : KBw.bInts b = os) (hos : ∀ n ∈ os, 0 ≤ n ∧ n < 256) (hlen : os.length ≤ 100)
    (hend : ∀ b t h' tk, (∀ x o, g.get? x = some o → h'.get? x = some o) → KBw.bInts b = wtext S os ((os.length + 2) / 3) → Q (.bytes b t) { s with heap := h', toks := tk }) :
    wpAny (model Challenge.rw_qh0109_01.row.prog w) ((ktrTop dp un gd cn cs L a ccd cl outer).deeper (envOfC qual scope L' 128 cdv)) (execs tl (envOfC qual scope L' 128 cdv)) (fun fl s' => Q (match fl with | .ret v => v | _ => .none) s')
      (fun e s' => wpAny (model Challenge.rw_qh0109_01.row.prog w) ((ktrTop dp un gd cn cs L a ccd cl outer).deeper (envOfC qual scope L' 128 cdv)) (leaving (envOfC qual scope L' 128 cdv) e) (fun _ s'' => E e s'') (fun e' s'' => E e' s'') s') s := by
  subst htl
  revert ho
  k_fill
  intro ho
  refine' look_use ho ?k6 ?_
  (case k6 => k_is)
  intro e
  cases e
  replace F := frTo F (map1 hr)
  replace N := news2 N hN hN2
  clear hN hr hN2
  k_with_none
  w_top off
  k_with "mine sides" => ((case kA => exact rfl); (case kF => exact rfl); (case kK => assumption); (case k6 => k_is); (case k7 => k_is); (case k8 => ktr_room); (case k9 => first | exact BindsTo.of_eq rfl | exact binds_K (by k_in) rfl (by k_is) rfl rfl rfl); (case c5 => decide); (case kB => exact locs rfl); (case c2 => exact rfl); (case c3 => exact rfl); (case c4 => exact rfl); k_whole; intro L' h' F' N' B' X' T'; (try dsimp only); (try k_lift B'); (try k_fold))
  k_with "call type:type" => ((with_reducible show wpAny _ _ (call _ [Value.bytes _ _]) _ _ _); refine call_type_of (Tx := "bytes") rfl (by decide +kernel) ?_)
  k_with "getMethod bytes" => (k_here; (with_reducible refine getm_tr ?_))
  k_with "getMethod type:bytes" => (k_here; k_dflt (refine' getm_mt ?k1 ?k2 ?k3 ?_; (case k1 => k_asm); (case k2 => k_asm); (case k3 => k_is); k_whole))
  k_with "call builtin:bytes.maketrans" => (k_here; k_dflt (refine' call_mt ?k1 ?_; (case k1 => first | rfl | (simp_all; done)); k_whole))
  k_with "call builtin:bytes.translate" => (k_here; k_dflt (refine' call_tr ?k1 ?k2 ?_; (case k1 => first | exact trTab_size _ _ | (simp_all; done)); (case k2 => first | omega | (simp_all; omega)); k_whole); intro t' k')
  k_with "call type:list" => (k_here; (with_reducible show wpAny _ _ (call (Value.type "list") [Value.bytes _ _]) _ _ _); k_dflt (refine' list_bytes_K ?k0 ?k1 ?k2 ?k3 ?_; (case k0 => rfl); (case k1 => k_asm); (case k2 => k_asm); (case k3 => first | decide | (simp_all; omega)); k_whole); intro l' h' tk' vs' c' F' N' l1 iX'; (try k_lt l1); (try k_sweep))
  k_with "mine useV" => ((case k1 => k_asm); (case k2 => k_asm); (case k3 => k_asm); (case k4 => k_asm); (case k5 => k_asm); (case k6 => first | exact rfl | assumption); (case k7 => first | exact True.intro | assumption); (case k8 => exact ⟨by ktr_room, by ktr_units⟩); k_whole)
  k_with "exec For Name Call cons nil" => (k_here; kst_src; (rename Fr _ _ _ _ => lF'); (with_unfolding_all refine' For_invVF lF' ?k1 ?k2 ?_; (case k1 => exact rfl); (case k2 => exact rfl); k_whole))
  k_with "exec For Name Name cons nil" => (k_here; kst_src; (rename Fr _ _ _ _ => lF'); (with_unfolding_all refine' For_invVF lF' ?k1 ?k2 ?_; (case k1 => exact rfl); (case k2 => exact rfl); k_whole))
  k_with "exec For Name Name cons nil" => (k_here; kstb_has; kstb_name; (rename Fr _ _ _ _ => lF'); (with_unfolding_all refine' For_invVF lF' ?k1 ?k2 ?_; (case k1 => exact rfl); (case k2 => exact rfl); k_whole))
  k_with "subscriptTail" => (k_here; (with_reducible show wpAny _ _ (subscriptTail _ _ (Value.bytes _ _) (Value.int _ _)) _ _ _); k_dflt (refine' KBw.item_K ?k1 ?k2 ?k3 ?k4 ?_; (case k1 => with_reducible assumption); (case k2 => simp only [List.length_cons, List.length_nil]; omega); (case k3 => omega); (case k4 => simp only [List.length_cons, List.length_nil]; omega); k_whole); intro _ _ kbaLo kbaHi)
  k_with "mine go" => repeat' (first | (k_unfold; (try dsimp only)) | walk1 | (dsimp only; walk1) | (leave1; (try dsimp only)) | fail "no step")
  k_with "storeName" => (k_here; (dsimp only); walk_at "storeName")
  k_with "call ref" => (k_here; (with_reducible show wpAny _ _ (call (Value.ref 109) _ _) _ _ _); k_dflt (refine' useL (signs_spec _) ?k1 ?k2 ?k3 ?k4 ?k5 ?k6 ?k7 ?k8 ?_; walk_at "mine useV"); intro l' vs' c' h' tk' F' N' ne' iX'; (try simp only [TLg.AllNe, and_true] at ne'); (try k_sweep))
  k_with "call ref" => (k_here; (with_reducible show wpAny _ _ (call (Value.ref 70) [Value.int _ _] _) _ _ _); k_dflt (refine' useV (val_spec _ _ _) ?k1 ?k2 ?k3 ?k4 ?k5 ?k6 ?k7 ?k8 ?_; walk_at "mine useV"); intro v' h' tk' F' N' hv'; obtain ⟨t', e'⟩ := hv'; subst e'; (try k_sweep))
  k_with "call ref" => (k_here; (with_reducible show wpAny _ _ (call (Value.ref 63) [Value.bool _] _) _ _ _); k_dflt (refine' useV (truth_spec _ _) ?k1 ?k2 ?k3 ?k4 ?k5 ?k6 ?k7 ?k8 ?_; walk_at "mine useV"); intro v' h' tk' F' N' hv'; subst hv'; (try k_sweep))
  k_with "call ref" => (k_here; (with_reducible show wpAny _ _ (call (Value.ref 56) [Value.bytes _ _] _) _ _ _); k_dflt (refine' useV (buffer_spec _ _ _) ?k1 ?k2 ?k3 ?k4 ?k5 ?k6 ?k7 ?k8 ?_; walk_at "mine useV"); intro v' h' tk' F' N' hv'; subst hv'; (try k_sweep))
  k_with "call ref" => (k_here; (with_reducible show wpAny _ _ (call (Value.ref 49) [Value.bytes _ _] _) _ _ _); k_dflt (refine' useV (ascii_spec _ _ _) ?k1 ?k2 ?k3 ?k4 ?k5 ?k6 ?k7 ?k8 ?_; walk_at "mine useV"); intro v' h' tk' F' N' hv'; subst hv'; (try k_sweep))
  k_with "call ref" => (k_here; (with_reducible show wpAny _ _ (call (Value.ref 29) [Value.bytes _ _] _) _ _ _); k_dflt (refine' useV (from_spec _ _ _) ?k1 ?k2 ?k3 ?k4 ?k5 ?k6 ?k7 ?k8 ?_; walk_at "mine useV"); intro v' h' tk' F' N' hv'; subst hv'; (try k_sweep))
  k_with "call builtin:len" => (k_here; (with_reducible show wpAny _ _ (call (Value.builtin "len") [Value.bytes _ _]) _ _ _); k_dflt (refine len_two (by assumption) ?_))
  k_with "call ref" => (k_here; (with_reducible show wpAny _ _ (call (Value.ref 86) [Value.bytes _ _] _) _ _ _); k_dflt (refine' useV (b2a_spec _ _ _ _ rfl ?hn) ?k1 ?k2 ?k3 ?k4 ?k5 ?k6 ?k7 ?k8 ?_; (case hn => (rw [KBw.ints_length]; omega)); walk_at "mine useV"); intro v' h' tk' F' N' hv'; obtain ⟨c', t', e', hc', hs'⟩ := hv'; subst e'; (try k_sweep))
  k_with "call ref" => (k_here; (with_reducible show wpAny _ _ (call (Value.ref 78) [Value.bytes _ _] _) _ _ _); k_dflt (refine' useE (a2b_spec _ _ _ _ _ rfl ?hn) ?k1 ?k2 ?k3 ?k4 ?k5 ?k6 ?k8 ?_ ?_; (case hn => (rw [KBw.ints_length]; (try rw [tr_size]); omega)); (case k1 => k_asm); (case k2 => k_asm); (case k3 => k_asm); (case k4 => k_asm); (case k5 => k_asm); (case k6 => first | exact rfl | assumption); (case k8 => exact ⟨by ktr_room, by ktr_units⟩); k_whole); intro v' h' tk' F' N' hv'; (try k_sweep))
  k_with "leaving ref" => k_dflt (refine' leave_onS ?k1 ?k2 ?k3 ?k4 ?_; (case k3 => assumption); (case k2 => assumption); (case k1 => assumption); (case k4 => assumption); k_whole; intro h' R' RK' U')
  k_with "PostT" => (dsimp only [PostT])
  k_with "EndT" => k_dflt ((rename News _ _ _ _ => nE'); (have kMk := kstMark); (refine' EndT.intro (by assumption) nE' ?hy ?hm ?h1 ?h2 ?h3 ?h4 ?hi ?hp ?hr); (case hy => rfl); (case hm => k_memK); (case h1 => k_allIn); (case h2 => (intro p hp; k_ownIn)); (case h3 => k_all); (case h4 => k_all); (case hi => assumption); (case hp => k_extra "turn"); (case hr => (intro z h1 h2 h3; (have h4 := h3); (simp only [List.contains_cons, List.contains_nil, Bool.or_false, Bool.or_eq_false_iff, beq_eq_false_iff_ne, ne_eq] at h3); (simp [h1, h2, h3, h4]))))
  k_with "UnrEnd" => k_dflt ((rename News _ _ _ _ => nE'); (have kMk := kstMark); (refine' UnrEnd.intro (by assumption) nE' _ (fun p hp => hp) ?off ?_); (case off => k_all); clear nE' kMk)
  k_with "eval IfExp" => (k_here; (with_reducible show wpAny _ _ (eval (Expr.IfExp _ (Expr.Subscript (Expr.Name (Str.ofString "row") _) _ _) _ _) _) _ _ _); k_dflt (refine' wr_item ?ho ?F ?X ?T ?h1 ?h2 ?h3 ?N ?hb ?hk0 ?hk1 ?hj0 ?hj1 ?hl ?_; (case ho => k_is); (case F => k_asm); (case X => k_asm); (case T => k_asm); (case h1 => rfl); (case h2 => rfl); (case h3 => rfl); (case N => k_asm); (case hb => assumption); (case hk0 => omega); (case hk1 => omega); (case hj0 => omega); (case hj1 => omega); (case hl => omega); k_whole); intro t' tk')
  k_with "exec For Name Call cons nil" => (k_here; (with_reducible show wpAny _ _ (exec (Stmt.For (Expr.Name (Str.ofString "j") _) _ _ _ _) _) _ _ _); k_dflt (refine' wr_num ?ho ?hst ?F ?X ?T ?h1 ?h2 ?h3 ?N ?hb ?hk0 ?hk1 ?hl ?hrd ?_; (case ho => k_is); (case hst => rfl); (case F => k_asm); (case X => k_asm); (case T => k_asm); (case h1 => rfl); (case h2 => rfl); (case h3 => rfl); (case N => k_asm); (case hb => assumption); (case hk0 => omega); (case hk1 => omega); (case hl => omega); (case hrd => assumption); k_whole); intro x9 h' tk' t9 u9 hx9 F' N'; (have hx8 := num3_rng hos (0 + (i : Int) * 3).toNat); (rw [← hx9] at hx8); (try k_sweep))
  k_with "eval ListComp" => (k_here; k_dflt (refine LCg.ListComp_U (F₀ := by k_asm) (by with_unfolding_all rfl) (by decide) (by rfl) (by decide) (by rfl) ?_))
  k_with "subscriptTail" => (k_here; (with_reducible show wpAny _ _ (subscriptTail (Expr.Name (Str.ofString "signs") _) _ (Value.ref _) (Value.int _ _)) _ _ _); (with_reducible rename _ ∈ List.take _ _ => hk9); (have hk8 := four_rng hx8.1 hx8.2 _ hk9); k_dflt (refine' ksa_sub ?k1 ?k2 ?k3 ?k4 ?k5 ?k6 ?_ ?k7; (case k1 => k_asm); (case k2 => k_mem); (case k3 => with_reducible assumption); (case k4 => exact hk8.1); (case k5 => omega); (case k6 => omega); (case k7 => with_unfolding_all rfl); k_whole))
  k_with "CompSrc" => (k_here; k_dflt (refine LCg.CompSrc.ledger (by rfl) (by k_asm) (by k_asm) (by k_mem) (by kcf_size) ?_; intro g'; (refine' kcf_list (fun p => S.getD p.toNat 0) (by with_reducible assumption) (fun k' t' I' oI' C' oC' D' m' ys' h' tk' E' hk9 hC' hx' F' N' off' ne' hMark' => ?_) ?_); (all_goals (try (simp only [LCg.Off3, and_true] at off'))); kcf_last))
  k_with "KCfEl" => k_dflt (exact kcf_el rfl rfl rfl)
  k_with "pyIter ref" => k_dflt ((with_reducible show wpAny _ _ (pyIter (Value.ref _)) (fun it s₂ => LoopAtV _ _ _ _ _ _ _ _ _ it s₂) _ _); (rename IsRange _ _ _ _ _ _ _ _ => rgX); (rename Fr _ _ _ _ => lF'); (rename News _ _ _ _ => lN'); (with_unfolding_all refine' txtLoop (y := "text") ["number", "j", "four", "left"] hS (by omega) (by rfl) rgX lF' lN' (by k_all) IntsAre.nil (by rfl) (by rfl) ?_ ?_); (all_goals (try clear lF' lN')); (intro i l ws ts k t u h tk own hlt hne hoff hws hts htl kFr kNews; (try simp only [List.cons_append, List.nil_append] at kNews); (try simp only [List.map_cons, List.map_nil] at hoff); (replace hne := TLgL.allNe_of hne); (simp only [TLg.AllNe, and_true] at hne); (try k_fold)); rotate_left; (intro l ws ts k u h tk hne hws hts hin hol kFr kNews; (replace hne := TLgL.allNe_of hne); (simp only [TLg.AllNe, and_true] at hne); (try k_fold)); rotate_left)
  k_with "turn" => k_dflt (refine' txt_turn ?h1 ?h2 ?h3 ?h4; (case h1 => assumption); (case h2 => (rw [hx9, k_three])); (case h3 => (rw [left_three hlt]; rfl)); (case h4 => (rw [left_three hlt]; exact Int.toNat_sub 3 _)))
  show wpAny _ _ (execs [_, _, _] _) _ _ _
  k_fold
  walk_at "mine go"
  all_goals (refine hend _ _ _ _ (Fr.keep (by assumption)) ?_)
  all_goals ((rename (_ = wtext _ _ _) => hos9); rw [← hos9]; exact KBa.ints_make (by assumption))
theorem signs_all : ∀ n ∈ signs, (0 : Int) ≤ n ∧ n < 256 := by decide +kernel
noncomputable def signsOf : Option (Int × Int) → List Int
  | none => signs
  | some (x, y) => signs.take 62 ++ [x, y]
theorem signsOf_all {x y : Int} (hx : 0 ≤ x ∧ x < 256) (hy : 0 ≤ y ∧ y < 256) : ∀ n ∈ signsOf (some (x, y)), 0 ≤ n ∧ n < 256 := by
  intro n hn
  rcases List.mem_append.mp hn with hn | hn
  · exact signs_all n (List.mem_of_mem_take hn)
  · rcases List.mem_cons.mp hn with rfl | hn
    · exact hx
    · rw [List.mem_singleton.mp hn]; exact hy
theorem written_none (w : World) (b : Array UInt8) (tb : Tok) (os : List Int) (hb : KBw.bInts b = os) (hn : os.length ≤ 60) :
    Calls w 128 [.bytes b tb, .none] [] 4 (fun _ => True) (fun _ _ v => ∃ c t, v = .bytes c t ∧ KBw.bInts c = wtext (signsOf none) os ((os.length + 2) / 3)) := by
  unfold Calls
  k_fill
  intro p loose mean mg mb dp un gd cn cs a ccd cl outer A₀ base h₀ L m s Q E B F X T hk hpre hR hret
  refine wpAny_call ?_
  have hos : ∀ n ∈ os, 0 ≤ n ∧ n < 256 := fun n h => KBw.ints_in (b := b) (hb ▸ h)
  k_with_none
  w_top off
  k_with "mine sides" => ((case kA => exact rfl); (case kF => exact rfl); (case kK => assumption); (case k6 => k_is); (case k7 => k_is); (case k8 => ktr_room); (case k9 => first | exact BindsTo.of_eq rfl | exact binds_K (by k_in) rfl (by k_is) rfl rfl rfl); (case c5 => decide); (case kB => exact locs rfl); (case c2 => exact rfl); (case c3 => exact rfl); (case c4 => exact rfl); k_whole; intro L' h' F' N' B' X' T'; (try dsimp only); (try k_lift B'); (try k_fold))
  k_with "call type:type" => ((with_reducible show wpAny _ _ (call _ [Value.bytes _ _]) _ _ _); refine call_type_of (Tx := "bytes") rfl (by decide +kernel) ?_)
  k_with "getMethod bytes" => (k_here; (with_reducible refine getm_tr ?_))
  k_with "getMethod type:bytes" => (k_here; k_dflt (refine' getm_mt ?k1 ?k2 ?k3 ?_; (case k1 => k_asm); (case k2 => k_asm); (case k3 => k_is); k_whole))
  k_with "call builtin:bytes.maketrans" => (k_here; k_dflt (refine' call_mt ?k1 ?_; (case k1 => first | rfl | (simp_all; done)); k_whole))
  k_with "call builtin:bytes.translate" => (k_here; k_dflt (refine' call_tr ?k1 ?k2 ?_; (case k1 => first | exact trTab_size _ _ | (simp_all; done)); (case k2 => first | omega | (simp_all; omega)); k_whole); intro t' k')
  k_with "call type:list" => (k_here; (with_reducible show wpAny _ _ (call (Value.type "list") [Value.bytes _ _]) _ _ _); k_dflt (refine' list_bytes_K ?k0 ?k1 ?k2 ?k3 ?_; (case k0 => rfl); (case k1 => k_asm); (case k2 => k_asm); (case k3 => first | decide | (simp_all; omega)); k_whole); intro l' h' tk' vs' c' F' N' l1 iX'; (try k_lt l1); (try k_sweep))
  k_with "mine useV" => ((case k1 => k_asm); (case k2 => k_asm); (case k3 => k_asm); (case k4 => k_asm); (case k5 => k_asm); (case k6 => first | exact rfl | assumption); (case k7 => first | exact True.intro | assumption); (case k8 => exact ⟨by ktr_room, by ktr_units⟩); k_whole)
  k_with "exec For Name Call cons nil" => (k_here; kst_src; (rename Fr _ _ _ _ => lF'); (with_unfolding_all refine' For_invVF lF' ?k1 ?k2 ?_; (case k1 => exact rfl); (case k2 => exact rfl); k_whole))
  k_with "exec For Name Name cons nil" => (k_here; kst_src; (rename Fr _ _ _ _ => lF'); (with_unfolding_all refine' For_invVF lF' ?k1 ?k2 ?_; (case k1 => exact rfl); (case k2 => exact rfl); k_whole))
  k_with "exec For Name Name cons nil" => (k_here; kstb_has; kstb_name; (rename Fr _ _ _ _ => lF'); (with_unfolding_all refine' For_invVF lF' ?k1 ?k2 ?_; (case k1 => exact rfl); (case k2 => exact rfl); k_whole))
  k_with "subscriptTail" => (k_here; (with_reducible show wpAny _ _ (subscriptTail _ _ (Value.bytes _ _) (Value.int _ _)) _ _ _); k_dflt (refine' KBw.item_K ?k1 ?k2 ?k3 ?k4 ?_; (case k1 => with_reducible assumption); (case k2 => simp only [List.length_cons, List.length_nil]; omega); (case k3 => omega); (case k4 => simp only [List.length_cons, List.length_nil]; omega); k_whole); intro _ _ kbaLo kbaHi)
  k_with "mine go" => repeat' (first | (k_unfold; (try dsimp only)) | walk1 | (dsimp only; walk1) | (leave1; (try dsimp only)) | fail "no step")
  k_with "storeName" => (k_here; (dsimp only); walk_at "storeName")
  k_with "call ref" => (k_here; (with_reducible show wpAny _ _ (call (Value.ref 109) _ _) _ _ _); k_dflt (refine' useL (signs_spec _) ?k1 ?k2 ?k3 ?k4 ?k5 ?k6 ?k7 ?k8 ?_; walk_at "mine useV"); intro l' vs' c' h' tk' F' N' ne' iX'; (try simp only [TLg.AllNe, and_true] at ne'); (try k_sweep))
  k_with "call ref" => (k_here; (with_reducible show wpAny _ _ (call (Value.ref 70) [Value.int _ _] _) _ _ _); k_dflt (refine' useV (val_spec _ _ _) ?k1 ?k2 ?k3 ?k4 ?k5 ?k6 ?k7 ?k8 ?_; walk_at "mine useV"); intro v' h' tk' F' N' hv'; obtain ⟨t', e'⟩ := hv'; subst e'; (try k_sweep))
  k_with "call ref" => (k_here; (with_reducible show wpAny _ _ (call (Value.ref 63) [Value.bool _] _) _ _ _); k_dflt (refine' useV (truth_spec _ _) ?k1 ?k2 ?k3 ?k4 ?k5 ?k6 ?k7 ?k8 ?_; walk_at "mine useV"); intro v' h' tk' F' N' hv'; subst hv'; (try k_sweep))
  k_with "call ref" => (k_here; (with_reducible show wpAny _ _ (call (Value.ref 56) [Value.bytes _ _] _) _ _ _); k_dflt (refine' useV (buffer_spec _ _ _) ?k1 ?k2 ?k3 ?k4 ?k5 ?k6 ?k7 ?k8 ?_; walk_at "mine useV"); intro v' h' tk' F' N' hv'; subst hv'; (try k_sweep))
  k_with "call ref" => (k_here; (with_reducible show wpAny _ _ (call (Value.ref 49) [Value.bytes _ _] _) _ _ _); k_dflt (refine' useV (ascii_spec _ _ _) ?k1 ?k2 ?k3 ?k4 ?k5 ?k6 ?k7 ?k8 ?_; walk_at "mine useV"); intro v' h' tk' F' N' hv'; subst hv'; (try k_sweep))
  k_with "call ref" => (k_here; (with_reducible show wpAny _ _ (call (Value.ref 29) [Value.bytes _ _] _) _ _ _); k_dflt (refine' useV (from_spec _ _ _) ?k1 ?k2 ?k3 ?k4 ?k5 ?k6 ?k7 ?k8 ?_; walk_at "mine useV"); intro v' h' tk' F' N' hv'; subst hv'; (try k_sweep))
  k_with "call builtin:len" => (k_here; (with_reducible show wpAny _ _ (call (Value.builtin "len") [Value.bytes _ _]) _ _ _); k_dflt (refine len_two (by assumption) ?_))
  k_with "call ref" => (k_here; (with_reducible show wpAny _ _ (call (Value.ref 86) [Value.bytes _ _] _) _ _ _); k_dflt (refine' useV (b2a_spec _ _ _ _ rfl ?hn) ?k1 ?k2 ?k3 ?k4 ?k5 ?k6 ?k7 ?k8 ?_; (case hn => (rw [KBw.ints_length]; omega)); walk_at "mine useV"); intro v' h' tk' F' N' hv'; obtain ⟨c', t', e', hc', hs'⟩ := hv'; subst e'; (try k_sweep))
  k_with "call ref" => (k_here; (with_reducible show wpAny _ _ (call (Value.ref 78) [Value.bytes _ _] _) _ _ _); k_dflt (refine' useE (a2b_spec _ _ _ _ _ rfl ?hn) ?k1 ?k2 ?k3 ?k4 ?k5 ?k6 ?k8 ?_ ?_; (case hn => (rw [KBw.ints_length]; (try rw [tr_size]); omega)); (case k1 => k_asm); (case k2 => k_asm); (case k3 => k_asm); (case k4 => k_asm); (case k5 => k_asm); (case k6 => first | exact rfl | assumption); (case k8 => exact ⟨by ktr_room, by ktr_units⟩); k_whole); intro v' h' tk' F' N' hv'; (try k_sweep))
  k_with "leaving ref" => k_dflt (refine' leave_onS ?k1 ?k2 ?k3 ?k4 ?_; (case k3 => assumption); (case k2 => assumption); (case k1 => assumption); (case k4 => assumption); k_whole; intro h' R' RK' U')
  k_with "PostT" => (dsimp only [PostT])
  k_with "EndT" => k_dflt ((rename News _ _ _ _ => nE'); (have kMk := kstMark); (refine' EndT.intro (by assumption) nE' ?hy ?hm ?h1 ?h2 ?h3 ?h4 ?hi ?hp ?hr); (case hy => rfl); (case hm => k_memK); (case h1 => k_allIn); (case h2 => (intro p hp; k_ownIn)); (case h3 => k_all); (case h4 => k_all); (case hi => assumption); (case hp => k_extra "turn"); (case hr => (intro z h1 h2 h3; (have h4 := h3); (simp only [List.contains_cons, List.contains_nil, Bool.or_false, Bool.or_eq_false_iff, beq_eq_false_iff_ne, ne_eq] at h3); (simp [h1, h2, h3, h4]))))
  k_with "UnrEnd" => k_dflt ((rename News _ _ _ _ => nE'); (have kMk := kstMark); (refine' UnrEnd.intro (by assumption) nE' _ (fun p hp => hp) ?off ?_); (case off => k_all); clear nE' kMk)
  k_with "mine sidesC" => ((case kA => exact rfl); (case kF => exact rfl); (case kK => assumption); (case k6 => k_is); (case k7 => k_is); (case k8 => ktr_room); (case k9 => first | exact BindsTo.of_eq rfl | exact binds_K (by k_in) rfl (by k_is) rfl rfl rfl); (case kB => exact rfl); (case kD => decide); (case c2 => exact rfl); (case c3 => exact rfl); (case c4 => exact rfl); k_whole; intro L' h' tk' cells F' N' Y' B' X' T'; (try dsimp only); (k_cells Y'); (try k_lift B'); (try k_fold))
  k_with "execs cons Assign cons" => k_dflt ((with_reducible show wpAny _ _ (execs (Stmt.Assign [Expr.Name (Str.ofString "text") _] _ _ :: _) _) _ _ _); (refine' wr_tail ?ho ?htl ?F ?X ?T ?hr ?N ?hN ?hN2 ?hd9 ?ne9 ?hi ?hS ?hSl ?hb ?hos ?hlen ?_); (case ho => k_is); (case htl => rfl); (case F => assumption); (case X => assumption); (case T => assumption); (case hr => rfl); (case N => assumption); (case hN2 => k_memK); (case hd9 => assumption); (case hN => k_memK); (case ne9 => first | assumption | k_ne); (case hi => assumption); (case hb => assumption); (case hlen => omega); (case hos => assumption); (case hS => first | exact signs_all | exact signsOf_all (by assumption) (by assumption)); (case hSl => rfl); (intro b' t' h' tk' st' hb'))
  k_dflt (refine' enterSC (binds := [("row", .bytes b tb), ("pair", .none)]) B F X T ?kA ?kF ?kK ?k6 ?k7 ?k8 ?k9 ?kB ?kD ?_ ?c2 ?c3 ?c4; walk_at "mine sidesC")
  walk_at "mine go"
  all_goals exact hret _ _ _ st' ⟨_, _, rfl, hb'⟩
theorem written_bytes (w : World) (b : Array UInt8) (tb : Tok) (os : List Int) (hb : KBw.bInts b = os) (hn : os.length ≤ 60) (pb : Array UInt8) (u : Tok) (p0 p1 : Int) (hp : KBw.bInts pb = [p0, p1]) (hp0 : 0 ≤ p0 ∧ p0 < 256) (hp1 : 0 ≤ p1 ∧ p1 < 256) :
    Calls w 128 [.bytes b tb, .bytes pb u] [] 4 (fun _ => True) (fun _ _ v => ∃ c t, v = .bytes c t ∧ KBw.bInts c = wtext (signsOf (some (p0, p1))) os ((os.length + 2) / 3)) := by
  unfold Calls
  k_fill
  intro p loose mean mg mb dp un gd cn cs a ccd cl outer A₀ base h₀ L m s Q E B F X T hk hpre hR hret
  refine wpAny_call ?_
  have hos : ∀ n ∈ os, 0 ≤ n ∧ n < 256 := fun n h => KBw.ints_in (b := b) (hb ▸ h)
  k_with_none
  w_top off
  k_with "mine sides" => ((case kA => exact rfl); (case kF => exact rfl); (case kK => assumption); (case k6 => k_is); (case k7 => k_is); (case k8 => ktr_room); (case k9 => first | exact BindsTo.of_eq rfl | exact binds_K (by k_in) rfl (by k_is) rfl rfl rfl); (case c5 => decide); (case kB => exact locs rfl); (case c2 => exact rfl); (case c3 => exact rfl); (case c4 => exact rfl); k_whole; intro L' h' F' N' B' X' T'; (try dsimp only); (try k_lift B'); (try k_fold))
  k_with "call type:type" => ((with_reducible show wpAny _ _ (call _ [Value.bytes _ _]) _ _ _); refine call_type_of (Tx := "bytes") rfl (by decide +kernel) ?_)
  k_with "getMethod bytes" => (k_here; (with_reducible refine getm_tr ?_))
  k_with "getMethod type:bytes" => (k_here; k_dflt (refine' getm_mt ?k1 ?k2 ?k3 ?_; (case k1 => k_asm); (case k2 => k_asm); (case k3 => k_is); k_whole))
  k_with "call builtin:bytes.maketrans" => (k_here; k_dflt (refine' call_mt ?k1 ?_; (case k1 => first | rfl | (simp_all; done)); k_whole))
  k_with "call builtin:bytes.translate" => (k_here; k_dflt (refine' call_tr ?k1 ?k2 ?_; (case k1 => first | exact trTab_size _ _ | (simp_all; done)); (case k2 => first | omega | (simp_all; omega)); k_whole); intro t' k')
  k_with "call type:list" => (k_here; (with_reducible show wpAny _ _ (call (Value.type "list") [Value.bytes _ _]) _ _ _); k_dflt (refine' list_bytes_K ?k0 ?k1 ?k2 ?k3 ?_; (case k0 => rfl); (case k1 => k_asm); (case k2 => k_asm); (case k3 => first | decide | (simp_all; omega)); k_whole); intro l' h' tk' vs' c' F' N' l1 iX'; (try k_lt l1); (try k_sweep))
  k_with "mine useV" => ((case k1 => k_asm); (case k2 => k_asm); (case k3 => k_asm); (case k4 => k_asm); (case k5 => k_asm); (case k6 => first | exact rfl | assumption); (case k7 => first | exact True.intro | assumption); (case k8 => exact ⟨by ktr_room, by ktr_units⟩); k_whole)
  k_with "exec For Name Call cons nil" => (k_here; kst_src; (rename Fr _ _ _ _ => lF'); (with_unfolding_all refine' For_invVF lF' ?k1 ?k2 ?_; (case k1 => exact rfl); (case k2 => exact rfl); k_whole))
  k_with "exec For Name Name cons nil" => (k_here; kst_src; (rename Fr _ _ _ _ => lF'); (with_unfolding_all refine' For_invVF lF' ?k1 ?k2 ?_; (case k1 => exact rfl); (case k2 => exact rfl); k_whole))
  k_with "exec For Name Name cons nil" => (k_here; kstb_has; kstb_name; (rename Fr _ _ _ _ => lF'); (with_unfolding_all refine' For_invVF lF' ?k1 ?k2 ?_; (case k1 => exact rfl); (case k2 => exact rfl); k_whole))
  k_with "subscriptTail" => (k_here; (with_reducible show wpAny _ _ (subscriptTail _ _ (Value.bytes _ _) (Value.int _ _)) _ _ _); k_dflt (refine' KBw.item_K ?k1 ?k2 ?k3 ?k4 ?_; (case k1 => with_reducible assumption); (case k2 => simp only [List.length_cons, List.length_nil]; omega); (case k3 => omega); (case k4 => simp only [List.length_cons, List.length_nil]; omega); k_whole); intro _ _ kbaLo kbaHi)
  k_with "mine go" => repeat' (first | (k_unfold; (try dsimp only)) | walk1 | (dsimp only; walk1) | (leave1; (try dsimp only)) | fail "no step")
  k_with "storeName" => (k_here; (dsimp only); walk_at "storeName")
  k_with "call ref" => (k_here; (with_reducible show wpAny _ _ (call (Value.ref 109) _ _) _ _ _); k_dflt (refine' useL (signs_spec _) ?k1 ?k2 ?k3 ?k4 ?k5 ?k6 ?k7 ?k8 ?_; walk_at "mine useV"); intro l' vs' c' h' tk' F' N' ne' iX'; (try simp only [TLg.AllNe, and_true] at ne'); (try k_sweep))
  k_with "call ref" => (k_here; (with_reducible show wpAny _ _ (call (Value.ref 70) [Value.int _ _] _) _ _ _); k_dflt (refine' useV (val_spec _ _ _) ?k1 ?k2 ?k3 ?k4 ?k5 ?k6 ?k7 ?k8 ?_; walk_at "mine useV"); intro v' h' tk' F' N' hv'; obtain ⟨t', e'⟩ := hv'; subst e'; (try k_sweep))
  k_with "call ref" => (k_here; (with_reducible show wpAny _ _ (call (Value.ref 63) [Value.bool _] _) _ _ _); k_dflt (refine' useV (truth_spec _ _) ?k1 ?k2 ?k3 ?k4 ?k5 ?k6 ?k7 ?k8 ?_; walk_at "mine useV"); intro v' h' tk' F' N' hv'; subst hv'; (try k_sweep))
  k_with "call ref" => (k_here; (with_reducible show wpAny _ _ (call (Value.ref 56) [Value.bytes _ _] _) _ _ _); k_dflt (refine' useV (buffer_spec _ _ _) ?k1 ?k2 ?k3 ?k4 ?k5 ?k6 ?k7 ?k8 ?_; walk_at "mine useV"); intro v' h' tk' F' N' hv'; subst hv'; (try k_sweep))
  k_with "call ref" => (k_here; (with_reducible show wpAny _ _ (call (Value.ref 49) [Value.bytes _ _] _) _ _ _); k_dflt (refine' useV (ascii_spec _ _ _) ?k1 ?k2 ?k3 ?k4 ?k5 ?k6 ?k7 ?k8 ?_; walk_at "mine useV"); intro v' h' tk' F' N' hv'; subst hv'; (try k_sweep))
  k_with "call ref" => (k_here; (with_reducible show wpAny _ _ (call (Value.ref 29) [Value.bytes _ _] _) _ _ _); k_dflt (refine' useV (from_spec _ _ _) ?k1 ?k2 ?k3 ?k4 ?k5 ?k6 ?k7 ?k8 ?_; walk_at "mine useV"); intro v' h' tk' F' N' hv'; subst hv'; (try k_sweep))
  k_with "call builtin:len" => (k_here; (with_reducible show wpAny _ _ (call (Value.builtin "len") [Value.bytes _ _]) _ _ _); k_dflt (refine len_two (by assumption) ?_))
  k_with "call ref" => (k_here; (with_reducible show wpAny _ _ (call (Value.ref 86) [Value.bytes _ _] _) _ _ _); k_dflt (refine' useV (b2a_spec _ _ _ _ rfl ?hn) ?k1 ?k2 ?k3 ?k4 ?k5 ?k6 ?k7 ?k8 ?_; (case hn => (rw [KBw.ints_length]; omega)); walk_at "mine useV"); intro v' h' tk' F' N' hv'; obtain ⟨c', t', e', hc', hs'⟩ := hv'; subst e'; (try k_sweep))
  k_with "call ref" => (k_here; (with_reducible show wpAny _ _ (call (Value.ref 78) [Value.bytes _ _] _) _ _ _); k_dflt (refine' useE (a2b_spec _ _ _ _ _ rfl ?hn) ?k1 ?k2 ?k3 ?k4 ?k5 ?k6 ?k8 ?_ ?_; (case hn => (rw [KBw.ints_length]; (try rw [tr_size]); omega)); (case k1 => k_asm); (case k2 => k_asm); (case k3 => k_asm); (case k4 => k_asm); (case k5 => k_asm); (case k6 => first | exact rfl | assumption); (case k8 => exact ⟨by ktr_room, by ktr_units⟩); k_whole); intro v' h' tk' F' N' hv'; (try k_sweep))
  k_with "leaving ref" => k_dflt (refine' leave_onS ?k1 ?k2 ?k3 ?k4 ?_; (case k3 => assumption); (case k2 => assumption); (case k1 => assumption); (case k4 => assumption); k_whole; intro h' R' RK' U')
  k_with "PostT" => (dsimp only [PostT])
  k_with "EndT" => k_dflt ((rename News _ _ _ _ => nE'); (have kMk := kstMark); (refine' EndT.intro (by assumption) nE' ?hy ?hm ?h1 ?h2 ?h3 ?h4 ?hi ?hp ?hr); (case hy => rfl); (case hm => k_memK); (case h1 => k_allIn); (case h2 => (intro p hp; k_ownIn)); (case h3 => k_all); (case h4 => k_all); (case hi => assumption); (case hp => k_extra "turn"); (case hr => (intro z h1 h2 h3; (have h4 := h3); (simp only [List.contains_cons, List.contains_nil, Bool.or_false, Bool.or_eq_false_iff, beq_eq_false_iff_ne, ne_eq] at h3); (simp [h1, h2, h3, h4]))))
  k_with "UnrEnd" => k_dflt ((rename News _ _ _ _ => nE'); (have kMk := kstMark); (refine' UnrEnd.intro (by assumption) nE' _ (fun p hp => hp) ?off ?_); (case off => k_all); clear nE' kMk)
  k_with "mine sidesC" => ((case kA => exact rfl); (case kF => exact rfl); (case kK => assumption); (case k6 => k_is); (case k7 => k_is); (case k8 => ktr_room); (case k9 => first | exact BindsTo.of_eq rfl | exact binds_K (by k_in) rfl (by k_is) rfl rfl rfl); (case kB => exact rfl); (case kD => decide); (case c2 => exact rfl); (case c3 => exact rfl); (case c4 => exact rfl); k_whole; intro L' h' tk' cells F' N' Y' B' X' T'; (try dsimp only); (k_cells Y'); (try k_lift B'); (try k_fold))
  k_with "execs cons Assign cons" => k_dflt ((with_reducible show wpAny _ _ (execs (Stmt.Assign [Expr.Name (Str.ofString "text") _] _ _ :: _) _) _ _ _); (refine' wr_tail ?ho ?htl ?F ?X ?T ?hr ?N ?hN ?hN2 ?hd9 ?ne9 ?hi ?hS ?hSl ?hb ?hos ?hlen ?_); (case ho => k_is); (case htl => rfl); (case F => assumption); (case X => assumption); (case T => assumption); (case hr => rfl); (case N => assumption); (case hN2 => k_memK); (case hd9 => assumption); (case hN => k_memK); (case ne9 => first | assumption | k_ne); (case hi => assumption); (case hb => assumption); (case hlen => omega); (case hos => assumption); (case hS => first | exact signs_all | exact signsOf_all (by assumption) (by assumption)); (case hSl => rfl); (intro b' t' h' tk' st' hb'))
  k_dflt (refine' enterSC (binds := [("row", .bytes b tb), ("pair", .bytes pb u)]) B F X T ?kA ?kF ?kK ?k6 ?k7 ?k8 ?k9 ?kB ?kD ?_ ?c2 ?c3 ?c4; walk_at "mine sidesC")
  walk_at "mine go"
  all_goals exact hret _ _ _ st' ⟨_, _, rfl, hb'⟩
noncomputable def ToldV (r : Option (List Int)) (v : Value) : Prop := (r = none → v = .bool false) ∧ ∀ os, r = some os → ∃ b t, v = .bytes b t ∧ KBw.bInts b = os
theorem told_ok {r : Option (List Int)} {os : List Int} {b : Array UInt8} {t : Tok} (h : r = some os) (hb : KBw.bInts b = os) : ToldV r (.bytes b t) := by
  subst h
  exact ⟨(fun e => nomatch e), fun os' e => ⟨b, t, rfl, by rw [hb]; exact Option.some.inj e⟩⟩
theorem told_no {r : Option (List Int)} (h : r = none) : ToldV r (.bool false) := by
  subst h
  exact ⟨fun _ => rfl, fun os e => nomatch e⟩
theorem told_none (w : World) (b : Array UInt8) (tb : Tok) (hn : b.size ≤ 60) (sb : Bool) :
    CallsT w 135 [.bytes b tb, .none, .bool sb] 12 (ToldV (a2bGo sb (KBw.bInts b) [] 0 0 0)) := by
  unfold CallsT
  k_fill
  intro p loose mean mg mb dp un gd cn cs a ccd cl A₀ h₀ L m s Q E B F X T hk hR hret
  have D9 := frDicts (cn := cn) (cs := cs) (a := a) (ccd := ccd) (cl := cl) F
  refine wpAny_call ?_
  k_with_none
  w_top off
  k_with "mine sides" => ((case kA => exact rfl); (case kF => exact rfl); (case kK => assumption); (case k6 => k_is); (case k7 => k_is); (case k8 => ktr_room); (case k9 => first | exact BindsTo.of_eq rfl | exact binds_K (by k_in) rfl (by k_is) rfl rfl rfl); (case c5 => decide); (case kB => exact locs rfl); (case c2 => exact rfl); (case c3 => exact rfl); (case c4 => exact rfl); k_whole; intro L' h' F' N' B' X' T'; (try dsimp only); (try k_lift B'); (try k_fold))
  k_with "call type:type" => ((with_reducible show wpAny _ _ (call _ [Value.bytes _ _]) _ _ _); refine call_type_of (Tx := "bytes") rfl (by decide +kernel) ?_)
  k_with "getMethod bytes" => (k_here; (with_reducible refine getm_tr ?_))
  k_with "getMethod type:bytes" => (k_here; k_dflt (refine' getm_mt ?k1 ?k2 ?k3 ?_; (case k1 => k_asm); (case k2 => k_asm); (case k3 => k_is); k_whole))
  k_with "call builtin:bytes.maketrans" => (k_here; k_dflt (refine' call_mt ?k1 ?_; (case k1 => first | rfl | (simp_all; done)); k_whole))
  k_with "call builtin:bytes.translate" => (k_here; k_dflt (refine' call_tr ?k1 ?k2 ?_; (case k1 => first | exact trTab_size _ _ | (simp_all; done)); (case k2 => first | omega | (simp_all; omega)); k_whole); intro t' k')
  k_with "call type:list" => (k_here; (with_reducible show wpAny _ _ (call (Value.type "list") [Value.bytes _ _]) _ _ _); k_dflt (refine' list_bytes_K ?k0 ?k1 ?k2 ?k3 ?_; (case k0 => rfl); (case k1 => k_asm); (case k2 => k_asm); (case k3 => first | decide | (simp_all; omega)); k_whole); intro l' h' tk' vs' c' F' N' l1 iX'; (try k_lt l1); (try k_sweep))
  k_with "mine useV" => ((case k1 => k_asm); (case k2 => k_asm); (case k3 => k_asm); (case k4 => k_asm); (case k5 => k_asm); (case k6 => first | exact rfl | assumption); (case k7 => first | exact True.intro | assumption); (case k8 => exact ⟨by ktr_room, by ktr_units⟩); k_whole)
  k_with "exec For Name Call cons nil" => (k_here; kst_src; (rename Fr _ _ _ _ => lF'); (with_unfolding_all refine' For_invVF lF' ?k1 ?k2 ?_; (case k1 => exact rfl); (case k2 => exact rfl); k_whole))
  k_with "exec For Name Name cons nil" => (k_here; kst_src; (rename Fr _ _ _ _ => lF'); (with_unfolding_all refine' For_invVF lF' ?k1 ?k2 ?_; (case k1 => exact rfl); (case k2 => exact rfl); k_whole))
  k_with "exec For Name Name cons nil" => (k_here; kstb_has; kstb_name; (rename Fr _ _ _ _ => lF'); (with_unfolding_all refine' For_invVF lF' ?k1 ?k2 ?_; (case k1 => exact rfl); (case k2 => exact rfl); k_whole))
  k_with "subscriptTail" => (k_here; (with_reducible show wpAny _ _ (subscriptTail _ _ (Value.bytes _ _) (Value.int _ _)) _ _ _); k_dflt (refine' KBw.item_K ?k1 ?k2 ?k3 ?k4 ?_; (case k1 => with_reducible assumption); (case k2 => simp only [List.length_cons, List.length_nil]; omega); (case k3 => omega); (case k4 => simp only [List.length_cons, List.length_nil]; omega); k_whole); intro _ _ kbaLo kbaHi)
  k_with "mine go" => repeat' (first | (k_unfold; (try dsimp only)) | walk1 | (dsimp only; walk1) | (leave1; (try dsimp only)) | fail "no step")
  k_with "storeName" => (k_here; (dsimp only); walk_at "storeName")
  k_with "call ref" => (k_here; (with_reducible show wpAny _ _ (call (Value.ref 109) _ _) _ _ _); k_dflt (refine' useL (signs_spec _) ?k1 ?k2 ?k3 ?k4 ?k5 ?k6 ?k7 ?k8 ?_; walk_at "mine useV"); intro l' vs' c' h' tk' F' N' ne' iX'; (try simp only [TLg.AllNe, and_true] at ne'); (try k_sweep))
  k_with "call ref" => (k_here; (with_reducible show wpAny _ _ (call (Value.ref 70) [Value.int _ _] _) _ _ _); k_dflt (refine' useV (val_spec _ _ _) ?k1 ?k2 ?k3 ?k4 ?k5 ?k6 ?k7 ?k8 ?_; walk_at "mine useV"); intro v' h' tk' F' N' hv'; obtain ⟨t', e'⟩ := hv'; subst e'; (try k_sweep))
  k_with "call ref" => (k_here; (with_reducible show wpAny _ _ (call (Value.ref 63) [Value.bool _] _) _ _ _); k_dflt (refine' useV (truth_spec _ _) ?k1 ?k2 ?k3 ?k4 ?k5 ?k6 ?k7 ?k8 ?_; walk_at "mine useV"); intro v' h' tk' F' N' hv'; subst hv'; (try k_sweep))
  k_with "call ref" => (k_here; (with_reducible show wpAny _ _ (call (Value.ref 56) [Value.bytes _ _] _) _ _ _); k_dflt (refine' useV (buffer_spec _ _ _) ?k1 ?k2 ?k3 ?k4 ?k5 ?k6 ?k7 ?k8 ?_; walk_at "mine useV"); intro v' h' tk' F' N' hv'; subst hv'; (try k_sweep))
  k_with "call ref" => (k_here; (with_reducible show wpAny _ _ (call (Value.ref 49) [Value.bytes _ _] _) _ _ _); k_dflt (refine' useV (ascii_spec _ _ _) ?k1 ?k2 ?k3 ?k4 ?k5 ?k6 ?k7 ?k8 ?_; walk_at "mine useV"); intro v' h' tk' F' N' hv'; subst hv'; (try k_sweep))
  k_with "call ref" => (k_here; (with_reducible show wpAny _ _ (call (Value.ref 29) [Value.bytes _ _] _) _ _ _); k_dflt (refine' useV (from_spec _ _ _) ?k1 ?k2 ?k3 ?k4 ?k5 ?k6 ?k7 ?k8 ?_; walk_at "mine useV"); intro v' h' tk' F' N' hv'; subst hv'; (try k_sweep))
  k_with "call builtin:len" => (k_here; (with_reducible show wpAny _ _ (call (Value.builtin "len") [Value.bytes _ _]) _ _ _); k_dflt (refine len_two (by assumption) ?_))
  k_with "call ref" => (k_here; (with_reducible show wpAny _ _ (call (Value.ref 86) [Value.bytes _ _] _) _ _ _); k_dflt (refine' useV (b2a_spec _ _ _ _ rfl ?hn) ?k1 ?k2 ?k3 ?k4 ?k5 ?k6 ?k7 ?k8 ?_; (case hn => (rw [KBw.ints_length]; omega)); walk_at "mine useV"); intro v' h' tk' F' N' hv'; obtain ⟨c', t', e', hc', hs'⟩ := hv'; subst e'; (try k_sweep))
  k_with "call ref" => (k_here; (with_reducible show wpAny _ _ (call (Value.ref 78) [Value.bytes _ _] _) _ _ _); k_dflt (refine' useE (a2b_spec _ _ _ _ _ rfl ?hn) ?k1 ?k2 ?k3 ?k4 ?k5 ?k6 ?k8 ?_ ?_; (case hn => (rw [KBw.ints_length]; (try rw [tr_size]); omega)); (case k1 => k_asm); (case k2 => k_asm); (case k3 => k_asm); (case k4 => k_asm); (case k5 => k_asm); (case k6 => first | exact rfl | assumption); (case k8 => exact ⟨by ktr_room, by ktr_units⟩); k_whole); intro v' h' tk' F' N' hv'; (try k_sweep))
  k_with "leaving ref" => k_dflt (refine' leave_onS ?k1 ?k2 ?k3 ?k4 ?_; (case k3 => assumption); (case k2 => assumption); (case k1 => assumption); (case k4 => assumption); k_whole; intro h' R' RK' U')
  k_with "PostT" => (dsimp only [PostT])
  k_with "EndT" => k_dflt ((rename News _ _ _ _ => nE'); (have kMk := kstMark); (refine' EndT.intro (by assumption) nE' ?hy ?hm ?h1 ?h2 ?h3 ?h4 ?hi ?hp ?hr); (case hy => rfl); (case hm => k_memK); (case h1 => k_allIn); (case h2 => (intro p hp; k_ownIn)); (case h3 => k_all); (case h4 => k_all); (case hi => assumption); (case hp => k_extra "turn"); (case hr => (intro z h1 h2 h3; (have h4 := h3); (simp only [List.contains_cons, List.contains_nil, Bool.or_false, Bool.or_eq_false_iff, beq_eq_false_iff_ne, ne_eq] at h3); (simp [h1, h2, h3, h4]))))
  k_with "UnrEnd" => k_dflt ((rename News _ _ _ _ => nE'); (have kMk := kstMark); (refine' UnrEnd.intro (by assumption) nE' _ (fun p hp => hp) ?off ?_); (case off => k_all); clear nE' kMk)
  k_with "call ref" => (k_here; (with_reducible show wpAny _ _ (call (Value.ref 102) [Value.bytes _ _, Value.none, Value.bool _] _) _ _ _); k_dflt (refine' useE (dec_none _ _ _ ?hn _) ?k1 ?k2 ?k3 ?k4 ?k5 ?k6 ?k8 ?_ ?_; (case hn => omega); walk_at "mine useE"); intro v' h' tk' F' N' hv'; k_dflt (obtain ⟨os9, b9, t9, e9, e8, hb9⟩ := hv'); subst e8; (try k_sweep))
  k_with "call ref" => (k_here; (with_reducible show wpAny _ _ (call (Value.ref 102) [Value.bytes _ _, Value.bytes _ _, Value.bool _] _) _ _ _); k_dflt (refine' useE (dec_bytes _ _ _ ?hn _ _ _ _ _ ?hb ?hp2) ?k1 ?k2 ?k3 ?k4 ?k5 ?k6 ?k8 ?_ ?_; (case hb => assumption); (case hn => omega); (case hp2 => assumption); walk_at "mine useE"); intro v' h' tk' F' N' hv'; k_dflt (obtain ⟨os9, b9, t9, e9, e8, hb9⟩ := hv'); subst e8; (try k_sweep))
  k_with "mine useE" => ((case k1 => k_asm); (case k2 => k_asm); (case k3 => k_asm); (case k4 => k_asm); (case k5 => k_asm); (case k6 => first | exact rfl | assumption); (case k8 => exact ⟨by ktr_room, by ktr_units⟩); k_whole)
  k_dflt (refine' enterS (binds := [("text", .bytes b tb), ("pair", .none), ("strict", .bool sb)]) B F X T ?kA ?kF ?kK ?k6 ?k7 ?k8 ?k9 ?kB ?_ ?c2 ?c3 ?c4 ?c5; walk_at "mine sides")
  walk_at "mine go"
  all_goals first
    | exact hret _ _ _ s.heap KtsTurn.refl (Fr.keep (by assumption)) (told_ok (by assumption) (by assumption))
    | exact hret _ _ _ _ (by assumption) (Fr.keep (by assumption)) (told_no (by assumption))
theorem told_bytes (w : World) (b : Array UInt8) (tb : Tok) (hn : b.size ≤ 60) (sb : Bool) (pb : Array UInt8) (u : Tok) (p0 p1 : Int) (hp : KBw.bInts pb = [p0, p1]) (hp2 : pb.size = 2) :
    CallsT w 135 [.bytes b tb, .bytes pb u, .bool sb] 12 (ToldV (a2bGo sb ((KBw.bInts b).map (trI p0 p1 43 47)) [] 0 0 0)) := by
  unfold CallsT
  k_fill
  intro p loose mean mg mb dp un gd cn cs a ccd cl A₀ h₀ L m s Q E B F X T hk hR hret
  have D9 := frDicts (cn := cn) (cs := cs) (a := a) (ccd := ccd) (cl := cl) F
  refine wpAny_call ?_
  k_with_none
  w_top off
  k_with "mine sides" => ((case kA => exact rfl); (case kF => exact rfl); (case kK => assumption); (case k6 => k_is); (case k7 => k_is); (case k8 => ktr_room); (case k9 => first | exact BindsTo.of_eq rfl | exact binds_K (by k_in) rfl (by k_is) rfl rfl rfl); (case c5 => decide); (case kB => exact locs rfl); (case c2 => exact rfl); (case c3 => exact rfl); (case c4 => exact rfl); k_whole; intro L' h' F' N' B' X' T'; (try dsimp only); (try k_lift B'); (try k_fold))
  k_with "call type:type" => ((with_reducible show wpAny _ _ (call _ [Value.bytes _ _]) _ _ _); refine call_type_of (Tx := "bytes") rfl (by decide +kernel) ?_)
  k_with "getMethod bytes" => (k_here; (with_reducible refine getm_tr ?_))
  k_with "getMethod type:bytes" => (k_here; k_dflt (refine' getm_mt ?k1 ?k2 ?k3 ?_; (case k1 => k_asm); (case k2 => k_asm); (case k3 => k_is); k_whole))
  k_with "call builtin:bytes.maketrans" => (k_here; k_dflt (refine' call_mt ?k1 ?_; (case k1 => first | rfl | (simp_all; done)); k_whole))
  k_with "call builtin:bytes.translate" => (k_here; k_dflt (refine' call_tr ?k1 ?k2 ?_; (case k1 => first | exact trTab_size _ _ | (simp_all; done)); (case k2 => first | omega | (simp_all; omega)); k_whole); intro t' k')
  k_with "call type:list" => (k_here; (with_reducible show wpAny _ _ (call (Value.type "list") [Value.bytes _ _]) _ _ _); k_dflt (refine' list_bytes_K ?k0 ?k1 ?k2 ?k3 ?_; (case k0 => rfl); (case k1 => k_asm); (case k2 => k_asm); (case k3 => first | decide | (simp_all; omega)); k_whole); intro l' h' tk' vs' c' F' N' l1 iX'; (try k_lt l1); (try k_sweep))
  k_with "mine useV" => ((case k1 => k_asm); (case k2 => k_asm); (case k3 => k_asm); (case k4 => k_asm); (case k5 => k_asm); (case k6 => first | exact rfl | assumption); (case k7 => first | exact True.intro | assumption); (case k8 => exact ⟨by ktr_room, by ktr_units⟩); k_whole)
  k_with "exec For Name Call cons nil" => (k_here; kst_src; (rename Fr _ _ _ _ => lF'); (with_unfolding_all refine' For_invVF lF' ?k1 ?k2 ?_; (case k1 => exact rfl); (case k2 => exact rfl); k_whole))
  k_with "exec For Name Name cons nil" => (k_here; kst_src; (rename Fr _ _ _ _ => lF'); (with_unfolding_all refine' For_invVF lF' ?k1 ?k2 ?_; (case k1 => exact rfl); (case k2 => exact rfl); k_whole))
  k_with "exec For Name Name cons nil" => (k_here; kstb_has; kstb_name; (rename Fr _ _ _ _ => lF'); (with_unfolding_all refine' For_invVF lF' ?k1 ?k2 ?_; (case k1 => exact rfl); (case k2 => exact rfl); k_whole))
  k_with "subscriptTail" => (k_here; (with_reducible show wpAny _ _ (subscriptTail _ _ (Value.bytes _ _) (Value.int _ _)) _ _ _); k_dflt (refine' KBw.item_K ?k1 ?k2 ?k3 ?k4 ?_; (case k1 => with_reducible assumption); (case k2 => simp only [List.length_cons, List.length_nil]; omega); (case k3 => omega); (case k4 => simp only [List.length_cons, List.length_nil]; omega); k_whole); intro _ _ kbaLo kbaHi)
  k_with "mine go" => repeat' (first | (k_unfold; (try dsimp only)) | walk1 | (dsimp only; walk1) | (leave1; (try dsimp only)) | fail "no step")
  k_with "storeName" => (k_here; (dsimp only); walk_at "storeName")
  k_with "call ref" => (k_here; (with_reducible show wpAny _ _ (call (Value.ref 109) _ _) _ _ _); k_dflt (refine' useL (signs_spec _) ?k1 ?k2 ?k3 ?k4 ?k5 ?k6 ?k7 ?k8 ?_; walk_at "mine useV"); intro l' vs' c' h' tk' F' N' ne' iX'; (try simp only [TLg.AllNe, and_true] at ne'); (try k_sweep))
  k_with "call ref" => (k_here; (with_reducible show wpAny _ _ (call (Value.ref 70) [Value.int _ _] _) _ _ _); k_dflt (refine' useV (val_spec _ _ _) ?k1 ?k2 ?k3 ?k4 ?k5 ?k6 ?k7 ?k8 ?_; walk_at "mine useV"); intro v' h' tk' F' N' hv'; obtain ⟨t', e'⟩ := hv'; subst e'; (try k_sweep))
  k_with "call ref" => (k_here; (with_reducible show wpAny _ _ (call (Value.ref 63) [Value.bool _] _) _ _ _); k_dflt (refine' useV (truth_spec _ _) ?k1 ?k2 ?k3 ?k4 ?k5 ?k6 ?k7 ?k8 ?_; walk_at "mine useV"); intro v' h' tk' F' N' hv'; subst hv'; (try k_sweep))
  k_with "call ref" => (k_here; (with_reducible show wpAny _ _ (call (Value.ref 56) [Value.bytes _ _] _) _ _ _); k_dflt (refine' useV (buffer_spec _ _ _) ?k1 ?k2 ?k3 ?k4 ?k5 ?k6 ?k7 ?k8 ?_; walk_at "mine useV"); intro v' h' tk' F' N' hv'; subst hv'; (try k_sweep))
  k_with "call ref" => (k_here; (with_reducible show wpAny _ _ (call (Value.ref 49) [Value.bytes _ _] _) _ _ _); k_dflt (refine' useV (ascii_spec _ _ _) ?k1 ?k2 ?k3 ?k4 ?k5 ?k6 ?k7 ?k8 ?_; walk_at "mine useV"); intro v' h' tk' F' N' hv'; subst hv'; (try k_sweep))
  k_with "call ref" => (k_here; (with_reducible show wpAny _ _ (call (Value.ref 29) [Value.bytes _ _] _) _ _ _); k_dflt (refine' useV (from_spec _ _ _) ?k1 ?k2 ?k3 ?k4 ?k5 ?k6 ?k7 ?k8 ?_; walk_at "mine useV"); intro v' h' tk' F' N' hv'; subst hv'; (try k_sweep))
  k_with "call builtin:len" => (k_here; (with_reducible show wpAny _ _ (call (Value.builtin "len") [Value.bytes _ _]) _ _ _); k_dflt (refine len_two (by assumption) ?_))
  k_with "call ref" => (k_here; (with_reducible show wpAny _ _ (call (Value.ref 86) [Value.bytes _ _] _) _ _ _); k_dflt (refine' useV (b2a_spec _ _ _ _ rfl ?hn) ?k1 ?k2 ?k3 ?k4 ?k5 ?k6 ?k7 ?k8 ?_; (case hn => (rw [KBw.ints_length]; omega)); walk_at "mine useV"); intro v' h' tk' F' N' hv'; obtain ⟨c', t', e', hc', hs'⟩ := hv'; subst e'; (try k_sweep))
  k_with "call ref" => (k_here; (with_reducible show wpAny _ _ (call (Value.ref 78) [Value.bytes _ _] _) _ _ _); k_dflt (refine' useE (a2b_spec _ _ _ _ _ rfl ?hn) ?k1 ?k2 ?k3 ?k4 ?k5 ?k6 ?k8 ?_ ?_; (case hn => (rw [KBw.ints_length]; (try rw [tr_size]); omega)); (case k1 => k_asm); (case k2 => k_asm); (case k3 => k_asm); (case k4 => k_asm); (case k5 => k_asm); (case k6 => first | exact rfl | assumption); (case k8 => exact ⟨by ktr_room, by ktr_units⟩); k_whole); intro v' h' tk' F' N' hv'; (try k_sweep))
  k_with "leaving ref" => k_dflt (refine' leave_onS ?k1 ?k2 ?k3 ?k4 ?_; (case k3 => assumption); (case k2 => assumption); (case k1 => assumption); (case k4 => assumption); k_whole; intro h' R' RK' U')
  k_with "PostT" => (dsimp only [PostT])
  k_with "EndT" => k_dflt ((rename News _ _ _ _ => nE'); (have kMk := kstMark); (refine' EndT.intro (by assumption) nE' ?hy ?hm ?h1 ?h2 ?h3 ?h4 ?hi ?hp ?hr); (case hy => rfl); (case hm => k_memK); (case h1 => k_allIn); (case h2 => (intro p hp; k_ownIn)); (case h3 => k_all); (case h4 => k_all); (case hi => assumption); (case hp => k_extra "turn"); (case hr => (intro z h1 h2 h3; (have h4 := h3); (simp only [List.contains_cons, List.contains_nil, Bool.or_false, Bool.or_eq_false_iff, beq_eq_false_iff_ne, ne_eq] at h3); (simp [h1, h2, h3, h4]))))
  k_with "UnrEnd" => k_dflt ((rename News _ _ _ _ => nE'); (have kMk := kstMark); (refine' UnrEnd.intro (by assumption) nE' _ (fun p hp => hp) ?off ?_); (case off => k_all); clear nE' kMk)
  k_with "call ref" => (k_here; (with_reducible show wpAny _ _ (call (Value.ref 102) [Value.bytes _ _, Value.none, Value.bool _] _) _ _ _); k_dflt (refine' useE (dec_none _ _ _ ?hn _) ?k1 ?k2 ?k3 ?k4 ?k5 ?k6 ?k8 ?_ ?_; (case hn => omega); walk_at "mine useE"); intro v' h' tk' F' N' hv'; k_dflt (obtain ⟨os9, b9, t9, e9, e8, hb9⟩ := hv'); subst e8; (try k_sweep))
  k_with "call ref" => (k_here; (with_reducible show wpAny _ _ (call (Value.ref 102) [Value.bytes _ _, Value.bytes _ _, Value.bool _] _) _ _ _); k_dflt (refine' useE (dec_bytes _ _ _ ?hn _ _ _ _ _ ?hb ?hp2) ?k1 ?k2 ?k3 ?k4 ?k5 ?k6 ?k8 ?_ ?_; (case hb => assumption); (case hn => omega); (case hp2 => assumption); walk_at "mine useE"); intro v' h' tk' F' N' hv'; k_dflt (obtain ⟨os9, b9, t9, e9, e8, hb9⟩ := hv'); subst e8; (try k_sweep))
  k_with "mine useE" => ((case k1 => k_asm); (case k2 => k_asm); (case k3 => k_asm); (case k4 => k_asm); (case k5 => k_asm); (case k6 => first | exact rfl | assumption); (case k8 => exact ⟨by ktr_room, by ktr_units⟩); k_whole)
  k_dflt (refine' enterS (binds := [("text", .bytes b tb), ("pair", .bytes pb u), ("strict", .bool sb)]) B F X T ?kA ?kF ?kK ?k6 ?k7 ?k8 ?k9 ?kB ?_ ?c2 ?c3 ?c4 ?c5; walk_at "mine sides")
  walk_at "mine go"
  all_goals first
    | exact hret _ _ _ s.heap KtsTurn.refl (Fr.keep (by assumption)) (told_ok (by assumption) (by assumption))
    | exact hret _ _ _ _ (by assumption) (Fr.keep (by assumption)) (told_no (by assumption))
theorem due_cases {d : Due} {v : Value} (h : DueVal d v) : (d = .skip ∧ v = .none) ∨ (d = .no ∧ v = .bool false) ∨ ∃ os b t, d = .octets os ∧ v = .bytes b t ∧ KBw.bInts b = os := by
  cases d with
  | skip => exact .inl ⟨rfl, h⟩
  | no => exact .inr (.inl ⟨rfl, h⟩)
  | octets os => obtain ⟨b, t, e, hb⟩ := h; exact .inr (.inr ⟨os, b, t, rfl, e, hb⟩)
theorem bInts_inj {b c : Array UInt8} (h : KBw.bInts b = KBw.bInts c) : b = c := by
  have h' : b.toList.map (fun c : UInt8 => ((c.toNat : Nat) : Int)) = c.toList.map (fun c : UInt8 => ((c.toNat : Nat) : Int)) := h
  have := List.map_inj_right (f := fun c : UInt8 => ((c.toNat : Nat) : Int)) (fun x y e => u8_eq.mp e) |>.mp h'
  exact Array.toList_inj.mp this
theorem ne_same {prog : Program} {w : World} {A : Around} {E : Value → Shared → Prop} {s : Shared} {Q : Value → Shared → Prop} {b : Array UInt8} {t u : Tok} (h : Q (.bool false) s) : wpAny (model prog w) A (compareOp .NotEq (.bytes b t) (.bytes b u)) Q E s :=
  ne_bytes (by rw [bne_self_eq_false]; exact h)
theorem mapDue {m m' : Str → Option Value} (h : ∀ z : Str, z ≠ "due" → z ≠ "sent" → m' z = m z) : m' = (fun (z : Str) => if z = "due" then m' z else if z = "sent" then m' z else m z) := by
  funext z
  by_cases h1 : z = "due"
  · rw [if_pos h1]
  · rw [if_neg h1]
    by_cases h2 : z = "sent"
    · rw [if_pos h2]
    · rw [if_neg h2]; exact h z h1 h2
/-- the innermost loop's body -/
noncomputable def strictBody : List Stmt → Option (List Stmt)
  | .For _ _ [.For _ _ [_, _, .For _ _ bd _ _] _ _] _ _ :: _ => some bd
  | _ => none
theorem law_turn {w : World} {p : Program} {loose : List Str} {mean : ExcName → Option Value} {mg mb : Str → Option Value} {h₀ : Heap} {L fa : Addr} {m : Str → Option Value} {s : Shared} {Q : Flow → Shared → Prop} {E : Value → Shared → Prop}
    {news : List (Addr × Obj)} {lp : Addr} {vs : List Value} {pl : List Int} {c : Nat} {b : Array UInt8} {tb : Tok} {pairV : Value} {oc9 : Obj} {sb : Bool} {R : Option (List Int)} {EN WR : List Int → List Int} {bd : List Stmt} {cd : Value}
    {oc : Value} {od : Option Addr} {osl : Array (Option Value)} {name qual : Str} {params : Arguments} {body : List Stmt} {scope : Scope} {dV kV doc pm cdv ct : Value} {an : Option Addr}
    (ho : (hd.heap_39 w.params).lookup 147 = some ⟨oc, od, .func (fnOf name qual params body scope dV kV doc pm an cdv ct), osl⟩) (hst : strictBody (body.drop 5) = some bd)
    (B : Below callerA h₀ [] h₀) (F : Fr h₀ L s.heap m) (X : (hd.heap_39 w.params).In h₀) (T : Top p loose mean mg mb h₀) (h1 : m "piece" = some (.bytes b tb)) (h2 : m "places" = some (.ref lp)) (h3 : m "strict" = some (.bool sb))
    (N : News h₀ L s.heap news) (hN : (lp, PySem.W.listOf vs.toArray c) ∈ news) (hN2 : (L + 1, oc9) ∈ news) (hd9 : oc9.data = .cell (some pairV)) (hi : IntsAre vs pl) (hpl : ∀ n ∈ pl, 0 ≤ n ∧ n < 66) (hlen : pl.length ≤ 100)
    (CT : CallsT w 135 [.bytes b tb, pairV, .bool sb] 12 (ToldV R))
    (CE : ∀ b' t', Array.size b' ≤ 60 → Calls w 94 [.bytes b' t', pairV] [] 8 (fun _ => True) (fun _ _ v => ∃ c t, v = .bytes c t ∧ KBw.bInts c = EN (KBw.bInts b')))
    (CW : ∀ b' t' os, KBw.bInts b' = os → os.length ≤ 60 → Calls w 128 [.bytes b' t', pairV] [] 4 (fun _ => True) (fun _ _ v => ∃ c t, v = .bytes c t ∧ KBw.bInts c = WR os))
    (hs1 : dueOf sb pl = .no → R = none) (hs2 : ∀ os, dueOf sb pl = .octets os → R = some os ∧ os.length ≤ 60 ∧ EN os = WR os)
    (hc : ∀ s', Q .next s' → Q .cont s') (hq : ∀ (h' : Heap) (tk' : Nat) (u : Str → Option Value), Fr h₀ L h' (fun (z : Str) => if z = "due" then u z else if z = "sent" then u z else m z) → News h₀ L h' news → Q .next { s with heap := h', toks := tk' }) :
    wpAny (model Challenge.rw_qh0109_01.row.prog w) (callerA.deeper (envOfC qual scope L fa cd)) (execs bd (envOfC qual scope L fa cd)) Q E s := by
  revert ho hst
  k_fill
  intro ho hst
  refine' look_use ho ?k6 ?_
  (case k6 => k_is)
  intro e
  cases e
  cases hst
  have em := map3 h1 h2 h3
  replace F := frTo F em
  replace N := newsPush (newsPush N hN2) (.tail _ hN)
  clear h1 h2 h3
  k_with_none
  w_top off
  k_with "mine sides" => ((case kA => exact rfl); (case kF => exact rfl); (case kK => assumption); (case k6 => k_is); (case k7 => k_is); (case k8 => ktr_room); (case k9 => first | exact BindsTo.of_eq rfl | exact binds_K (by k_in) rfl (by k_is) rfl rfl rfl); (case c5 => decide); (case kB => exact locs rfl); (case c2 => exact rfl); (case c3 => exact rfl); (case c4 => exact rfl); k_whole; intro L' h' F' N' B' X' T'; (try dsimp only); (try k_lift B'); (try k_fold))
  k_with "call type:type" => ((with_reducible show wpAny _ _ (call _ [Value.bytes _ _]) _ _ _); refine call_type_of (Tx := "bytes") rfl (by decide +kernel) ?_)
  k_with "getMethod bytes" => (k_here; (with_reducible refine getm_tr ?_))
  k_with "getMethod type:bytes" => (k_here; k_dflt (refine' getm_mt ?k1 ?k2 ?k3 ?_; (case k1 => k_asm); (case k2 => k_asm); (case k3 => k_is); k_whole))
  k_with "call builtin:bytes.maketrans" => (k_here; k_dflt (refine' call_mt ?k1 ?_; (case k1 => first | rfl | (simp_all; done)); k_whole))
  k_with "call builtin:bytes.translate" => (k_here; k_dflt (refine' call_tr ?k1 ?k2 ?_; (case k1 => first | exact trTab_size _ _ | (simp_all; done)); (case k2 => first | omega | (simp_all; omega)); k_whole); intro t' k')
  k_with "call type:list" => (k_here; (with_reducible show wpAny _ _ (call (Value.type "list") [Value.bytes _ _]) _ _ _); k_dflt (refine' list_bytes_K ?k0 ?k1 ?k2 ?k3 ?_; (case k0 => rfl); (case k1 => k_asm); (case k2 => k_asm); (case k3 => first | decide | (simp_all; omega)); k_whole); intro l' h' tk' vs' c' F' N' l1 iX'; (try k_lt l1); (try k_sweep))
  k_with "mine useV" => ((case k1 => k_asm); (case k2 => k_asm); (case k3 => k_asm); (case k4 => k_asm); (case k5 => k_asm); (case k6 => first | exact rfl | assumption); (case k7 => first | exact True.intro | assumption); (case k8 => exact ⟨by ktr_room, by ktr_units⟩); k_whole)
  k_with "exec For Name Call cons nil" => (k_here; kst_src; (rename Fr _ _ _ _ => lF'); (with_unfolding_all refine' For_invVF lF' ?k1 ?k2 ?_; (case k1 => exact rfl); (case k2 => exact rfl); k_whole))
  k_with "exec For Name Name cons nil" => (k_here; kst_src; (rename Fr _ _ _ _ => lF'); (with_unfolding_all refine' For_invVF lF' ?k1 ?k2 ?_; (case k1 => exact rfl); (case k2 => exact rfl); k_whole))
  k_with "exec For Name Name cons nil" => (k_here; kstb_has; kstb_name; (rename Fr _ _ _ _ => lF'); (with_unfolding_all refine' For_invVF lF' ?k1 ?k2 ?_; (case k1 => exact rfl); (case k2 => exact rfl); k_whole))
  k_with "subscriptTail" => (k_here; (with_reducible show wpAny _ _ (subscriptTail _ _ (Value.bytes _ _) (Value.int _ _)) _ _ _); k_dflt (refine' KBw.item_K ?k1 ?k2 ?k3 ?k4 ?_; (case k1 => with_reducible assumption); (case k2 => simp only [List.length_cons, List.length_nil]; omega); (case k3 => omega); (case k4 => simp only [List.length_cons, List.length_nil]; omega); k_whole); intro _ _ kbaLo kbaHi)
  k_with "mine go" => repeat' (first | (k_unfold; (try dsimp only)) | walk1 | (dsimp only; walk1) | (leave1; (try dsimp only)) | fail "no step")
  k_with "storeName" => (k_here; (dsimp only); walk_at "storeName")
  k_with "call ref" => (k_here; (with_reducible show wpAny _ _ (call (Value.ref 109) _ _) _ _ _); k_dflt (refine' useL (signs_spec _) ?k1 ?k2 ?k3 ?k4 ?k5 ?k6 ?k7 ?k8 ?_; walk_at "mine useV"); intro l' vs' c' h' tk' F' N' ne' iX'; (try simp only [TLg.AllNe, and_true] at ne'); (try k_sweep))
  k_with "call ref" => (k_here; (with_reducible show wpAny _ _ (call (Value.ref 70) [Value.int _ _] _) _ _ _); k_dflt (refine' useV (val_spec _ _ _) ?k1 ?k2 ?k3 ?k4 ?k5 ?k6 ?k7 ?k8 ?_; walk_at "mine useV"); intro v' h' tk' F' N' hv'; obtain ⟨t', e'⟩ := hv'; subst e'; (try k_sweep))
  k_with "call ref" => (k_here; (with_reducible show wpAny _ _ (call (Value.ref 63) [Value.bool _] _) _ _ _); k_dflt (refine' useV (truth_spec _ _) ?k1 ?k2 ?k3 ?k4 ?k5 ?k6 ?k7 ?k8 ?_; walk_at "mine useV"); intro v' h' tk' F' N' hv'; subst hv'; (try k_sweep))
  k_with "call ref" => (k_here; (with_reducible show wpAny _ _ (call (Value.ref 56) [Value.bytes _ _] _) _ _ _); k_dflt (refine' useV (buffer_spec _ _ _) ?k1 ?k2 ?k3 ?k4 ?k5 ?k6 ?k7 ?k8 ?_; walk_at "mine useV"); intro v' h' tk' F' N' hv'; subst hv'; (try k_sweep))
  k_with "call ref" => (k_here; (with_reducible show wpAny _ _ (call (Value.ref 49) [Value.bytes _ _] _) _ _ _); k_dflt (refine' useV (ascii_spec _ _ _) ?k1 ?k2 ?k3 ?k4 ?k5 ?k6 ?k7 ?k8 ?_; walk_at "mine useV"); intro v' h' tk' F' N' hv'; subst hv'; (try k_sweep))
  k_with "call ref" => (k_here; (with_reducible show wpAny _ _ (call (Value.ref 29) [Value.bytes _ _] _) _ _ _); k_dflt (refine' useV (from_spec _ _ _) ?k1 ?k2 ?k3 ?k4 ?k5 ?k6 ?k7 ?k8 ?_; walk_at "mine useV"); intro v' h' tk' F' N' hv'; subst hv'; (try k_sweep))
  k_with "call builtin:len" => (k_here; (with_reducible show wpAny _ _ (call (Value.builtin "len") [Value.bytes _ _]) _ _ _); k_dflt (refine len_two (by assumption) ?_))
  k_with "call ref" => (k_here; (with_reducible show wpAny _ _ (call (Value.ref 86) [Value.bytes _ _] _) _ _ _); k_dflt (refine' useV (b2a_spec _ _ _ _ rfl ?hn) ?k1 ?k2 ?k3 ?k4 ?k5 ?k6 ?k7 ?k8 ?_; (case hn => (rw [KBw.ints_length]; omega)); walk_at "mine useV"); intro v' h' tk' F' N' hv'; obtain ⟨c', t', e', hc', hs'⟩ := hv'; subst e'; (try k_sweep))
  k_with "call ref" => (k_here; (with_reducible show wpAny _ _ (call (Value.ref 78) [Value.bytes _ _] _) _ _ _); k_dflt (refine' useE (a2b_spec _ _ _ _ _ rfl ?hn) ?k1 ?k2 ?k3 ?k4 ?k5 ?k6 ?k8 ?_ ?_; (case hn => (rw [KBw.ints_length]; (try rw [tr_size]); omega)); (case k1 => k_asm); (case k2 => k_asm); (case k3 => k_asm); (case k4 => k_asm); (case k5 => k_asm); (case k6 => first | exact rfl | assumption); (case k8 => exact ⟨by ktr_room, by ktr_units⟩); k_whole); intro v' h' tk' F' N' hv'; (try k_sweep))
  k_with "leaving ref" => k_dflt (refine' leave_onS ?k1 ?k2 ?k3 ?k4 ?_; (case k3 => assumption); (case k2 => assumption); (case k1 => assumption); (case k4 => assumption); k_whole; intro h' R' RK' U')
  k_with "PostT" => (dsimp only [PostT])
  k_with "EndT" => k_dflt ((rename News _ _ _ _ => nE'); (have kMk := kstMark); (refine' EndT.intro (by assumption) nE' ?hy ?hm ?h1 ?h2 ?h3 ?h4 ?hi ?hp ?hr); (case hy => rfl); (case hm => k_memK); (case h1 => k_allIn); (case h2 => (intro p hp; k_ownIn)); (case h3 => k_all); (case h4 => k_all); (case hi => assumption); (case hp => k_extra "turn"); (case hr => (intro z h1 h2 h3; (have h4 := h3); (simp only [List.contains_cons, List.contains_nil, Bool.or_false, Bool.or_eq_false_iff, beq_eq_false_iff_ne, ne_eq] at h3); (simp [h1, h2, h3, h4]))))
  k_with "UnrEnd" => k_dflt ((rename News _ _ _ _ => nE'); (have kMk := kstMark); (refine' UnrEnd.intro (by assumption) nE' _ (fun p hp => hp) ?off ?_); (case off => k_all); clear nE' kMk)
  k_with "call ref" => (k_here; (with_reducible show wpAny _ _ (call (Value.ref 102) [Value.bytes _ _, Value.none, Value.bool _] _) _ _ _); k_dflt (refine' useE (dec_none _ _ _ ?hn _) ?k1 ?k2 ?k3 ?k4 ?k5 ?k6 ?k8 ?_ ?_; (case hn => omega); walk_at "mine useE"); intro v' h' tk' F' N' hv'; k_dflt (obtain ⟨os9, b9, t9, e9, e8, hb9⟩ := hv'); subst e8; (try k_sweep))
  k_with "call ref" => (k_here; (with_reducible show wpAny _ _ (call (Value.ref 102) [Value.bytes _ _, Value.bytes _ _, Value.bool _] _) _ _ _); k_dflt (refine' useE (dec_bytes _ _ _ ?hn _ _ _ _ _ ?hb ?hp2) ?k1 ?k2 ?k3 ?k4 ?k5 ?k6 ?k8 ?_ ?_; (case hb => assumption); (case hn => omega); (case hp2 => assumption); walk_at "mine useE"); intro v' h' tk' F' N' hv'; k_dflt (obtain ⟨os9, b9, t9, e9, e8, hb9⟩ := hv'); subst e8; (try k_sweep))
  k_with "mine useE" => ((case k1 => k_asm); (case k2 => k_asm); (case k3 => k_asm); (case k4 => k_asm); (case k5 => k_asm); (case k6 => first | exact rfl | assumption); (case k8 => exact ⟨by ktr_room, by ktr_units⟩); k_whole)
  k_with "call ref" => (k_here; (with_reducible show wpAny _ _ (call (Value.ref 123) [Value.ref _, Value.bool _] _) _ _ _); k_dflt (refine' useV (due_spec _ _ _ _ _ ?hi ?hr ?hn) ?k1 ?k2 ?k3 ?k4 ?k5 ?k6 ?k7 ?k8 ?_; (case hi => assumption); (case hr => assumption); (case hn => omega); (case k7 => exact News.isList (by k_asm) (by k_memK)); walk_at "mine useX"); intro v' h' tk' F' N' hv'; k_dflt (rcases due_cases hv' with ⟨e9, e8⟩ | ⟨e9, e8⟩ | ⟨os9, b9, t9, e9, e8, hb9⟩) <;> subst e8 <;> (try k_sweep))
  k_with "call ref" => (k_here; (with_reducible show wpAny _ _ (call (Value.ref 135) [Value.bytes _ _, _, Value.bool _] _) _ _ _); k_dflt (refine' useT CT ?k1 ?k2 ?k3 ?k4 ?k5 ?k6 ?k8 ?_; walk_at "mine useX"); intro v' h' tk' F' N' hv'; k_dflt (first | ((have e8 := hv'.1 (hs1 e9)); subst e8) | ((obtain ⟨b8, t8, e8, hb8⟩ := hv'.2 _ (hs2 _ e9).1); subst e8; (have e7 : b8 = b9 := bInts_inj (hb8.trans hb9.symm)); subst e7)); (try k_sweep))
  k_with "call ref" => (k_here; (with_reducible show wpAny _ _ (call (Value.ref 94) [Value.bytes _ _, _] _) _ _ _); k_dflt (refine' useV (CE _ _ ?hn) ?k1 ?k2 ?k3 ?k4 ?k5 ?k6 ?k7 ?k8 ?_; (case hn => (rw [← KBw.ints_length, hb9]; exact (hs2 _ e9).2.1)); (case k7 => exact True.intro); walk_at "mine useX"); intro v' h' tk' F' N' hv'; k_dflt (obtain ⟨c8, t8, e8, hc8⟩ := hv'); subst e8; (try k_sweep))
  k_with "call ref" => (k_here; (with_reducible show wpAny _ _ (call (Value.ref 128) [Value.bytes _ _, _] _) _ _ _); k_dflt (refine' useV (CW _ _ _ hb9 (hs2 _ e9).2.1) ?k1 ?k2 ?k3 ?k4 ?k5 ?k6 ?k7 ?k8 ?_; (case k7 => exact True.intro); walk_at "mine useX"); intro v' h' tk' F' N' hv'; k_dflt (obtain ⟨c7, t7, e8, hc7⟩ := hv'); subst e8; (have e7 : c7 = c8 := bInts_inj (by rw [hc7, hc8, hb9]; exact (hs2 _ e9).2.2.symm)); subst e7; (try k_sweep))
  k_with "mine useX" => ((case k1 => k_asm); (case k2 => k_asm); (case k3 => k_asm); (case k4 => k_asm); (case k5 => k_asm); (case k6 => first | exact rfl | assumption); (case k8 => first | exact ⟨by ktr_room, by ktr_units⟩ | exact ⟨by decide, by decide⟩); k_whole)
  k_with "compareOp NotEq bytes bytes" => (with_reducible refine ne_same ?_)
  walk_at "mine go"
  all_goals (try refine hc _ ?_)
  all_goals (rename Fr _ _ _ _ => hF9; rename News _ _ _ _ => hN9; refine hq _ _ _ (frTo hF9 (mapDue ?_)) (newsPop (newsPop hN9)))
  all_goals (intro z z1 z2; refine Eq.trans ?_ (congrFun em z).symm; simp only [z1, z2, if_false])
noncomputable def trD (pr : Option (Int × Int)) (ks : List Int) : List Int := match pr with | none => ks | some (a, b) => ks.map (trI a b 43 47)
noncomputable def trE (pr : Option (Int × Int)) (ks : List Int) : List Int := match pr with | none => ks | some (a, b) => ks.map (trI 43 47 a b)
theorem text_in {pr : Option (Int × Int)} (hpr : ∀ a b, pr = some (a, b) → (0 ≤ a ∧ a < 256) ∧ 0 ≤ b ∧ b < 256) (ns : List Int) : KBa.In ([43, 81] ++ List.map (fun k' => signVal pr k') ns) := by
  intro n hn
  rcases List.mem_append.mp hn with hn | hn
  · have : ∀ n ∈ ([43, 81] : List Int), 0 ≤ n ∧ n < 256 := by decide
    exact this n hn
  · obtain ⟨x, _, rfl⟩ := List.mem_map.mp hn
    exact signVal_in hpr x
theorem pads_ints (n : Nat) : KBw.bInts (List.replicate n [(61 : UInt8)]).flatten.toArray = List.replicate n 61 := by
  rw [List.flatten_replicate_singleton]
  show (List.replicate n (61 : UInt8)).map (fun c : UInt8 => ((c.toNat : Nat) : Int)) = _
  rw [List.map_replicate]; rfl
theorem piece_add {prog : Program} {w : World} {A : Around} {E : Value → Shared → Prop} {s : Shared} {Q : Value → Shared → Prop} {b : Array UInt8} {t u : Tok} {zs : List Int} {n : Nat} (hb : KBw.bInts b = zs) (hz : zs.length ≤ 40) (hn : n ≤ 10) (h : ∀ b9 t' k, Array.size b9 ≤ 60 → Q (.bytes b9 t') { s with toks := k }) :
    wpAny (model prog w) A (binaryOp .Add (.bytes b t) (.bytes (List.replicate n [61]).flatten.toArray u)) Q E s :=
  KBa.add_K hb (pads_ints n) (by rw [List.length_replicate]; omega) fun t' k e => h _ _ _ (by rw [← KBw.ints_length, e, List.length_append, List.length_replicate]; omega)
theorem tab_len (pr : Option (Int × Int)) : (tabOf pr).length = 256 := by
  cases pr with
  | none => exact (by decide +kernel : tabN.length = 256)
  | some p => obtain ⟨a, b⟩ := p; show ((tabN.set a.toNat 62).set b.toNat 63).length = 256; rw [List.length_set, List.length_set]; exact (by decide +kernel : tabN.length = 256)
theorem tabN_rng : ∀ n ∈ tabN, (0 : Int) ≤ n ∧ n < 66 := by decide +kernel
theorem tab_rng (pr : Option (Int × Int)) : ∀ n ∈ tabOf pr, 0 ≤ n ∧ n < 66 := by
  cases pr with
  | none => exact tabN_rng
  | some p =>
    obtain ⟨a, b⟩ := p
    intro n hn
    rcases List.mem_or_eq_of_mem_set hn with hn | rfl
    · rcases List.mem_or_eq_of_mem_set hn with hn | rfl
      · exact tabN_rng n hn
      · decide
    · decide
noncomputable def plcs (pr : Option (Int × Int)) (ks : List Int) : List Int := ks.map (fun x => (tabOf pr).getD x.toNat 0)
theorem plcs_rng (pr : Option (Int × Int)) (ks : List Int) : ∀ n ∈ plcs pr ks, 0 ≤ n ∧ n < 66 := by
  intro n hn
  obtain ⟨x, _, rfl⟩ := List.mem_map.mp hn
  exact getD_by (tab_rng pr) (by decide) _
theorem ints_ltl {b : Array UInt8} {k : Int} {pr : Option (Int × Int)} (h : k ∈ KBw.bInts b) : k < ((tabOf pr).length : Int) := by rw [tab_len]; exact (KBw.ints_in h).2
theorem plcs_len {pr : Option (Int × Int)} {b : Array UInt8} (h : b.size ≤ 60) : (plcs pr (KBw.bInts b)).length ≤ 100 := by
  unfold plcs; rw [List.length_map, KBw.ints_length]; omega
theorem two63 : (256 : Int) < 2 ^ 63 := by decide
theorem bools2 : ∀ v ∈ [Value.bool false, Value.bool true], ∃ b, v = Value.bool b := by
  intro v hv
  rcases List.mem_cons.mp hv with rfl | hv
  · exact ⟨_, rfl⟩
  · rw [List.mem_singleton.mp hv]; exact ⟨_, rfl⟩
theorem size_rng {n i : Nat} {k : Int} (hk : k = (if (n : Int) - 6 > 0 then (n : Int) - 6 else 0) + (i : Int)) (h : i < ((n : Int) + 1 - (if (n : Int) - 6 > 0 then (n : Int) - 6 else 0)).toNat) : 0 ≤ k ∧ k ≤ (n : Int) := by
  subst hk; split at h <;> (rename_i hc; first | rw [if_pos hc] | rw [if_neg hc]) <;> omega
theorem pads_rng {i : Nat} {k : Int} (hk : k = 0 + (i : Int)) (h : i < ((3 : Int) - 0).toNat) : 0 ≤ k ∧ k ≤ 2 := by
  have : ((3 : Int) - 0).toNat = 3 := rfl
  omega
theorem law_loops {w : World} {p : Program} {loose : List Str} {mean : ExcName → Option Value} {mg mb : Str → Option Value} {h₀ : Heap} {L fa : Addr} {m : Str → Option Value} {s : Shared} {Q : Flow → Shared → Prop} {E : Value → Shared → Prop}
    {news : List (Addr × Obj)} {lt : Addr} {vst : List Value} {tx : List Int} {tb : Array UInt8} {tt : Tok} {c : Nat} {pairV : Value} {oc9 oc8 : Obj} {pr : Option (Int × Int)} {tl : List Stmt} {cd : Value}
    {oc : Value} {od : Option Addr} {osl : Array (Option Value)} {name qual : Str} {params : Arguments} {body : List Stmt} {scope : Scope} {dV kV doc pm cdv ct : Value} {an : Option Addr}
    (ho : (hd.heap_39 w.params).lookup 147 = some ⟨oc, od, .func (fnOf name qual params body scope dV kV doc pm an cdv ct), osl⟩) (htl : body.drop 5 = tl)
    (B : Below callerA h₀ [] h₀) (F : Fr h₀ L s.heap m) (X : (hd.heap_39 w.params).In h₀) (T : Top p loose mean mg mb h₀) (h1 : m "text" = some (.bytes tb tt))
    (N : News h₀ L s.heap news) (hN : (lt, PySem.W.listOf vst.toArray c) ∈ news) (hN2 : (L + 1, oc9) ∈ news) (hd9 : oc9.data = .cell (some pairV)) (hN3 : (L + 1 + 1, oc8) ∈ news) (hd8 : oc8.data = .cell (some (.ref lt)))
    (hi : IntsAre vst (tabOf pr)) (hb : KBw.bInts tb = tx) (htx : ∀ n ∈ tx, 0 ≤ n ∧ n < 256) (hlen : tx.length ≤ 12) (hpr : ∀ a b, pr = some (a, b) → (0 ≤ a ∧ a < 256) ∧ 0 ≤ b ∧ b < 256)
    (plain_no : ∀ {b : Array UInt8} {sb : Bool}, (∀ a b, pr = some (a, b) → (0 ≤ a ∧ a < 256) ∧ 0 ≤ b ∧ b < 256) → b.size ≤ 60 → dueOf sb (plcs pr (KBw.bInts b)) = .no → a2bGo sb (trD pr (KBw.bInts b)) [] 0 0 0 = none)
    (plain_oct : ∀ {b : Array UInt8} {sb : Bool}, (∀ a b, pr = some (a, b) → (0 ≤ a ∧ a < 256) ∧ 0 ≤ b ∧ b < 256) → b.size ≤ 60 → ∀ os, dueOf sb (plcs pr (KBw.bInts b)) = .octets os → a2bGo sb (trD pr (KBw.bInts b)) [] 0 0 0 = some os ∧ os.length ≤ 60 ∧ trE pr (b2aGo os [] 0 0) = wtext (signsOf pr) os ((os.length + 2) / 3))
    (CT : ∀ b t sb, Array.size b ≤ 60 → CallsT w 135 [.bytes b t, pairV, .bool sb] 12 (ToldV (a2bGo sb (trD pr (KBw.bInts b)) [] 0 0 0)))
    (CE : ∀ b' t', Array.size b' ≤ 60 → Calls w 94 [.bytes b' t', pairV] [] 8 (fun _ => True) (fun _ _ v => ∃ c t, v = .bytes c t ∧ KBw.bInts c = trE pr (b2aGo (KBw.bInts b') [] 0 0)))
    (CW : ∀ b' t' os, KBw.bInts b' = os → os.length ≤ 60 → Calls w 128 [.bytes b' t', pairV] [] 4 (fun _ => True) (fun _ _ v => ∃ c t, v = .bytes c t ∧ KBw.bInts c = wtext (signsOf pr) os ((os.length + 2) / 3)))
    (hend : ∀ (h' : Heap) (tk' : Nat) (m' : Str → Option Value), Fr h₀ L h' m' → Q (.ret (.bool true)) { s with heap := h', toks := tk' }) :
    wpAny (model Challenge.rw_qh0109_01.row.prog w) (callerA.deeper (envOfC qual scope L fa cd)) (execs tl (envOfC qual scope L fa cd)) Q
      (fun e s' => wpAny (model Challenge.rw_qh0109_01.row.prog w) (callerA.deeper (envOfC qual scope L fa cd)) (leaving (envOfC qual scope L fa cd) e) (fun _ s'' => E e s'') (fun e' s'' => E e' s'') s') s := by
  subst htl
  revert ho
  k_fill
  intro ho
  refine' look_use ho ?k6 ?_
  (case k6 => k_is)
  intro e
  cases e
  replace F := frTo F (map1 h1)
  replace N := news3 N hN hN2 hN3
  clear hN hN2 hN3 h1
  k_with_none
  w_top off
  k_with "mine sides" => ((case kA => exact rfl); (case kF => exact rfl); (case kK => assumption); (case k6 => k_is); (case k7 => k_is); (case k8 => ktr_room); (case k9 => first | exact BindsTo.of_eq rfl | exact binds_K (by k_in) rfl (by k_is) rfl rfl rfl); (case c5 => decide); (case kB => exact locs rfl); (case c2 => exact rfl); (case c3 => exact rfl); (case c4 => exact rfl); k_whole; intro L' h' F' N' B' X' T'; (try dsimp only); (try k_lift B'); (try k_fold))
  k_with "call type:type" => ((with_reducible show wpAny _ _ (call _ [Value.bytes _ _]) _ _ _); refine call_type_of (Tx := "bytes") rfl (by decide +kernel) ?_)
  k_with "getMethod bytes" => (k_here; (with_reducible refine getm_tr ?_))
  k_with "getMethod type:bytes" => (k_here; k_dflt (refine' getm_mt ?k1 ?k2 ?k3 ?_; (case k1 => k_asm); (case k2 => k_asm); (case k3 => k_is); k_whole))
  k_with "call builtin:bytes.maketrans" => (k_here; k_dflt (refine' call_mt ?k1 ?_; (case k1 => first | rfl | (simp_all; done)); k_whole))
  k_with "call builtin:bytes.translate" => (k_here; k_dflt (refine' call_tr ?k1 ?k2 ?_; (case k1 => first | exact trTab_size _ _ | (simp_all; done)); (case k2 => first | omega | (simp_all; omega)); k_whole); intro t' k')
  k_with "call type:list" => (k_here; (with_reducible show wpAny _ _ (call (Value.type "list") [Value.bytes _ _]) _ _ _); k_dflt (refine' list_bytes_K ?k0 ?k1 ?k2 ?k3 ?_; (case k0 => rfl); (case k1 => k_asm); (case k2 => k_asm); (case k3 => first | decide | (simp_all; omega)); k_whole); intro l' h' tk' vs' c' F' N' l1 iX'; (try k_lt l1); (try k_sweep))
  k_with "mine useV" => ((case k1 => k_asm); (case k2 => k_asm); (case k3 => k_asm); (case k4 => k_asm); (case k5 => k_asm); (case k6 => first | exact rfl | assumption); (case k7 => first | exact True.intro | assumption); (case k8 => exact ⟨by ktr_room, by ktr_units⟩); k_whole)
  k_with "exec For Name Call cons nil" => (k_here; kst_src; (rename Fr _ _ _ _ => lF'); (with_unfolding_all refine' For_invVF lF' ?k1 ?k2 ?_; (case k1 => exact rfl); (case k2 => exact rfl); k_whole))
  k_with "exec For Name Name cons nil" => (k_here; kst_src; (rename Fr _ _ _ _ => lF'); (with_unfolding_all refine' For_invVF lF' ?k1 ?k2 ?_; (case k1 => exact rfl); (case k2 => exact rfl); k_whole))
  k_with "exec For Name Name cons nil" => (k_here; kstb_has; kstb_name; (rename Fr _ _ _ _ => lF'); (with_unfolding_all refine' For_invVF lF' ?k1 ?k2 ?_; (case k1 => exact rfl); (case k2 => exact rfl); k_whole))
  k_with "subscriptTail" => (k_here; (with_reducible show wpAny _ _ (subscriptTail _ _ (Value.bytes _ _) (Value.int _ _)) _ _ _); k_dflt (refine' KBw.item_K ?k1 ?k2 ?k3 ?k4 ?_; (case k1 => with_reducible assumption); (case k2 => simp only [List.length_cons, List.length_nil]; omega); (case k3 => omega); (case k4 => simp only [List.length_cons, List.length_nil]; omega); k_whole); intro _ _ kbaLo kbaHi)
  k_with "mine go" => repeat' (first | (k_unfold; (try dsimp only)) | walk1 | (dsimp only; walk1) | (leave1; (try dsimp only)) | fail "no step")
  k_with "storeName" => (k_here; (dsimp only); walk_at "storeName")
  k_with "call ref" => (k_here; (with_reducible show wpAny _ _ (call (Value.ref 109) _ _) _ _ _); k_dflt (refine' useL (signs_spec _) ?k1 ?k2 ?k3 ?k4 ?k5 ?k6 ?k7 ?k8 ?_; walk_at "mine useV"); intro l' vs' c' h' tk' F' N' ne' iX'; (try simp only [TLg.AllNe, and_true] at ne'); (try k_sweep))
  k_with "call ref" => (k_here; (with_reducible show wpAny _ _ (call (Value.ref 70) [Value.int _ _] _) _ _ _); k_dflt (refine' useV (val_spec _ _ _) ?k1 ?k2 ?k3 ?k4 ?k5 ?k6 ?k7 ?k8 ?_; walk_at "mine useV"); intro v' h' tk' F' N' hv'; obtain ⟨t', e'⟩ := hv'; subst e'; (try k_sweep))
  k_with "call ref" => (k_here; (with_reducible show wpAny _ _ (call (Value.ref 63) [Value.bool _] _) _ _ _); k_dflt (refine' useV (truth_spec _ _) ?k1 ?k2 ?k3 ?k4 ?k5 ?k6 ?k7 ?k8 ?_; walk_at "mine useV"); intro v' h' tk' F' N' hv'; subst hv'; (try k_sweep))
  k_with "call ref" => (k_here; (with_reducible show wpAny _ _ (call (Value.ref 56) [Value.bytes _ _] _) _ _ _); k_dflt (refine' useV (buffer_spec _ _ _) ?k1 ?k2 ?k3 ?k4 ?k5 ?k6 ?k7 ?k8 ?_; walk_at "mine useV"); intro v' h' tk' F' N' hv'; subst hv'; (try k_sweep))
  k_with "call ref" => (k_here; (with_reducible show wpAny _ _ (call (Value.ref 49) [Value.bytes _ _] _) _ _ _); k_dflt (refine' useV (ascii_spec _ _ _) ?k1 ?k2 ?k3 ?k4 ?k5 ?k6 ?k7 ?k8 ?_; walk_at "mine useV"); intro v' h' tk' F' N' hv'; subst hv'; (try k_sweep))
  k_with "call ref" => (k_here; (with_reducible show wpAny _ _ (call (Value.ref 29) [Value.bytes _ _] _) _ _ _); k_dflt (refine' useV (from_spec _ _ _) ?k1 ?k2 ?k3 ?k4 ?k5 ?k6 ?k7 ?k8 ?_; walk_at "mine useV"); intro v' h' tk' F' N' hv'; subst hv'; (try k_sweep))
  k_with "call builtin:len" => (k_here; (with_reducible show wpAny _ _ (call (Value.builtin "len") [Value.bytes _ _]) _ _ _); k_dflt (refine len_two (by assumption) ?_))
  k_with "call ref" => (k_here; (with_reducible show wpAny _ _ (call (Value.ref 86) [Value.bytes _ _] _) _ _ _); k_dflt (refine' useV (b2a_spec _ _ _ _ rfl ?hn) ?k1 ?k2 ?k3 ?k4 ?k5 ?k6 ?k7 ?k8 ?_; (case hn => (rw [KBw.ints_length]; omega)); walk_at "mine useV"); intro v' h' tk' F' N' hv'; obtain ⟨c', t', e', hc', hs'⟩ := hv'; subst e'; (try k_sweep))
  k_with "call ref" => (k_here; (with_reducible show wpAny _ _ (call (Value.ref 78) [Value.bytes _ _] _) _ _ _); k_dflt (refine' useE (a2b_spec _ _ _ _ _ rfl ?hn) ?k1 ?k2 ?k3 ?k4 ?k5 ?k6 ?k8 ?_ ?_; (case hn => (rw [KBw.ints_length]; (try rw [tr_size]); omega)); (case k1 => k_asm); (case k2 => k_asm); (case k3 => k_asm); (case k4 => k_asm); (case k5 => k_asm); (case k6 => first | exact rfl | assumption); (case k8 => exact ⟨by ktr_room, by ktr_units⟩); k_whole); intro v' h' tk' F' N' hv'; (try k_sweep))
  k_with "leaving ref" => k_dflt (refine' leave_onS ?k1 ?k2 ?k3 ?k4 ?_; (case k3 => assumption); (case k2 => assumption); (case k1 => assumption); (case k4 => assumption); k_whole; intro h' R' RK' U')
  k_with "PostT" => (dsimp only [PostT])
  k_with "EndT" => k_dflt ((rename News _ _ _ _ => nE'); (have kMk := kstMark); (refine' EndT.intro (by assumption) nE' ?hy ?hm ?h1 ?h2 ?h3 ?h4 ?hi ?hp ?hr); (case hy => rfl); (case hm => k_memK); (case h1 => k_allIn); (case h2 => (intro p hp; k_ownIn)); (case h3 => k_all); (case h4 => k_all); (case hi => assumption); (case hp => k_extra "turn"); (case hr => (intro z h1 h2 h3; (have h4 := h3); (simp only [List.contains_cons, List.contains_nil, Bool.or_false, Bool.or_eq_false_iff, beq_eq_false_iff_ne, ne_eq] at h3); (simp [h1, h2, h3, h4]))))
  k_with "UnrEnd" => k_dflt ((rename News _ _ _ _ => nE'); (have kMk := kstMark); (refine' UnrEnd.intro (by assumption) nE' _ (fun p hp => hp) ?off ?_); (case off => k_all); clear nE' kMk)
  k_with "call ref" => (k_here; (with_reducible show wpAny _ _ (call (Value.ref 102) [Value.bytes _ _, Value.none, Value.bool _] _) _ _ _); k_dflt (refine' useE (dec_none _ _ _ ?hn _) ?k1 ?k2 ?k3 ?k4 ?k5 ?k6 ?k8 ?_ ?_; (case hn => omega); walk_at "mine useE"); intro v' h' tk' F' N' hv'; k_dflt (obtain ⟨os9, b9, t9, e9, e8, hb9⟩ := hv'); subst e8; (try k_sweep))
  k_with "call ref" => (k_here; (with_reducible show wpAny _ _ (call (Value.ref 102) [Value.bytes _ _, Value.bytes _ _, Value.bool _] _) _ _ _); k_dflt (refine' useE (dec_bytes _ _ _ ?hn _ _ _ _ _ ?hb ?hp2) ?k1 ?k2 ?k3 ?k4 ?k5 ?k6 ?k8 ?_ ?_; (case hb => assumption); (case hn => omega); (case hp2 => assumption); walk_at "mine useE"); intro v' h' tk' F' N' hv'; k_dflt (obtain ⟨os9, b9, t9, e9, e8, hb9⟩ := hv'); subst e8; (try k_sweep))
  k_with "mine useE" => ((case k1 => k_asm); (case k2 => k_asm); (case k3 => k_asm); (case k4 => k_asm); (case k5 => k_asm); (case k6 => first | exact rfl | assumption); (case k8 => exact ⟨by ktr_room, by ktr_units⟩); k_whole)
  k_with "call ref" => (k_here; (with_reducible show wpAny _ _ (call (Value.ref 123) [Value.ref _, Value.bool _] _) _ _ _); k_dflt (refine' useV (due_spec _ _ _ _ _ ?hi ?hr ?hn) ?k1 ?k2 ?k3 ?k4 ?k5 ?k6 ?k7 ?k8 ?_; (case hi => assumption); (case hr => assumption); (case hn => omega); (case k7 => exact News.isList (by k_asm) (by k_memK)); walk_at "mine useX"); intro v' h' tk' F' N' hv'; k_dflt (rcases due_cases hv' with ⟨e9, e8⟩ | ⟨e9, e8⟩ | ⟨os9, b9, t9, e9, e8, hb9⟩) <;> subst e8 <;> (try k_sweep))
  k_with "call ref" => (k_here; (with_reducible show wpAny _ _ (call (Value.ref 135) [Value.bytes _ _, _, Value.bool _] _) _ _ _); k_dflt (refine' useT CT ?k1 ?k2 ?k3 ?k4 ?k5 ?k6 ?k8 ?_; walk_at "mine useX"); intro v' h' tk' F' N' hv'; k_dflt (first | ((have e8 := hv'.1 (hs1 e9)); subst e8) | ((obtain ⟨b8, t8, e8, hb8⟩ := hv'.2 _ (hs2 _ e9).1); subst e8; (have e7 : b8 = b9 := bInts_inj (hb8.trans hb9.symm)); subst e7)); (try k_sweep))
  k_with "call ref" => (k_here; (with_reducible show wpAny _ _ (call (Value.ref 94) [Value.bytes _ _, _] _) _ _ _); k_dflt (refine' useV (CE _ _ ?hn) ?k1 ?k2 ?k3 ?k4 ?k5 ?k6 ?k7 ?k8 ?_; (case hn => (rw [← KBw.ints_length, hb9]; exact (hs2 _ e9).2.1)); (case k7 => exact True.intro); walk_at "mine useX"); intro v' h' tk' F' N' hv'; k_dflt (obtain ⟨c8, t8, e8, hc8⟩ := hv'); subst e8; (try k_sweep))
  k_with "call ref" => (k_here; (with_reducible show wpAny _ _ (call (Value.ref 128) [Value.bytes _ _, _] _) _ _ _); k_dflt (refine' useV (CW _ _ _ hb9 (hs2 _ e9).2.1) ?k1 ?k2 ?k3 ?k4 ?k5 ?k6 ?k7 ?k8 ?_; (case k7 => exact True.intro); walk_at "mine useX"); intro v' h' tk' F' N' hv'; k_dflt (obtain ⟨c7, t7, e8, hc7⟩ := hv'); subst e8; (have e7 : c7 = c8 := bInts_inj (by rw [hc7, hc8, hb9]; exact (hs2 _ e9).2.2.symm)); subst e7; (try k_sweep))
  k_with "mine useX" => ((case k1 => k_asm); (case k2 => k_asm); (case k3 => k_asm); (case k4 => k_asm); (case k5 => k_asm); (case k6 => first | exact rfl | assumption); (case k8 => first | exact ⟨by ktr_room, by ktr_units⟩ | exact ⟨by decide, by decide⟩); k_whole)
  k_with "call ref" => (k_here; (with_reducible show wpAny _ _ (call (Value.ref 116) [_] _) _ _ _); k_dflt (refine' useL CTab ?k1 ?k2 ?k3 ?k4 ?k5 ?k6 ?k7 ?k8 ?_; (case k7 => exact True.intro); walk_at "mine useX"); intro l' vs' c' h' tk' F' N' ne' iX'; (try simp only [TLg.AllNe, and_true] at ne'); (try k_sweep))
  k_with "call ref" => (k_here; (with_reducible show wpAny _ _ (call (Value.ref 142) [Value.int _ _, _] _) _ _ _); k_dflt (refine' useV (CSign _ _ ?hx0 ?hx1) ?k1 ?k2 ?k3 ?k4 ?k5 ?k6 ?k7 ?k8 ?_; (case hx0 => exact (hns _ (by assumption)).1); (case hx1 => exact (hns _ (by assumption)).2); (case k7 => exact True.intro); walk_at "mine useX"); intro v' h' tk' F' N' hv'; k_dflt (obtain ⟨t8, e8⟩ := hv'); subst e8; (try k_sweep))
  k_with "binaryOp Add bytes bytes" => (k_here; k_dflt (refine' piece_add ?zzqhb ?zzqhz ?zzqhn ?_; (case zzqhb => with_reducible assumption); (case zzqhz => (rw [List.length_take]; omega)); (case zzqhn => omega); k_whole); intro b9 t9 k9 hsz9)
  k_with "exec Assign cons ListComp" => (k_here; (with_reducible show wpAny _ _ (exec (Stmt.Assign [Expr.Name (Str.ofString "places") _] _ _) _) _ _ _); k_dflt (refine assign_comp_bytes (F₀ := by k_asm) (by rfl) (by with_unfolding_all rfl) (by with_unfolding_all rfl) (by decide) (by rfl) (by decide) (by rfl) (by rfl) (by rfl) ?_))
  k_with "BSrc" => k_dflt (refine' BSrc.intro (fun x => (tabOf pr).getD x.toNat 0) rfl (by rfl) (by k_asm) (by k_asm) ?zzqsz (fun k' t' I' oI' C' oC' D' m' ys' h' tk' E' hk9 hC' hx' F' N' off' ne' hMark' => ?_) ?_; (case zzqsz => (rw [KBw.ints_length]; omega)); (all_goals (try (simp only [LCg.Off3, and_true] at off'))); rotate_left; (intro ys9 D9 h' tk' hiP F' N' o1'); rotate_left; (all_goals (try k_fold)))
  k_with "subscriptTail" => (k_here; (with_reducible show wpAny _ _ (subscriptTail (Expr.Name (Str.ofString "table") _) _ (Value.ref _) (Value.int _ _)) _ _ _); k_dflt (refine' ksa_sub ?zzqk1 ?zzqk2 ?zzqk3 ?zzqk4 ?zzqk5 ?zzqk6 ?_ ?zzqk7; (case zzqk1 => k_asm); (case zzqk2 => k_mem); (case zzqk3 => with_reducible assumption); (case zzqk4 => exact (KBw.ints_in hk9).1); (case zzqk5 => exact ints_ltl hk9); (case zzqk6 => exact Int.lt_trans (KBw.ints_in hk9).2 two63); (case zzqk7 => with_unfolding_all rfl); k_whole))
  k_with "KCfEl" => k_dflt (exact kcf_el rfl rfl rfl)
  k_with "execs cons Assign cons" => k_dflt ((with_reducible show wpAny _ _ (execs (Stmt.Assign [Expr.Name (Str.ofString "due") _] _ _ :: _) _) _ _ _); (refine' law_turn (R := a2bGo sb9 (trD pr (KBw.bInts b9)) [] 0 0 0) (EN := fun os => trE pr (b2aGo os [] 0 0)) (WR := fun os => wtext (signsOf pr) os ((os.length + 2) / 3)) (pl := plcs pr (KBw.bInts b9)) ?zzqho ?zzqhst ?zzqB ?zzqF ?zzqX ?zzqT ?zzqh1 ?zzqh2 ?zzqh3 ?zzqN ?zzqhN ?zzqhN2 ?zzqhd9 ?zzqhi ?zzqhpl ?zzqhlen ?zzqCT ?zzqCE ?zzqCW ?zzqhs1 ?zzqhs2 ?zzqhc ?_); (case zzqho => k_is); (case zzqhst => rfl); (case zzqB => assumption); (case zzqF => k_asm); (case zzqX => assumption); (case zzqT => assumption); (case zzqh1 => rfl); (case zzqh2 => rfl); (case zzqh3 => rfl); (case zzqN => k_asm); (case zzqhN => k_memK); (case zzqhN2 => k_memK); (case zzqhd9 => assumption); (case zzqhi => exact hiP); (case zzqhpl => exact plcs_rng _ _); (case zzqhlen => exact plcs_len hsz9); (case zzqCT => exact CT _ _ _ hsz9); (case zzqCE => exact CE); (case zzqCW => exact CW); (case zzqhs1 => exact plain_no hpr hsz9); (case zzqhs2 => exact plain_oct hpr hsz9); (case zzqhc => exact fun _ h => h); k_whole; (intro h' tk' u9 F' N'))
  k_with "FreeT" => k_dflt ((rename News _ _ _ _ => nE'); (rename Fr _ _ _ _ => fE'); (have kMk := kstMark); (refine' FreeT.intro ?zzqhf fE' nE' ?zzqh1 ?zzqh2 ?zzqhr); (case zzqhf => first | exact .inl rfl | exact .inr rfl); (case zzqh1 => kcf_all); (case zzqh2 => kcf_all); (case zzqhr => (intro z h1 h3; (have h4 := h3); (simp only [List.contains_cons, List.contains_nil, Bool.or_false, Bool.or_eq_false_iff, beq_eq_false_iff_ne, ne_eq] at h3); (simp [h1, h3, h4]))))
  k_with "pyIter ref" => k_dflt ((with_reducible show wpAny _ _ (pyIter (Value.ref _)) (fun it s₂ => LoopAtV _ _ _ _ _ (Str.ofString "pads") _ _ _ it s₂) _ _); (rename IsRange _ _ _ _ _ _ _ _ => rgX); (rename Fr _ _ _ _ => lF'); (rename News _ _ _ _ => lN'); (with_unfolding_all refine' rangeFree ["piece", "places", "strict", "due", "sent"] (by rfl) rgX (by decide) (rangeSize_nat _ _) lF' lN' ?_ ?_); (all_goals (try clear lF' lN')); (intro i2 z2 t2 u2 h tk own2 hz2 hlt2 hoff2 kFr kNews; (replace hz2 := pads_rng hz2 hlt2); clear hlt2; (try simp only [List.cons_append, List.nil_append] at kNews); (try simp only [List.map_cons, List.map_nil] at hoff2); (try k_fold)); rotate_left; (intro u2 h tk kFr kNews; (try k_fold)); rotate_left)
  k_with "pyIter ref" => k_dflt ((with_reducible show wpAny _ _ (pyIter (Value.ref _)) (fun it s₂ => LoopAtV _ _ _ _ _ (Str.ofString "size") _ _ _ it s₂) _ _); (rename IsRange _ _ _ _ _ _ _ _ => rgX); (rename Fr _ _ _ _ => lF'); (rename News _ _ _ _ => lN'); (with_unfolding_all refine' rangeFree ["pads", "piece", "places", "strict", "due", "sent"] (by rfl) rgX ?zzqsm (rangeSize_nat _ _) lF' lN' ?_ ?_); (case zzqsm => (refine' small_one ?_ ?_ ?_ ?_ <;> first | omega | (split <;> omega))); (all_goals (try clear lF' lN')); (intro i1 z1 t1 u1 h tk own1 hz1 hlt1 hoff1 kFr kNews; (replace hz1 := size_rng hz1 hlt1); clear hlt1; (try simp only [List.cons_append, List.nil_append] at kNews); (try simp only [List.map_cons, List.map_nil] at hoff1); (try k_fold)); rotate_left; (intro u1 h tk kFr kNews; (try k_fold)); rotate_left)
  k_with "pyIter ref" => k_dflt ((with_reducible show wpAny _ _ (pyIter (Value.ref _)) (fun it s₂ => LoopAtV _ _ _ _ _ (Str.ofString "strict") _ _ _ it s₂) _ _); (rename Fr _ _ _ _ => lF'); (rename News _ _ _ _ => lN'); (with_unfolding_all refine' boolsFree (vs := [Value.bool false, Value.bool true]) (nn := 0) ["due", "sent"] (by rfl) ?zzqzl bools2 lF' lN' ?_ ?_); (case zzqzl => k_memK); (all_goals (try clear lF' lN')); (intro sb9 u3 h tk own3 hoff3 kFr kNews; (try simp only [List.cons_append, List.nil_append] at kNews); (try k_fold)); rotate_left; (intro u3 h tk kFr kNews; (try k_fold)); rotate_left)
  walk_at "mine go"
  exact hend _ _ _ (by assumption)
structure Pack (w : World) (pairV : Value) (pr : Option (Int × Int)) : Prop where
  rng : ∀ a b, pr = some (a, b) → (0 ≤ a ∧ a < 256) ∧ 0 ≤ b ∧ b < 256
  tab : Calls w 116 [pairV] [] 4 (fun _ => True) (fun g h' v => ∃ l vs c, v = .ref l ∧ h'.get? l = some (W.listOf vs.toArray c) ∧ IntsAre vs (tabOf pr) ∧ g.get? l = none)
  sign : ∀ x t, 0 ≤ x → x < 100000 → Calls w 142 [.int x t, pairV] [] 4 (fun _ => True) (fun _ _ v => ∃ t', v = .int (signVal pr x) t')
  told : ∀ b t sb, Array.size b ≤ 60 → CallsT w 135 [.bytes b t, pairV, .bool sb] 12 (ToldV (a2bGo sb (trD pr (KBw.bInts b)) [] 0 0 0))
  enc : ∀ b' t', Array.size b' ≤ 60 → Calls w 94 [.bytes b' t', pairV] [] 8 (fun _ => True) (fun _ _ v => ∃ c t, v = .bytes c t ∧ KBw.bInts c = trE pr (b2aGo (KBw.bInts b') [] 0 0))
  wrt : ∀ b' t' os, KBw.bInts b' = os → os.length ≤ 60 → Calls w 128 [.bytes b' t', pairV] [] 4 (fun _ => True) (fun _ _ v => ∃ c t, v = .bytes c t ∧ KBw.bInts c = wtext (signsOf pr) os ((os.length + 2) / 3))
theorem pack_none (w : World) : Pack w .none none :=
  { rng := fun _ _ h => (nomatch h), tab := table_none w, sign := fun x t h0 h1 => sign_none w x t h0 h1, told := fun b t sb h => told_none w b t h sb, enc := fun b t h => enc_none w b t h, wrt := fun b t os hb h => written_none w b t os hb h }
theorem pack_bytes (w : World) {pb : Array UInt8} (u : Tok) {p0 p1 : Int} (hb : KBw.bInts pb = [p0, p1]) (h0 : 0 ≤ p0 ∧ p0 < 256) (h1 : 0 ≤ p1 ∧ p1 < 256) : Pack w (.bytes pb u) (some (p0, p1)) :=
  have hs : pb.size = 2 := by rw [← KBw.ints_length, hb]; rfl
  { rng := fun a b h => by cases h; exact ⟨h0, h1⟩, tab := table_bytes w pb u p0 p1 hb, sign := fun x t g0 g1 => sign_bytes w x t pb u p0 p1 hb g0 g1, told := fun b t sb h => told_bytes w b t h sb pb u p0 p1 hb hs, enc := fun b t h => enc_bytes w b t h pb u p0 p1 hb hs, wrt := fun b t os hb' h => written_bytes w b t os hb' h pb u p0 p1 hb h0 h1 }
theorem pair_ints {x y : Int} (h1 : ((x.toNat.toUInt8.toNat : Nat) : Int) = x) (h2 : ((y.toNat.toUInt8.toNat : Nat) : Int) = y) : KBw.bInts #[x.toNat.toUInt8, y.toNat.toUInt8] = [x, y] := by
  show [((x.toNat.toUInt8.toNat : Nat) : Int), ((y.toNat.toUInt8.toNat : Nat) : Int)] = [x, y]
  rw [h1, h2]
theorem law_rest {w : World} {p : Program} {loose : List Str} {mean : ExcName → Option Value} {mg mb : Str → Option Value} {h₀ : Heap} {L fa : Addr} {m : Str → Option Value} {s : Shared} {Q : Flow → Shared → Prop} {E : Value → Shared → Prop}
    {news : List (Addr × Obj)} {ln : Addr} {vsn : List Value} {ns : List Int} {c : Nat} {pairV : Value} {oc9 oc8 : Obj} {pr : Option (Int × Int)} {tl : List Stmt} {cd : Value}
    {oc : Value} {od : Option Addr} {osl : Array (Option Value)} {name qual : Str} {params : Arguments} {body : List Stmt} {scope : Scope} {dV kV doc pm cdv ct : Value} {an : Option Addr}
    (ho : (hd.heap_39 w.params).lookup 147 = some ⟨oc, od, .func (fnOf name qual params body scope dV kV doc pm an cdv ct), osl⟩) (htl : body.drop 3 = tl)
    (B : Below callerA h₀ [] h₀) (F : Fr h₀ L s.heap m) (X : (hd.heap_39 w.params).In h₀) (T : Top p loose mean mg mb h₀) (h1 : m "numbers" = some (.ref ln))
    (N : News h₀ L s.heap news) (hN : (ln, PySem.W.listOf vsn.toArray c) ∈ news) (hN2 : (L + 1, oc9) ∈ news) (hd9 : oc9.data = .cell (some pairV)) (hN3 : (L + 1 + 1, oc8) ∈ news) (hd8 : oc8.data = .cell none) (hl1 : L + 1 + 1 ≠ ln)
    (hi : IntsAre vsn ns) (hns : ∀ n ∈ ns, 0 ≤ n ∧ n < 100000) (hlen : ns.length ≤ 10) (K : Pack w pairV pr)
    (plain_no : ∀ {b : Array UInt8} {sb : Bool}, (∀ a b, pr = some (a, b) → (0 ≤ a ∧ a < 256) ∧ 0 ≤ b ∧ b < 256) → b.size ≤ 60 → dueOf sb (plcs pr (KBw.bInts b)) = .no → a2bGo sb (trD pr (KBw.bInts b)) [] 0 0 0 = none)
    (plain_oct : ∀ {b : Array UInt8} {sb : Bool}, (∀ a b, pr = some (a, b) → (0 ≤ a ∧ a < 256) ∧ 0 ≤ b ∧ b < 256) → b.size ≤ 60 → ∀ os, dueOf sb (plcs pr (KBw.bInts b)) = .octets os → a2bGo sb (trD pr (KBw.bInts b)) [] 0 0 0 = some os ∧ os.length ≤ 60 ∧ trE pr (b2aGo os [] 0 0) = wtext (signsOf pr) os ((os.length + 2) / 3))
    (hend : ∀ (h' : Heap) (tk' : Nat) (m' : Str → Option Value), Fr h₀ L h' m' → Q (.ret (.bool true)) { s with heap := h', toks := tk' }) :
    wpAny (model Challenge.rw_qh0109_01.row.prog w) (callerA.deeper (envOfC qual scope L fa cd)) (execs tl (envOfC qual scope L fa cd)) Q
      (fun e s' => wpAny (model Challenge.rw_qh0109_01.row.prog w) (callerA.deeper (envOfC qual scope L fa cd)) (leaving (envOfC qual scope L fa cd) e) (fun _ s'' => E e s'') (fun e' s'' => E e' s'') s') s := by
  subst htl
  have hpr := K.rng
  have CTab := K.tab
  have CSign := K.sign
  have CT := K.told
  have CE := K.enc
  have CW := K.wrt
  clear K
  revert ho
  k_fill
  intro ho
  refine' look_use ho ?k6 ?_
  (case k6 => k_is)
  intro e
  cases e
  replace F := frTo F (map1 h1)
  replace N := news3 N hN hN2 hN3
  clear hN hN2 hN3 h1
  k_with_none
  w_top off
  k_with "mine sides" => ((case kA => exact rfl); (case kF => exact rfl); (case kK => assumption); (case k6 => k_is); (case k7 => k_is); (case k8 => ktr_room); (case k9 => first | exact BindsTo.of_eq rfl | exact binds_K (by k_in) rfl (by k_is) rfl rfl rfl); (case c5 => decide); (case kB => exact locs rfl); (case c2 => exact rfl); (case c3 => exact rfl); (case c4 => exact rfl); k_whole; intro L' h' F' N' B' X' T'; (try dsimp only); (try k_lift B'); (try k_fold))
  k_with "call type:type" => ((with_reducible show wpAny _ _ (call _ [Value.bytes _ _]) _ _ _); refine call_type_of (Tx := "bytes") rfl (by decide +kernel) ?_)
  k_with "getMethod bytes" => (k_here; (with_reducible refine getm_tr ?_))
  k_with "getMethod type:bytes" => (k_here; k_dflt (refine' getm_mt ?k1 ?k2 ?k3 ?_; (case k1 => k_asm); (case k2 => k_asm); (case k3 => k_is); k_whole))
  k_with "call builtin:bytes.maketrans" => (k_here; k_dflt (refine' call_mt ?k1 ?_; (case k1 => first | rfl | (simp_all; done)); k_whole))
  k_with "call builtin:bytes.translate" => (k_here; k_dflt (refine' call_tr ?k1 ?k2 ?_; (case k1 => first | exact trTab_size _ _ | (simp_all; done)); (case k2 => first | omega | (simp_all; omega)); k_whole); intro t' k')
  k_with "call type:list" => (k_here; (with_reducible show wpAny _ _ (call (Value.type "list") [Value.bytes _ _]) _ _ _); k_dflt (refine' list_bytes_K ?k0 ?k1 ?k2 ?k3 ?_; (case k0 => rfl); (case k1 => k_asm); (case k2 => k_asm); (case k3 => first | decide | (simp_all; omega)); k_whole); intro l' h' tk' vs' c' F' N' l1 iX'; (try k_lt l1); (try k_sweep))
  k_with "mine useV" => ((case k1 => k_asm); (case k2 => k_asm); (case k3 => k_asm); (case k4 => k_asm); (case k5 => k_asm); (case k6 => first | exact rfl | assumption); (case k7 => first | exact True.intro | assumption); (case k8 => exact ⟨by ktr_room, by ktr_units⟩); k_whole)
  k_with "exec For Name Call cons nil" => (k_here; kst_src; (rename Fr _ _ _ _ => lF'); (with_unfolding_all refine' For_invVF lF' ?k1 ?k2 ?_; (case k1 => exact rfl); (case k2 => exact rfl); k_whole))
  k_with "exec For Name Name cons nil" => (k_here; kst_src; (rename Fr _ _ _ _ => lF'); (with_unfolding_all refine' For_invVF lF' ?k1 ?k2 ?_; (case k1 => exact rfl); (case k2 => exact rfl); k_whole))
  k_with "exec For Name Name cons nil" => (k_here; kstb_has; kstb_name; (rename Fr _ _ _ _ => lF'); (with_unfolding_all refine' For_invVF lF' ?k1 ?k2 ?_; (case k1 => exact rfl); (case k2 => exact rfl); k_whole))
  k_with "subscriptTail" => (k_here; (with_reducible show wpAny _ _ (subscriptTail _ _ (Value.bytes _ _) (Value.int _ _)) _ _ _); k_dflt (refine' KBw.item_K ?k1 ?k2 ?k3 ?k4 ?_; (case k1 => with_reducible assumption); (case k2 => simp only [List.length_cons, List.length_nil]; omega); (case k3 => omega); (case k4 => simp only [List.length_cons, List.length_nil]; omega); k_whole); intro _ _ kbaLo kbaHi)
  k_with "mine go" => repeat' (first | (k_unfold; (try dsimp only)) | walk1 | (dsimp only; walk1) | (leave1; (try dsimp only)) | fail "no step")
  k_with "storeName" => (k_here; (dsimp only); walk_at "storeName")
  k_with "call ref" => (k_here; (with_reducible show wpAny _ _ (call (Value.ref 109) _ _) _ _ _); k_dflt (refine' useL (signs_spec _) ?k1 ?k2 ?k3 ?k4 ?k5 ?k6 ?k7 ?k8 ?_; walk_at "mine useV"); intro l' vs' c' h' tk' F' N' ne' iX'; (try simp only [TLg.AllNe, and_true] at ne'); (try k_sweep))
  k_with "call ref" => (k_here; (with_reducible show wpAny _ _ (call (Value.ref 70) [Value.int _ _] _) _ _ _); k_dflt (refine' useV (val_spec _ _ _) ?k1 ?k2 ?k3 ?k4 ?k5 ?k6 ?k7 ?k8 ?_; walk_at "mine useV"); intro v' h' tk' F' N' hv'; obtain ⟨t', e'⟩ := hv'; subst e'; (try k_sweep))
  k_with "call ref" => (k_here; (with_reducible show wpAny _ _ (call (Value.ref 63) [Value.bool _] _) _ _ _); k_dflt (refine' useV (truth_spec _ _) ?k1 ?k2 ?k3 ?k4 ?k5 ?k6 ?k7 ?k8 ?_; walk_at "mine useV"); intro v' h' tk' F' N' hv'; subst hv'; (try k_sweep))
  k_with "call ref" => (k_here; (with_reducible show wpAny _ _ (call (Value.ref 56) [Value.bytes _ _] _) _ _ _); k_dflt (refine' useV (buffer_spec _ _ _) ?k1 ?k2 ?k3 ?k4 ?k5 ?k6 ?k7 ?k8 ?_; walk_at "mine useV"); intro v' h' tk' F' N' hv'; subst hv'; (try k_sweep))
  k_with "call ref" => (k_here; (with_reducible show wpAny _ _ (call (Value.ref 49) [Value.bytes _ _] _) _ _ _); k_dflt (refine' useV (ascii_spec _ _ _) ?k1 ?k2 ?k3 ?k4 ?k5 ?k6 ?k7 ?k8 ?_; walk_at "mine useV"); intro v' h' tk' F' N' hv'; subst hv'; (try k_sweep))
  k_with "call ref" => (k_here; (with_reducible show wpAny _ _ (call (Value.ref 29) [Value.bytes _ _] _) _ _ _); k_dflt (refine' useV (from_spec _ _ _) ?k1 ?k2 ?k3 ?k4 ?k5 ?k6 ?k7 ?k8 ?_; walk_at "mine useV"); intro v' h' tk' F' N' hv'; subst hv'; (try k_sweep))
  k_with "call builtin:len" => (k_here; (with_reducible show wpAny _ _ (call (Value.builtin "len") [Value.bytes _ _]) _ _ _); k_dflt (refine len_two (by assumption) ?_))
  k_with "call ref" => (k_here; (with_reducible show wpAny _ _ (call (Value.ref 86) [Value.bytes _ _] _) _ _ _); k_dflt (refine' useV (b2a_spec _ _ _ _ rfl ?hn) ?k1 ?k2 ?k3 ?k4 ?k5 ?k6 ?k7 ?k8 ?_; (case hn => (rw [KBw.ints_length]; omega)); walk_at "mine useV"); intro v' h' tk' F' N' hv'; obtain ⟨c', t', e', hc', hs'⟩ := hv'; subst e'; (try k_sweep))
  k_with "call ref" => (k_here; (with_reducible show wpAny _ _ (call (Value.ref 78) [Value.bytes _ _] _) _ _ _); k_dflt (refine' useE (a2b_spec _ _ _ _ _ rfl ?hn) ?k1 ?k2 ?k3 ?k4 ?k5 ?k6 ?k8 ?_ ?_; (case hn => (rw [KBw.ints_length]; (try rw [tr_size]); omega)); (case k1 => k_asm); (case k2 => k_asm); (case k3 => k_asm); (case k4 => k_asm); (case k5 => k_asm); (case k6 => first | exact rfl | assumption); (case k8 => exact ⟨by ktr_room, by ktr_units⟩); k_whole); intro v' h' tk' F' N' hv'; (try k_sweep))
  k_with "leaving ref" => k_dflt (refine' leave_onS ?k1 ?k2 ?k3 ?k4 ?_; (case k3 => assumption); (case k2 => assumption); (case k1 => assumption); (case k4 => assumption); k_whole; intro h' R' RK' U')
  k_with "PostT" => (dsimp only [PostT])
  k_with "EndT" => k_dflt ((rename News _ _ _ _ => nE'); (have kMk := kstMark); (refine' EndT.intro (by assumption) nE' ?hy ?hm ?h1 ?h2 ?h3 ?h4 ?hi ?hp ?hr); (case hy => rfl); (case hm => k_memK); (case h1 => k_allIn); (case h2 => (intro p hp; k_ownIn)); (case h3 => k_all); (case h4 => k_all); (case hi => assumption); (case hp => k_extra "turn"); (case hr => (intro z h1 h2 h3; (have h4 := h3); (simp only [List.contains_cons, List.contains_nil, Bool.or_false, Bool.or_eq_false_iff, beq_eq_false_iff_ne, ne_eq] at h3); (simp [h1, h2, h3, h4]))))
  k_with "UnrEnd" => k_dflt ((rename News _ _ _ _ => nE'); (have kMk := kstMark); (refine' UnrEnd.intro (by assumption) nE' _ (fun p hp => hp) ?off ?_); (case off => k_all); clear nE' kMk)
  k_with "call ref" => (k_here; (with_reducible show wpAny _ _ (call (Value.ref 102) [Value.bytes _ _, Value.none, Value.bool _] _) _ _ _); k_dflt (refine' useE (dec_none _ _ _ ?hn _) ?k1 ?k2 ?k3 ?k4 ?k5 ?k6 ?k8 ?_ ?_; (case hn => omega); walk_at "mine useE"); intro v' h' tk' F' N' hv'; k_dflt (obtain ⟨os9, b9, t9, e9, e8, hb9⟩ := hv'); subst e8; (try k_sweep))
  k_with "call ref" => (k_here; (with_reducible show wpAny _ _ (call (Value.ref 102) [Value.bytes _ _, Value.bytes _ _, Value.bool _] _) _ _ _); k_dflt (refine' useE (dec_bytes _ _ _ ?hn _ _ _ _ _ ?hb ?hp2) ?k1 ?k2 ?k3 ?k4 ?k5 ?k6 ?k8 ?_ ?_; (case hb => assumption); (case hn => omega); (case hp2 => assumption); walk_at "mine useE"); intro v' h' tk' F' N' hv'; k_dflt (obtain ⟨os9, b9, t9, e9, e8, hb9⟩ := hv'); subst e8; (try k_sweep))
  k_with "mine useE" => ((case k1 => k_asm); (case k2 => k_asm); (case k3 => k_asm); (case k4 => k_asm); (case k5 => k_asm); (case k6 => first | exact rfl | assumption); (case k8 => exact ⟨by ktr_room, by ktr_units⟩); k_whole)
  k_with "call ref" => (k_here; (with_reducible show wpAny _ _ (call (Value.ref 123) [Value.ref _, Value.bool _] _) _ _ _); k_dflt (refine' useV (due_spec _ _ _ _ _ ?hi ?hr ?hn) ?k1 ?k2 ?k3 ?k4 ?k5 ?k6 ?k7 ?k8 ?_; (case hi => assumption); (case hr => assumption); (case hn => omega); (case k7 => exact News.isList (by k_asm) (by k_memK)); walk_at "mine useX"); intro v' h' tk' F' N' hv'; k_dflt (rcases due_cases hv' with ⟨e9, e8⟩ | ⟨e9, e8⟩ | ⟨os9, b9, t9, e9, e8, hb9⟩) <;> subst e8 <;> (try k_sweep))
  k_with "call ref" => (k_here; (with_reducible show wpAny _ _ (call (Value.ref 135) [Value.bytes _ _, _, Value.bool _] _) _ _ _); k_dflt (refine' useT CT ?k1 ?k2 ?k3 ?k4 ?k5 ?k6 ?k8 ?_; walk_at "mine useX"); intro v' h' tk' F' N' hv'; k_dflt (first | ((have e8 := hv'.1 (hs1 e9)); subst e8) | ((obtain ⟨b8, t8, e8, hb8⟩ := hv'.2 _ (hs2 _ e9).1); subst e8; (have e7 : b8 = b9 := bInts_inj (hb8.trans hb9.symm)); subst e7)); (try k_sweep))
  k_with "call ref" => (k_here; (with_reducible show wpAny _ _ (call (Value.ref 94) [Value.bytes _ _, _] _) _ _ _); k_dflt (refine' useV (CE _ _ ?hn) ?k1 ?k2 ?k3 ?k4 ?k5 ?k6 ?k7 ?k8 ?_; (case hn => (rw [← KBw.ints_length, hb9]; exact (hs2 _ e9).2.1)); (case k7 => exact True.intro); walk_at "mine useX"); intro v' h' tk' F' N' hv'; k_dflt (obtain ⟨c8, t8, e8, hc8⟩ := hv'); subst e8; (try k_sweep))
  k_with "call ref" => (k_here; (with_reducible show wpAny _ _ (call (Value.ref 128) [Value.bytes _ _, _] _) _ _ _); k_dflt (refine' useV (CW _ _ _ hb9 (hs2 _ e9).2.1) ?k1 ?k2 ?k3 ?k4 ?k5 ?k6 ?k7 ?k8 ?_; (case k7 => exact True.intro); walk_at "mine useX"); intro v' h' tk' F' N' hv'; k_dflt (obtain ⟨c7, t7, e8, hc7⟩ := hv'); subst e8; (have e7 : c7 = c8 := bInts_inj (by rw [hc7, hc8, hb9]; exact (hs2 _ e9).2.2.symm)); subst e7; (try k_sweep))
  k_with "mine useX" => ((case k1 => k_asm); (case k2 => k_asm); (case k3 => k_asm); (case k4 => k_asm); (case k5 => k_asm); (case k6 => first | exact rfl | assumption); (case k8 => first | exact ⟨by ktr_room, by ktr_units⟩ | exact ⟨by decide, by decide⟩); k_whole)
  k_with "call ref" => (k_here; (with_reducible show wpAny _ _ (call (Value.ref 116) [_] _) _ _ _); k_dflt (refine' useL CTab ?k1 ?k2 ?k3 ?k4 ?k5 ?k6 ?k7 ?k8 ?_; (case k7 => exact True.intro); walk_at "mine useX"); intro l' vs' c' h' tk' F' N' ne' iX'; (try simp only [TLg.AllNe, and_true] at ne'); (try k_sweep))
  k_with "call ref" => (k_here; (with_reducible show wpAny _ _ (call (Value.ref 142) [Value.int _ _, _] _) _ _ _); k_dflt (refine' useV (CSign _ _ ?hx0 ?hx1) ?k1 ?k2 ?k3 ?k4 ?k5 ?k6 ?k7 ?k8 ?_; (case hx0 => exact (hns _ (by assumption)).1); (case hx1 => exact (hns _ (by assumption)).2); (case k7 => exact True.intro); walk_at "mine useX"); intro v' h' tk' F' N' hv'; k_dflt (obtain ⟨t8, e8⟩ := hv'); subst e8; (try k_sweep))
  k_with "execs cons For cons" => k_dflt ((with_reducible show wpAny _ _ (execs (Stmt.For (Expr.Name (Str.ofString "size") _) _ _ _ _ :: _) _) _ _ _); (refine' law_loops ?zzqho ?zzqhtl ?zzqB ?zzqF ?zzqX ?zzqT ?zzqh1 ?zzqN ?zzqhN ?zzqhN2 ?zzqhd9 ?zzqhN3 ?zzqhd8 ?zzqhi ?zzqhb ?zzqhtx ?zzqhlen hpr plain_no plain_oct CT CE CW hend); (case zzqho => k_is); (case zzqhtl => rfl); (case zzqB => assumption); (case zzqF => k_asm); (case zzqX => assumption); (case zzqT => assumption); (case zzqh1 => rfl); (case zzqN => k_asm); (case zzqhd9 => exact hd9); (case zzqhd8 => assumption); (case zzqhN2 => k_memK); (case zzqhN3 => k_memK); (case zzqhN => k_memK); (case zzqhi => assumption); (case zzqhb => exact hbt); (case zzqhtx => exact hti); (case zzqhlen => exact htl9))
  have hti : KBa.In ([43, 81] ++ List.map (fun k' => signVal pr k') ns) := text_in hpr ns
  have hbt := KBa.ints_make hti
  have htl9 : ([43, 81] ++ List.map (fun k' => signVal pr k') ns).length ≤ 12 := by rw [List.length_append, List.length_map]; show 2 + _ ≤ 12; omega
  walk_at "mine go"
/-! the plain law: what is read -/
noncomputable def cls (c : Int) : Int := if c = 61 then 64 else if 64 ≤ b64val c then 65 else b64val c
noncomputable def stp (s : List Int × Int × Int) (v : Int) : List Int × Int × Int :=
  if s.2.1 = 0 then (s.1, 1, v)
  else if s.2.1 = 1 then (s.1 ++ [s.2.2 * 4 + v / 16], 2, v % 16)
  else if s.2.1 = 2 then (s.1 ++ [s.2.2 * 16 + v / 4], 3, v % 4)
  else (s.1 ++ [s.2.2 * 64 + v], 0, 0)
noncomputable def stOf (rd : List Int) : List Int × Int × Int := rd.foldl stp ([], 0, 0)
theorem stOf_snoc (rd : List Int) (v : Int) : stOf (rd ++ [v]) = stp (stOf rd) v := by unfold stOf; rw [List.foldl_append]; rfl
noncomputable def oct4 : List Int → List Int
  | a :: b :: c :: d :: r => [a * 4 + b / 16, b % 16 * 16 + c / 4, c % 4 * 64 + d] ++ oct4 r
  | [a, b, c] => [a * 4 + b / 16, b % 16 * 16 + c / 4]
  | [a, b] => [a * 4 + b / 16]
  | _ => []
theorem st_oct : ∀ (rd out : List Int), (rd.foldl stp (out, 0, 0)).1 = out ++ oct4 rd ∧ (rd.foldl stp (out, 0, 0)).2.1 = ((rd.length % 4 : Nat) : Int)
  | [], out => by simp [oct4]
  | [a], out => by simp [oct4, stp]
  | [a, b], out => by simp [oct4, stp]
  | [a, b, c], out => by simp [oct4, stp]
  | a :: b :: c :: d :: r, out => by
    have ih := st_oct r (out ++ [a * 4 + b / 16] ++ [b % 16 * 16 + c / 4] ++ [c % 4 * 64 + d])
    have e : (a :: b :: c :: d :: r).foldl stp (out, 0, 0) = r.foldl stp (out ++ [a * 4 + b / 16] ++ [b % 16 * 16 + c / 4] ++ [c % 4 * 64 + d], 0, 0) := by
      simp [List.foldl_cons, stp]
    rw [e, ih.1, ih.2]
    refine ⟨by simp [oct4], ?_⟩
    exact congrArg Nat.cast (Nat.add_mod_right r.length 4).symm
section
variable {a b c d : Int}
theorem n4_hi (_hb : 0 ≤ b ∧ b < 64) (hc : 0 ≤ c ∧ c < 64) (hd : 0 ≤ d ∧ d < 64) : (((a * 64 + b) * 64 + c) * 64 + d) / 65536 = a * 4 + b / 16 := by
  rw [show (65536 : Int) = 64 * (64 * 16) from rfl, ← Int.ediv_ediv_of_nonneg (by decide), dq (by decide) hd.1 hd.2, ← Int.ediv_ediv_of_nonneg (by decide), dq (by decide) hc.1 hc.2]
  rw [show a * 64 = a * 4 * 16 by rw [Int.mul_assoc]; rfl, Int.add_comm, Int.add_mul_ediv_right _ _ (by decide), Int.add_comm]
theorem n4_mi (hb : 0 ≤ b ∧ b < 64) (hc : 0 ≤ c ∧ c < 64) (hd : 0 ≤ d ∧ d < 64) : (((a * 64 + b) * 64 + c) * 64 + d) / 256 % 256 = b % 16 * 16 + c / 4 := by
  have e : (((a * 64 + b) * 64 + c) * 64 + d) / 256 = ((a * 64 + b) * 64 + c) / 4 := by
    rw [show (256 : Int) = 64 * 4 from rfl, ← Int.ediv_ediv_of_nonneg (by decide), dq (by decide) hd.1 hd.2]
  rw [e]
  refine (dm (p := 4) (q := 16) (r := 16) (by decide) (by decide) (by decide) hc.1 hc.2).trans ?_
  rw [show (a * 64 + b) % 16 = b % 16 from ml 4 16]
theorem n4_lo (hd : 0 ≤ d ∧ d < 64) : (((a * 64 + b) * 64 + c) * 64 + d) % 256 = c % 4 * 64 + d := by
  have := dm (a := (a * 64 + b) * 64 + c) (p := 1) (q := 64) (r := 4) (by decide) (by decide) (by decide) hd.1 hd.2
  rw [Int.ediv_one, Int.ediv_one, show ((a * 64 + b) * 64 + c) % 4 = c % 4 from ml 16 4] at this; exact this
end
theorem grp_first {a b c d : Int} {r : List Int} (h : ∀ n ∈ [a, b, c, d], 0 ≤ n ∧ n < 64) : grp (a :: b :: c :: d :: r) 0 = [a * 4 + b / 16, b % 16 * 16 + c / 4, c % 4 * 64 + d] := by
  have ha := h a (by simp)
  have hb := h b (by simp)
  have hc := h c (by simp)
  have hd := h d (by simp)
  have e : num4 (a :: b :: c :: d :: r) 0 = ((a * 64 + b) * 64 + c) * 64 + d := rfl
  unfold grp
  rw [e]
  have hl : min 3 ((a :: b :: c :: d :: r).length - 0 - 1) = 3 := Nat.min_eq_left (Nat.le_add_left 3 r.length)
  rw [hl, Int.fdiv_eq_ediv_of_nonneg _ (by decide), Int.fdiv_eq_ediv_of_nonneg _ (by decide), Int.fmod_eq_emod_of_nonneg _ (by decide), Int.fmod_eq_emod_of_nonneg _ (by decide)]
  show [_, _, _] = [_, _, _]
  rw [n4_hi hb hc hd, n4_mi hb hc hd, n4_lo hd]
theorem grp_shift (a b c d : Int) (r : List Int) (k : Nat) : grp (a :: b :: c :: d :: r) (k + 4) = grp r k := by
  unfold grp
  have e : num4 (a :: b :: c :: d :: r) (k + 4) = num4 r k := rfl
  have hl : (a :: b :: c :: d :: r).length - (k + 4) - 1 = r.length - k - 1 := by show r.length + 4 - (k + 4) - 1 = _; rw [Nat.add_sub_add_right]
  rw [e, hl]
theorem octs_shift (a b c d : Int) (r : List Int) : ∀ i, octs (a :: b :: c :: d :: r) (i + 1) = grp (a :: b :: c :: d :: r) 0 ++ octs r i
  | 0 => by simp [octs]
  | i + 1 => by
    rw [octs, octs_shift a b c d r i, octs, show 4 * (i + 1) = 4 * i + 4 from rfl, grp_shift, List.append_assoc]
theorem octs_oct4 : ∀ rd : List Int, (∀ n ∈ rd, 0 ≤ n ∧ n < 64) → octs rd ((rd.length + 3) / 4) = oct4 rd
  | [], _ => rfl
  | [a], _ => by
    have e : ([a].length + 3) / 4 = 1 := by simp
    rw [e]; rfl
  | [a, b], h => by
    have e : ([a, b].length + 3) / 4 = 1 := by simp
    rw [e]
    have ha := h a (by simp)
    have hb := h b (by simp)
    show [(((a * 64 + b) * 64 + 0) * 64 + 0 : Int).fdiv 65536] = [a * 4 + b / 16]
    rw [Int.fdiv_eq_ediv_of_nonneg _ (by decide), n4_hi hb (by decide) (by decide)]
  | [a, b, c], h => by
    have e : ([a, b, c].length + 3) / 4 = 1 := by simp
    rw [e]
    have ha := h a (by simp)
    have hb := h b (by simp)
    have hc := h c (by simp)
    show [(((a * 64 + b) * 64 + c) * 64 + 0 : Int).fdiv 65536, ((((a * 64 + b) * 64 + c) * 64 + 0 : Int).fdiv 256).fmod 256] = [a * 4 + b / 16, b % 16 * 16 + c / 4]
    rw [Int.fdiv_eq_ediv_of_nonneg _ (by decide), Int.fdiv_eq_ediv_of_nonneg _ (by decide), Int.fmod_eq_emod_of_nonneg _ (by decide), n4_hi hb hc (by decide), n4_mi hb hc (by decide)]
  | a :: b :: c :: d :: r, h => by
    have e : ((a :: b :: c :: d :: r).length + 3) / 4 = (r.length + 3) / 4 + 1 := by show (r.length + 4 + 3) / 4 = _; rw [Nat.add_right_comm, Nat.add_div_right _ (by decide)]
    rw [e, octs_shift, grp_first fun n hn => h n (by
      rcases List.mem_cons.mp hn with rfl | hn
      · simp
      · rcases List.mem_cons.mp hn with rfl | hn
        · simp
        · rcases List.mem_cons.mp hn with rfl | hn
          · simp
          · rw [List.mem_singleton.mp hn]; simp), octs_oct4 r fun n hn => h n (by simp [hn])]
    rfl
noncomputable def lim (n : Nat) : Int := ([0, 3, 2, 1] : List Int).getD (n % 4) 0
noncomputable def finOf (s : List Int × Int × Int) (pads : Int) : Option (List Int) := if s.2.1 = 1 then none else if s.2.1 ≠ 0 ∧ s.2.1 + pads < 4 then none else some s.1
/-- behind a =, strictly -/
theorem scan_broken : ∀ (cs rd : List Int) (pads : Int), 1 ≤ pads → scan true (cs.map cls) rd pads = .inl .no ∨ ∃ p', pads ≤ p' ∧ scan true (cs.map cls) rd pads = .inr (rd, p')
  | [], rd, pads, _ => .inr ⟨pads, Int.le_refl _, rfl⟩
  | c :: r, rd, pads, h => by
    rw [List.map_cons, scan]
    by_cases h1 : cls c = 64
    · rw [if_pos h1]
      rcases scan_broken r rd (pads + 1) (by omega) with h2 | ⟨p', h3, h4⟩
      · exact .inl h2
      · exact .inr ⟨p', by omega, h4⟩
    · rw [if_neg h1]
      by_cases h2 : cls c = 65
      · rw [if_pos h2]; exact .inl rfl
      · rw [if_neg h2, if_pos (by omega)]; exact .inl rfl
noncomputable def Agree (r : Due ⊕ (List Int × Int)) (a : Option (List Int)) : Prop := match r with
  | .inl .no => a = none
  | .inl .skip => True
  | .inl (.octets _) => False
  | .inr (rd, pads) => pads ≤ lim rd.length → a = finOf (stOf rd) pads
theorem stOf_q (rd : List Int) : (stOf rd).2.1 = ((rd.length % 4 : Nat) : Int) := (st_oct rd []).2
theorem lim_of {n : Nat} {q : Int} (h : q = ((n % 4 : Nat) : Int)) : (q = 0 ∧ lim n = 0) ∨ (q = 1 ∧ lim n = 3) ∨ (q = 2 ∧ lim n = 2) ∨ (q = 3 ∧ lim n = 1) := by
  unfold lim
  subst h
  have h4 : n % 4 < 4 := Nat.mod_lt _ (by decide)
  generalize n % 4 = r at h4 ⊢
  match r with
  | 0 => exact .inl ⟨rfl, rfl⟩
  | 1 => exact .inr (.inl ⟨rfl, rfl⟩)
  | 2 => exact .inr (.inr (.inl ⟨rfl, rfl⟩))
  | 3 => exact .inr (.inr (.inr ⟨rfl, rfl⟩))
  | r + 4 => exact absurd h4 (Nat.not_lt.mpr (Nat.le_add_left 4 r))
theorem agree (sb : Bool) : ∀ (cs rd : List Int) (pads : Int), (∀ n ∈ cs, 0 ≤ n) → 0 ≤ pads → Agree (scan sb (cs.map cls) rd pads) (a2bGo sb cs (stOf rd).1 (stOf rd).2.1 (stOf rd).2.2 pads)
  | [], rd, pads, _, _ => fun _ => rfl
  | c :: r, rd, pads, hn, hp => by
    have hc0 := hn c (.head _)
    have hr : ∀ n ∈ r, 0 ≤ n := fun n h => hn n (.tail _ h)
    have hq := stOf_q rd
    have hv0 := b64val_lo c hc0
    rw [List.map_cons, scan, a2bGo]
    by_cases h61 : c = 61
    · have e : cls c = 64 := by unfold cls; rw [if_pos h61]
      rw [if_pos e, if_pos h61]
      by_cases h2 : 2 ≤ (stOf rd).2.1 ∧ (stOf rd).2.1 + (pads + 1) ≤ 4
      · rw [if_pos h2]; exact agree sb r rd (pads + 1) hr (by omega)
      · rw [if_neg h2]
        cases sb with
        | false => simp only [Bool.false_eq_true, if_false]; exact agree false r rd (pads + 1) hr (by omega)
        | true =>
          rw [if_pos rfl]
          rcases scan_broken r rd (pads + 1) (by omega) with h3 | ⟨p', h3, h4⟩
          · rw [h3]; rfl
          · rw [h4]
            intro hl
            unfold finOf
            rcases lim_of hq with ⟨h5, h6⟩ | ⟨h5, h6⟩ | ⟨h5, h6⟩ | ⟨h5, h6⟩
            · rw [h6] at hl; omega
            · rw [if_pos h5]
            · rw [h6] at hl; omega
            · rw [h6] at hl; omega
    · by_cases h64 : 64 ≤ b64val c
      · have e : cls c = 65 := by unfold cls; rw [if_neg h61, if_pos h64]
        rw [if_neg (by rw [e]; decide), if_pos e, if_neg h61, if_pos h64]
        cases sb with
        | false => simp only [Bool.false_eq_true, if_false]; exact agree false r rd pads hr hp
        | true => rw [if_pos rfl, if_pos rfl]; rfl
      · have e : cls c = b64val c := by unfold cls; rw [if_neg h61, if_neg h64]
        rw [if_neg (by rw [e]; omega), if_neg (by rw [e]; omega), if_neg h61, if_neg h64]
        by_cases hp0 : pads = 0
        · rw [if_neg (by omega), if_neg (by omega), hp0]
          have ih := agree sb r (rd ++ [cls c]) 0 hr (by omega)
          rw [stOf_snoc, e] at ih
          rw [e]
          unfold stp at ih
          by_cases q0 : (stOf rd).2.1 = 0
          · rw [if_pos q0] at ih ⊢; exact ih
          · rw [if_neg q0] at ih ⊢
            by_cases q1 : (stOf rd).2.1 = 1
            · rw [if_pos q1] at ih ⊢; exact ih
            · rw [if_neg q1] at ih ⊢
              by_cases q2 : (stOf rd).2.1 = 2
              · rw [if_pos q2] at ih ⊢; exact ih
              · rw [if_neg q2] at ih ⊢; exact ih
        · rw [if_pos hp0]
          cases sb with
          | false => exact True.intro
          | true => show Agree (.inl .no) _; rw [if_pos ⟨hp0, rfl⟩]; rfl
theorem scan_inr (sb : Bool) : ∀ (cs rd : List Int) (pads : Int), (∀ n ∈ cs, 0 ≤ n) → (∀ n ∈ rd, 0 ≤ n ∧ n < 64) → 0 ≤ pads → ∀ rd' p', scan sb (cs.map cls) rd pads = .inr (rd', p') → (∀ n ∈ rd', 0 ≤ n ∧ n < 64) ∧ rd'.length ≤ rd.length + cs.length ∧ 0 ≤ p'
  | [], rd, pads, _, hr, hp, rd', p', h => by
    have e : (rd, pads) = (rd', p') := Sum.inr.inj h
    cases e
    exact ⟨hr, Nat.le_add_right _ _, hp⟩
  | c :: r, rd, pads, hn, hrd, hp, rd', p', h => by
    have hc0 := b64val_lo c (hn c (.head _))
    have hr : ∀ n ∈ r, 0 ≤ n := fun n h => hn n (.tail _ h)
    rw [List.map_cons, scan] at h
    by_cases h1 : cls c = 64
    · rw [if_pos h1] at h
      have := scan_inr sb r rd (pads + 1) hr hrd (by omega) rd' p' h
      exact ⟨this.1, by simp only [List.length_cons]; omega, this.2.2⟩
    · rw [if_neg h1] at h
      by_cases h2 : cls c = 65
      · rw [if_pos h2] at h
        cases sb with
        | true => cases h
        | false =>
          simp only [Bool.false_eq_true, if_false] at h
          have := scan_inr false r rd pads hr hrd hp rd' p' h
          exact ⟨this.1, by simp only [List.length_cons]; omega, this.2.2⟩
      · rw [if_neg h2] at h
        by_cases h3 : pads ≠ 0
        · rw [if_pos h3] at h; cases h
        · rw [if_neg h3] at h
          have hc : 0 ≤ cls c ∧ cls c < 64 := by
            unfold cls at h1 h2 ⊢
            by_cases g1 : c = 61
            · rw [if_pos g1] at h1; exact absurd rfl h1
            · rw [if_neg g1] at h1 h2 ⊢
              by_cases g2 : 64 ≤ b64val c
              · rw [if_pos g2] at h2; exact absurd rfl h2
              · rw [if_neg g2]; omega
          have := scan_inr sb r (rd ++ [cls c]) pads hr (fun n hn' => by
            rcases List.mem_append.mp hn' with hn' | hn'
            · exact hrd n hn'
            · rw [List.mem_singleton.mp hn']; exact hc) hp rd' p' h
          exact ⟨this.1, by have := this.2.1; simp only [List.length_append, List.length_cons, List.length_nil] at this ⊢; omega, this.2.2⟩
theorem fin_bad {n : Nat} {p : Int} (h4 : ¬ p > lim n) (h5 : n % 4 = 1 ∨ (n % 4 = 2 ∧ p ≠ 2) ∨ (n % 4 = 3 ∧ p ≠ 1)) (q1 : ((n % 4 : Nat) : Int) ≠ 1) : ((n % 4 : Nat) : Int) ≠ 0 ∧ ((n % 4 : Nat) : Int) + p < 4 := by
  unfold lim at h4
  rcases h5 with h | ⟨h, g⟩ | ⟨h, g⟩
  · rw [h] at q1; exact absurd rfl q1
  · rw [h] at h4 ⊢
    exact ⟨by decide, Int.add_lt_add_left (a := p) (b := 2) (Int.lt_iff_le_and_ne.mpr ⟨Int.not_lt.mp h4, g⟩) 2⟩
  · rw [h] at h4 ⊢
    exact ⟨by decide, Int.add_lt_add_left (a := p) (b := 1) (Int.lt_iff_le_and_ne.mpr ⟨Int.not_lt.mp h4, g⟩) 3⟩
theorem fin_ok {r : Nat} {p : Int} (hr : r < 4) (h0 : 0 ≤ p) (h5 : ¬ (r = 1 ∨ (r = 2 ∧ p ≠ 2) ∨ (r = 3 ∧ p ≠ 1))) : (r : Int) ≠ 1 ∧ ¬ ((r : Int) ≠ 0 ∧ (r : Int) + p < 4) := by
  match r with
  | 0 => exact ⟨by decide, fun h => h.1 rfl⟩
  | 1 => exact absurd (.inl rfl) h5
  | 2 =>
    have e : p = 2 := Decidable.byContradiction fun h => h5 (.inr (.inl ⟨rfl, h⟩))
    subst e; exact ⟨by decide, by decide⟩
  | 3 =>
    have e : p = 1 := Decidable.byContradiction fun h => h5 (.inr (.inr ⟨rfl, h⟩))
    subst e; exact ⟨by decide, by decide⟩
  | r + 4 => exact absurd hr (Nat.not_lt.mpr (Nat.le_add_left 4 r))
theorem due_agree (sb : Bool) (cs : List Int) (hn : ∀ n ∈ cs, 0 ≤ n) : (dueOf sb (cs.map cls) = .no → a2bGo sb cs [] 0 0 0 = none) ∧
    ∀ os, dueOf sb (cs.map cls) = .octets os → a2bGo sb cs [] 0 0 0 = some os ∧ os.length ≤ 3 * ((cs.length + 3) / 4) ∧ ∀ n ∈ os, 0 ≤ n ∧ n < 256 := by
  have hA := agree sb cs [] 0 hn (by decide)
  have hS := scan_inr sb cs [] 0 hn (fun _ h => nomatch h) (by decide)
  rw [show (stOf []).1 = [] from rfl, show (stOf []).2.1 = 0 from rfl, show (stOf []).2.2 = 0 from rfl] at hA
  unfold dueOf
  generalize scan sb (cs.map cls) [] 0 = S at hA hS
  match S with
  | .inl .no => exact ⟨fun _ => hA, fun os h => by cases h⟩
  | .inl .skip => exact ⟨fun h => (by cases h), fun os h => (by cases h)⟩
  | .inl (.octets _) => exact hA.elim
  | .inr (rd, pads) =>
    obtain ⟨h1, h2, h3⟩ := hS rd pads rfl
    have hq := stOf_q rd
    have hlim : ([0, 3, 2, 1] : List Int).getD (rd.length % 4) 0 = lim rd.length := rfl
    dsimp only
    rw [hlim]
    by_cases h4 : pads > lim rd.length
    · rw [if_pos h4]; exact ⟨fun h => (by cases h), fun os h => (by cases h)⟩
    · rw [if_neg h4]
      have e : a2bGo sb cs [] 0 0 0 = finOf (stOf rd) pads := hA (by omega)
      rw [e]
      unfold finOf
      by_cases h5 : rd.length % 4 = 1 ∨ (rd.length % 4 = 2 ∧ pads ≠ 2) ∨ (rd.length % 4 = 3 ∧ pads ≠ 1)
      · rw [if_pos h5]
        refine ⟨fun _ => ?_, fun os h => (by cases h)⟩
        by_cases q1 : (stOf rd).2.1 = 1
        · rw [if_pos q1]
        · rw [if_neg q1, if_pos]
          rw [hq] at q1 ⊢; exact fin_bad h4 h5 q1
      · rw [if_neg h5]
        refine ⟨fun h => (by cases h), fun os h => ?_⟩
        have eo : octs rd ((rd.length + 3) / 4) = os := by injection h
        have h6 := fin_ok (Nat.mod_lt _ (by decide)) h3 h5
        rw [← hq] at h6
        rw [if_neg h6.1, if_neg h6.2]
        refine ⟨?_, ?_, ?_⟩
        · rw [← eo, octs_oct4 rd h1]
          have := (st_oct rd []).1
          rw [List.nil_append] at this
          exact congrArg some this
        · rw [← eo]
          refine Nat.le_trans (octs_len _ _) (Nat.mul_le_mul_left _ (Nat.div_le_div_right ?_))
          simpa using h2
        · rw [← eo]; exact octs_rng h1 _
/-! the plain law: what is written; the altchars -/
noncomputable def wenc (S : List Int) : List Int → List Int
  | [] => []
  | [a] => [S.getD (a / 4).toNat 0, S.getD (a % 4 * 16).toNat 0, 61, 61]
  | [a, b] => [S.getD (a / 4).toNat 0, S.getD (a % 4 * 16 + b / 16).toNat 0, S.getD (b % 16 * 4).toNat 0, 61]
  | a :: b :: c :: r => [S.getD (a / 4).toNat 0, S.getD (a % 4 * 16 + b / 16).toNat 0, S.getD (b % 16 * 4 + c / 64).toNat 0, S.getD (c % 64).toNat 0] ++ wenc S r
theorem wgrp_shift (S : List Int) (a b c : Int) (r : List Int) (k : Nat) : wgrp S (a :: b :: c :: r) (k + 3) = wgrp S r k := by
  unfold wgrp
  have e : num3 (a :: b :: c :: r) (k + 3) = num3 r k := rfl
  have hl : (a :: b :: c :: r).length - (k + 3) = r.length - k := Nat.add_sub_add_right r.length 3 k
  rw [e, hl]
theorem wtext_shift (S : List Int) (a b c : Int) (r : List Int) : ∀ i, wtext S (a :: b :: c :: r) (i + 1) = wgrp S (a :: b :: c :: r) 0 ++ wtext S r i
  | 0 => by simp [wtext]
  | i + 1 => by
    rw [wtext, wtext_shift S a b c r i, wtext, show 3 * (i + 1) = 3 * i + 3 from rfl, wgrp_shift, List.append_assoc]
section
variable {a b c : Int}
theorem four1 (hb : 0 ≤ b ∧ b < 256) (hc : 0 ≤ c ∧ c < 256) : ((a * 256 + b) * 256 + c) / 262144 = a / 4 := by
  rw [show (262144 : Int) = 256 * (256 * 4) from rfl, ← Int.ediv_ediv_of_nonneg (by decide), dq (by decide) hc.1 hc.2, ← Int.ediv_ediv_of_nonneg (by decide), dq (by decide) hb.1 hb.2]
theorem four2 (hb : 0 ≤ b ∧ b < 256) (hc : 0 ≤ c ∧ c < 256) : ((a * 256 + b) * 256 + c) / 4096 % 64 = a % 4 * 16 + b / 16 := by
  rw [show (4096 : Int) = 256 * 16 from rfl, ← Int.ediv_ediv_of_nonneg (by decide), dq (by decide) hc.1 hc.2, mi6 hb]
theorem four_of {a b c : Int} (_ha : 0 ≤ a ∧ a < 256) (hb : 0 ≤ b ∧ b < 256) (hc : 0 ≤ c ∧ c < 256) :
    ((a * 256 + b) * 256 + c).fdiv 262144 = a / 4 ∧ (((a * 256 + b) * 256 + c).fdiv 4096).fmod 64 = a % 4 * 16 + b / 16 ∧ (((a * 256 + b) * 256 + c).fdiv 64).fmod 64 = b % 16 * 4 + c / 64 ∧ ((a * 256 + b) * 256 + c).fmod 64 = c % 64 := by
  rw [Int.fdiv_eq_ediv_of_nonneg _ (by decide), Int.fdiv_eq_ediv_of_nonneg _ (by decide), Int.fdiv_eq_ediv_of_nonneg _ (by decide), Int.fmod_eq_emod_of_nonneg _ (by decide), Int.fmod_eq_emod_of_nonneg _ (by decide), Int.fmod_eq_emod_of_nonneg _ (by decide)]
  exact ⟨four1 hb hc, four2 hb hc, by rw [mi4 hc, lo4], lo6 _ _⟩
end
theorem wgrp_first (S : List Int) {a b c : Int} {r : List Int} (ha : 0 ≤ a ∧ a < 256) (hb : 0 ≤ b ∧ b < 256) (hc : 0 ≤ c ∧ c < 256) :
    wgrp S (a :: b :: c :: r) 0 = [S.getD (a / 4).toNat 0, S.getD (a % 4 * 16 + b / 16).toNat 0, S.getD (b % 16 * 4 + c / 64).toNat 0, S.getD (c % 64).toNat 0] := by
  obtain ⟨e1, e2, e3, e4⟩ := four_of ha hb hc
  have e : num3 (a :: b :: c :: r) 0 = (a * 256 + b) * 256 + c := rfl
  unfold wgrp
  have hl : min 3 ((a :: b :: c :: r).length - 0) = 3 := Nat.min_eq_left (Nat.le_add_left 3 r.length)
  rw [e, hl, e1, e2, e3, e4]
  rfl
theorem wtext_wenc (S : List Int) : ∀ os : List Int, (∀ n ∈ os, 0 ≤ n ∧ n < 256) → wtext S os ((os.length + 2) / 3) = wenc S os
  | [], _ => rfl
  | [a], h => by
    have ha := h a (by simp)
    have e : ([a].length + 2) / 3 = 1 := by simp
    obtain ⟨e1, e2, _, _⟩ := four_of (b := 0) (c := 0) ha (by decide) (by decide)
    rw [e]
    show [S.getD (((a * 256 + 0) * 256 + 0 : Int).fdiv 262144).toNat 0, S.getD ((((a * 256 + 0) * 256 + 0 : Int).fdiv 4096).fmod 64).toNat 0, 61, 61] = _
    rw [e1, e2, show a % 4 * 16 + 0 / 16 = a % 4 * 16 by omega]; rfl
  | [a, b], h => by
    have ha := h a (by simp)
    have hb := h b (by simp)
    have e : ([a, b].length + 2) / 3 = 1 := by simp
    obtain ⟨e1, e2, e3, _⟩ := four_of (c := 0) ha hb (by decide)
    rw [e]
    show [S.getD (((a * 256 + b) * 256 + 0 : Int).fdiv 262144).toNat 0, S.getD ((((a * 256 + b) * 256 + 0 : Int).fdiv 4096).fmod 64).toNat 0, S.getD ((((a * 256 + b) * 256 + 0 : Int).fdiv 64).fmod 64).toNat 0, 61] = _
    rw [e1, e2, e3, show b % 16 * 4 + 0 / 64 = b % 16 * 4 by omega]; rfl
  | a :: b :: c :: r, h => by
    have e : ((a :: b :: c :: r).length + 2) / 3 = (r.length + 2) / 3 + 1 := by show (r.length + 3 + 2) / 3 = _; rw [Nat.add_right_comm, Nat.add_div_right _ (by decide)]
    rw [e, wtext_shift, wgrp_first S (h a (by simp)) (h b (by simp)) (h c (by simp)), wtext_wenc S r fun n hn => h n (by simp [hn])]
    rfl
theorem sg_fin : ∀ k : Fin 62, sg (k.val : Int) ≠ 43 ∧ sg (k.val : Int) ≠ 47 := by decide +kernel
theorem tr_sg (x y k : Int) (h0 : 0 ≤ k) (h1 : k < 64) : trI 43 47 x y (sg k) = (signs.take 62 ++ [x, y]).getD k.toNat 0 := by
  by_cases h62 : k = 62
  · subst h62; rfl
  · by_cases h63 : k = 63
    · subst h63; rfl
    · have hf := sg_fin ⟨k.toNat, by omega⟩
      have e : ((k.toNat : Nat) : Int) = k := by omega
      simp only [e] at hf
      unfold trI
      rw [if_neg hf.2, if_neg hf.1]
      show signs.getD k.toNat 0 = _
      have hl : k.toNat < (signs.take 62).length := by rw [List.length_take, show signs.length = 64 from rfl]; omega
      rw [List.getD_eq_getElem?_getD, List.getD_eq_getElem?_getD, List.getElem?_append_left hl, List.getElem?_take, if_pos (by omega)]
theorem enc_wenc (x y : Int) : ∀ os : List Int, (∀ n ∈ os, 0 ≤ n ∧ n < 256) → (enc os).map (trI 43 47 x y) = wenc (signs.take 62 ++ [x, y]) os
  | [], _ => rfl
  | [a], h => by
    have ha := h a (by simp)
    simp only [enc, wenc, List.map_cons, List.map_nil]
    rw [tr_sg _ _ _ (by omega) (by omega), tr_sg _ _ _ (by omega) (by omega)]; rfl
  | [a, b], h => by
    have ha := h a (by simp)
    have hb := h b (by simp)
    simp only [enc, wenc, List.map_cons, List.map_nil]
    rw [tr_sg _ _ _ (by omega) (by omega), tr_sg _ _ _ (by omega) (by omega), tr_sg _ _ _ (by omega) (by omega)]; rfl
  | a :: b :: c :: r, h => by
    have ha := h a (by simp)
    have hb := h b (by simp)
    have hc := h c (by simp)
    simp only [enc, wenc, List.map_append, List.map_cons, List.map_nil]
    rw [tr_sg _ _ _ (by omega) (by omega), tr_sg _ _ _ (by omega) (by omega), tr_sg _ _ _ (by omega) (by omega), tr_sg _ _ _ (by omega) (by omega), enc_wenc x y r fun n hn => h n (by simp [hn])]
theorem enc_none' : ∀ os : List Int, enc os = wenc signs os
  | [] => rfl
  | [_] => rfl
  | [_, _] => rfl
  | a :: b :: c :: r => by simp only [enc, wenc, enc_none' r]; rfl
theorem written_eq (pr : Option (Int × Int)) (os : List Int) (h : ∀ n ∈ os, 0 ≤ n ∧ n < 256) : trE pr (b2aGo os [] 0 0) = wtext (signsOf pr) os ((os.length + 2) / 3) := by
  rw [b2a_enc os [] 0 h, List.nil_append, wtext_wenc _ os h]
  cases pr with
  | none => exact enc_none' os
  | some p => obtain ⟨x, y⟩ := p; exact enc_wenc x y os h
theorem tabN_eq : tabN = (List.range 256).map (fun n : Nat => cls (n : Int)) := by decide +kernel
theorem tabN_cls {c : Int} (h0 : 0 ≤ c) (h1 : c < 256) : tabN.getD c.toNat 0 = cls c := by
  have h : c.toNat < 256 := (Int.toNat_lt h0).mpr h1
  rw [tabN_eq, List.getD_eq_getElem?_getD, List.getElem?_map, List.getElem?_range h]
  show cls (c.toNat : Int) = cls c
  rw [Int.toNat_of_nonneg h0]
theorem tab_cls {pr : Option (Int × Int)} (hpr : ∀ a b, pr = some (a, b) → (0 ≤ a ∧ a < 256) ∧ 0 ≤ b ∧ b < 256) {c : Int} (h0 : 0 ≤ c) (h1 : c < 256) :
    (tabOf pr).getD c.toNat 0 = cls (match pr with | none => c | some (a, b) => trI a b 43 47 c) := by
  cases pr with
  | none => exact tabN_cls h0 h1
  | some p =>
    obtain ⟨a, b⟩ := p
    obtain ⟨ha, hb⟩ := hpr a b rfl
    have hl : tabN.length = 256 := by decide +kernel
    show ((tabN.set a.toNat 62).set b.toNat 63).getD c.toNat 0 = cls (trI a b 43 47 c)
    unfold trI
    rw [List.getD_eq_getElem?_getD]
    by_cases hcb : c = b
    · subst hcb
      rw [if_pos rfl, List.getElem?_set_self (by rw [List.length_set, hl]; omega)]
      decide +kernel
    · rw [if_neg hcb, List.getElem?_set_ne (by omega)]
      by_cases hca : c = a
      · subst hca
        rw [if_pos rfl, List.getElem?_set_self (by rw [hl]; omega)]
        decide +kernel
      · rw [if_neg hca, List.getElem?_set_ne (by omega), ← List.getD_eq_getElem?_getD]
        exact tabN_cls h0 h1
theorem plcs_cls {pr : Option (Int × Int)} (hpr : ∀ a b, pr = some (a, b) → (0 ≤ a ∧ a < 256) ∧ 0 ≤ b ∧ b < 256) {ks : List Int} (hk : ∀ n ∈ ks, 0 ≤ n ∧ n < 256) : plcs pr ks = (trD pr ks).map cls := by
  unfold plcs
  cases pr with
  | none => exact List.map_congr_left fun c hc => tab_cls hpr (hk c hc).1 (hk c hc).2
  | some p =>
    obtain ⟨a, b⟩ := p
    show _ = (ks.map (trI a b 43 47)).map cls
    rw [List.map_map]
    exact List.map_congr_left fun c hc => tab_cls hpr (hk c hc).1 (hk c hc).2
theorem trD_nn {pr : Option (Int × Int)} {ks : List Int} (hk : ∀ n ∈ ks, 0 ≤ n ∧ n < 256) : ∀ n ∈ trD pr ks, 0 ≤ n := by
  intro n hn
  cases pr with
  | none => exact (hk n hn).1
  | some p =>
    obtain ⟨x, hx, rfl⟩ := List.mem_map.mp hn
    unfold trI
    split
    · decide
    · split
      · decide
      · exact (hk x hx).1
theorem trD_len (pr : Option (Int × Int)) (ks : List Int) : (trD pr ks).length = ks.length := by
  cases pr with
  | none => rfl
  | some p => exact List.length_map _
theorem plain_no {pr : Option (Int × Int)} {b : Array UInt8} {sb : Bool} (hpr : ∀ a b, pr = some (a, b) → (0 ≤ a ∧ a < 256) ∧ 0 ≤ b ∧ b < 256) (_hs : b.size ≤ 60) (h : dueOf sb (plcs pr (KBw.bInts b)) = .no) :
    a2bGo sb (trD pr (KBw.bInts b)) [] 0 0 0 = none := by
  have hk : ∀ n ∈ KBw.bInts b, 0 ≤ n ∧ n < 256 := fun n hn => KBw.ints_in hn
  rw [plcs_cls hpr hk] at h
  exact (due_agree sb _ (trD_nn hk)).1 h
theorem plain_oct {pr : Option (Int × Int)} {b : Array UInt8} {sb : Bool} (hpr : ∀ a b, pr = some (a, b) → (0 ≤ a ∧ a < 256) ∧ 0 ≤ b ∧ b < 256) (hs : b.size ≤ 60) (os : List Int) (h : dueOf sb (plcs pr (KBw.bInts b)) = .octets os) :
    a2bGo sb (trD pr (KBw.bInts b)) [] 0 0 0 = some os ∧ os.length ≤ 60 ∧ trE pr (b2aGo os [] 0 0) = wtext (signsOf pr) os ((os.length + 2) / 3) := by
  have hk : ∀ n ∈ KBw.bInts b, 0 ≤ n ∧ n < 256 := fun n hn => KBw.ints_in hn
  rw [plcs_cls hpr hk] at h
  obtain ⟨h1, h2, h3⟩ := (due_agree sb _ (trD_nn hk)).2 os h
  rw [trD_len, KBw.ints_length] at h2
  exact ⟨h1, by omega, written_eq pr os h3⟩
theorem nums_rng (l : List Int) : ∀ n ∈ List.map (fun k' => Int.fmod k' 100000) l, 0 ≤ n ∧ n < 100000 := by
  intro n hn
  obtain ⟨x, _, rfl⟩ := List.mem_map.mp hn
  exact ⟨fmod_lo _ (by decide), fmod_hi _ (by decide)⟩
theorem nums_len (l : List Int) : (List.map (fun k' => Int.fmod k' 100000) (List.take 10 l)).length ≤ 10 := by
  rw [List.length_map, List.length_take]; omega
theorem fmod_256 {x : Int} : 0 ≤ x.fmod 256 ∧ x.fmod 256 < 256 := ⟨fmod_lo _ (by decide), fmod_hi _ (by decide)⟩
theorem top_law : PySem.Challenge.rw_qh0109_01.Holds := hd (by
  k_with_none
  w_top off
  k_with "mine sides" => ((case kA => exact rfl); (case kF => exact rfl); (case kK => assumption); (case k6 => k_is); (case k7 => k_is); (case k8 => ktr_room); (case k9 => first | exact BindsTo.of_eq rfl | exact binds_K (by k_in) rfl (by k_is) rfl rfl rfl); (case c5 => decide); (case kB => exact locs rfl); (case c2 => exact rfl); (case c3 => exact rfl); (case c4 => exact rfl); k_whole; intro L' h' F' N' B' X' T'; (try dsimp only); (try k_lift B'); (try k_fold))
  k_with "call type:type" => ((with_reducible show wpAny _ _ (call _ [Value.bytes _ _]) _ _ _); refine call_type_of (Tx := "bytes") rfl (by decide +kernel) ?_)
  k_with "getMethod bytes" => (k_here; (with_reducible refine getm_tr ?_))
  k_with "getMethod type:bytes" => (k_here; k_dflt (refine' getm_mt ?k1 ?k2 ?k3 ?_; (case k1 => k_asm); (case k2 => k_asm); (case k3 => k_is); k_whole))
  k_with "call builtin:bytes.maketrans" => (k_here; k_dflt (refine' call_mt ?k1 ?_; (case k1 => first | rfl | (simp_all; done)); k_whole))
  k_with "call builtin:bytes.translate" => (k_here; k_dflt (refine' call_tr ?k1 ?k2 ?_; (case k1 => first | exact trTab_size _ _ | (simp_all; done)); (case k2 => first | omega | (simp_all; omega)); k_whole); intro t' k')
  k_with "call type:list" => (k_here; (with_reducible show wpAny _ _ (call (Value.type "list") [Value.bytes _ _]) _ _ _); k_dflt (refine' list_bytes_K ?k0 ?k1 ?k2 ?k3 ?_; (case k0 => rfl); (case k1 => k_asm); (case k2 => k_asm); (case k3 => first | decide | (simp_all; omega)); k_whole); intro l' h' tk' vs' c' F' N' l1 iX'; (try k_lt l1); (try k_sweep))
  k_with "mine useV" => ((case k1 => k_asm); (case k2 => k_asm); (case k3 => k_asm); (case k4 => k_asm); (case k5 => k_asm); (case k6 => first | exact rfl | assumption); (case k7 => first | exact True.intro | assumption); (case k8 => exact ⟨by ktr_room, by ktr_units⟩); k_whole)
  k_with "exec For Name Call cons nil" => (k_here; kst_src; (rename Fr _ _ _ _ => lF'); (with_unfolding_all refine' For_invVF lF' ?k1 ?k2 ?_; (case k1 => exact rfl); (case k2 => exact rfl); k_whole))
  k_with "exec For Name Name cons nil" => (k_here; kst_src; (rename Fr _ _ _ _ => lF'); (with_unfolding_all refine' For_invVF lF' ?k1 ?k2 ?_; (case k1 => exact rfl); (case k2 => exact rfl); k_whole))
  k_with "exec For Name Name cons nil" => (k_here; kstb_has; kstb_name; (rename Fr _ _ _ _ => lF'); (with_unfolding_all refine' For_invVF lF' ?k1 ?k2 ?_; (case k1 => exact rfl); (case k2 => exact rfl); k_whole))
  k_with "subscriptTail" => (k_here; (with_reducible show wpAny _ _ (subscriptTail _ _ (Value.bytes _ _) (Value.int _ _)) _ _ _); k_dflt (refine' KBw.item_K ?k1 ?k2 ?k3 ?k4 ?_; (case k1 => with_reducible assumption); (case k2 => simp only [List.length_cons, List.length_nil]; omega); (case k3 => omega); (case k4 => simp only [List.length_cons, List.length_nil]; omega); k_whole); intro _ _ kbaLo kbaHi)
  k_with "mine go" => repeat' (first | (k_unfold; (try dsimp only)) | walk1 | (dsimp only; walk1) | (leave1; (try dsimp only)) | fail "no step")
  k_with "storeName" => (k_here; (dsimp only); walk_at "storeName")
  k_with "call ref" => (k_here; (with_reducible show wpAny _ _ (call (Value.ref 109) _ _) _ _ _); k_dflt (refine' useL (signs_spec _) ?k1 ?k2 ?k3 ?k4 ?k5 ?k6 ?k7 ?k8 ?_; walk_at "mine useV"); intro l' vs' c' h' tk' F' N' ne' iX'; (try simp only [TLg.AllNe, and_true] at ne'); (try k_sweep))
  k_with "call ref" => (k_here; (with_reducible show wpAny _ _ (call (Value.ref 70) [Value.int _ _] _) _ _ _); k_dflt (refine' useV (val_spec _ _ _) ?k1 ?k2 ?k3 ?k4 ?k5 ?k6 ?k7 ?k8 ?_; walk_at "mine useV"); intro v' h' tk' F' N' hv'; obtain ⟨t', e'⟩ := hv'; subst e'; (try k_sweep))
  k_with "call ref" => (k_here; (with_reducible show wpAny _ _ (call (Value.ref 63) [Value.bool _] _) _ _ _); k_dflt (refine' useV (truth_spec _ _) ?k1 ?k2 ?k3 ?k4 ?k5 ?k6 ?k7 ?k8 ?_; walk_at "mine useV"); intro v' h' tk' F' N' hv'; subst hv'; (try k_sweep))
  k_with "call ref" => (k_here; (with_reducible show wpAny _ _ (call (Value.ref 56) [Value.bytes _ _] _) _ _ _); k_dflt (refine' useV (buffer_spec _ _ _) ?k1 ?k2 ?k3 ?k4 ?k5 ?k6 ?k7 ?k8 ?_; walk_at "mine useV"); intro v' h' tk' F' N' hv'; subst hv'; (try k_sweep))
  k_with "call ref" => (k_here; (with_reducible show wpAny _ _ (call (Value.ref 49) [Value.bytes _ _] _) _ _ _); k_dflt (refine' useV (ascii_spec _ _ _) ?k1 ?k2 ?k3 ?k4 ?k5 ?k6 ?k7 ?k8 ?_; walk_at "mine useV"); intro v' h' tk' F' N' hv'; subst hv'; (try k_sweep))
  k_with "call ref" => (k_here; (with_reducible show wpAny _ _ (call (Value.ref 29) [Value.bytes _ _] _) _ _ _); k_dflt (refine' useV (from_spec _ _ _) ?k1 ?k2 ?k3 ?k4 ?k5 ?k6 ?k7 ?k8 ?_; walk_at "mine useV"); intro v' h' tk' F' N' hv'; subst hv'; (try k_sweep))
  k_with "call builtin:len" => (k_here; (with_reducible show wpAny _ _ (call (Value.builtin "len") [Value.bytes _ _]) _ _ _); k_dflt (refine len_two (by assumption) ?_))
  k_with "call ref" => (k_here; (with_reducible show wpAny _ _ (call (Value.ref 86) [Value.bytes _ _] _) _ _ _); k_dflt (refine' useV (b2a_spec _ _ _ _ rfl ?hn) ?k1 ?k2 ?k3 ?k4 ?k5 ?k6 ?k7 ?k8 ?_; (case hn => (rw [KBw.ints_length]; omega)); walk_at "mine useV"); intro v' h' tk' F' N' hv'; obtain ⟨c', t', e', hc', hs'⟩ := hv'; subst e'; (try k_sweep))
  k_with "call ref" => (k_here; (with_reducible show wpAny _ _ (call (Value.ref 78) [Value.bytes _ _] _) _ _ _); k_dflt (refine' useE (a2b_spec _ _ _ _ _ rfl ?hn) ?k1 ?k2 ?k3 ?k4 ?k5 ?k6 ?k8 ?_ ?_; (case hn => (rw [KBw.ints_length]; (try rw [tr_size]); omega)); (case k1 => k_asm); (case k2 => k_asm); (case k3 => k_asm); (case k4 => k_asm); (case k5 => k_asm); (case k6 => first | exact rfl | assumption); (case k8 => exact ⟨by ktr_room, by ktr_units⟩); k_whole); intro v' h' tk' F' N' hv'; (try k_sweep))
  k_with "leaving ref" => k_dflt (refine' leave_onS ?k1 ?k2 ?k3 ?k4 ?_; (case k3 => assumption); (case k2 => assumption); (case k1 => assumption); (case k4 => assumption); k_whole; intro h' R' RK' U')
  k_with "PostT" => (dsimp only [PostT])
  k_with "EndT" => k_dflt ((rename News _ _ _ _ => nE'); (have kMk := kstMark); (refine' EndT.intro (by assumption) nE' ?hy ?hm ?h1 ?h2 ?h3 ?h4 ?hi ?hp ?hr); (case hy => rfl); (case hm => k_memK); (case h1 => k_allIn); (case h2 => (intro p hp; k_ownIn)); (case h3 => k_all); (case h4 => k_all); (case hi => assumption); (case hp => k_extra "turn"); (case hr => (intro z h1 h2 h3; (have h4 := h3); (simp only [List.contains_cons, List.contains_nil, Bool.or_false, Bool.or_eq_false_iff, beq_eq_false_iff_ne, ne_eq] at h3); (simp [h1, h2, h3, h4]))))
  k_with "UnrEnd" => k_dflt ((rename News _ _ _ _ => nE'); (have kMk := kstMark); (refine' UnrEnd.intro (by assumption) nE' _ (fun p hp => hp) ?off ?_); (case off => k_all); clear nE' kMk)
  k_with "call ref" => (k_here; (with_reducible show wpAny _ _ (call (Value.ref 102) [Value.bytes _ _, Value.none, Value.bool _] _) _ _ _); k_dflt (refine' useE (dec_none _ _ _ ?hn _) ?k1 ?k2 ?k3 ?k4 ?k5 ?k6 ?k8 ?_ ?_; (case hn => omega); walk_at "mine useE"); intro v' h' tk' F' N' hv'; k_dflt (obtain ⟨os9, b9, t9, e9, e8, hb9⟩ := hv'); subst e8; (try k_sweep))
  k_with "call ref" => (k_here; (with_reducible show wpAny _ _ (call (Value.ref 102) [Value.bytes _ _, Value.bytes _ _, Value.bool _] _) _ _ _); k_dflt (refine' useE (dec_bytes _ _ _ ?hn _ _ _ _ _ ?hb ?hp2) ?k1 ?k2 ?k3 ?k4 ?k5 ?k6 ?k8 ?_ ?_; (case hb => assumption); (case hn => omega); (case hp2 => assumption); walk_at "mine useE"); intro v' h' tk' F' N' hv'; k_dflt (obtain ⟨os9, b9, t9, e9, e8, hb9⟩ := hv'); subst e8; (try k_sweep))
  k_with "mine useE" => ((case k1 => k_asm); (case k2 => k_asm); (case k3 => k_asm); (case k4 => k_asm); (case k5 => k_asm); (case k6 => first | exact rfl | assumption); (case k8 => exact ⟨by ktr_room, by ktr_units⟩); k_whole)
  k_with "call ref" => (k_here; (with_reducible show wpAny _ _ (call (Value.ref 123) [Value.ref _, Value.bool _] _) _ _ _); k_dflt (refine' useV (due_spec _ _ _ _ _ ?hi ?hr ?hn) ?k1 ?k2 ?k3 ?k4 ?k5 ?k6 ?k7 ?k8 ?_; (case hi => assumption); (case hr => assumption); (case hn => omega); (case k7 => exact News.isList (by k_asm) (by k_memK)); walk_at "mine useX"); intro v' h' tk' F' N' hv'; k_dflt (rcases due_cases hv' with ⟨e9, e8⟩ | ⟨e9, e8⟩ | ⟨os9, b9, t9, e9, e8, hb9⟩) <;> subst e8 <;> (try k_sweep))
  k_with "call ref" => (k_here; (with_reducible show wpAny _ _ (call (Value.ref 135) [Value.bytes _ _, _, Value.bool _] _) _ _ _); k_dflt (refine' useT CT ?k1 ?k2 ?k3 ?k4 ?k5 ?k6 ?k8 ?_; walk_at "mine useX"); intro v' h' tk' F' N' hv'; k_dflt (first | ((have e8 := hv'.1 (hs1 e9)); subst e8) | ((obtain ⟨b8, t8, e8, hb8⟩ := hv'.2 _ (hs2 _ e9).1); subst e8; (have e7 : b8 = b9 := bInts_inj (hb8.trans hb9.symm)); subst e7)); (try k_sweep))
  k_with "call ref" => (k_here; (with_reducible show wpAny _ _ (call (Value.ref 94) [Value.bytes _ _, _] _) _ _ _); k_dflt (refine' useV (CE _ _ ?hn) ?k1 ?k2 ?k3 ?k4 ?k5 ?k6 ?k7 ?k8 ?_; (case hn => (rw [← KBw.ints_length, hb9]; exact (hs2 _ e9).2.1)); (case k7 => exact True.intro); walk_at "mine useX"); intro v' h' tk' F' N' hv'; k_dflt (obtain ⟨c8, t8, e8, hc8⟩ := hv'); subst e8; (try k_sweep))
  k_with "call ref" => (k_here; (with_reducible show wpAny _ _ (call (Value.ref 128) [Value.bytes _ _, _] _) _ _ _); k_dflt (refine' useV (CW _ _ _ hb9 (hs2 _ e9).2.1) ?k1 ?k2 ?k3 ?k4 ?k5 ?k6 ?k7 ?k8 ?_; (case k7 => exact True.intro); walk_at "mine useX"); intro v' h' tk' F' N' hv'; k_dflt (obtain ⟨c7, t7, e8, hc7⟩ := hv'); subst e8; (have e7 : c7 = c8 := bInts_inj (by rw [hc7, hc8, hb9]; exact (hs2 _ e9).2.2.symm)); subst e7; (try k_sweep))
  k_with "mine useX" => ((case k1 => k_asm); (case k2 => k_asm); (case k3 => k_asm); (case k4 => k_asm); (case k5 => k_asm); (case k6 => first | exact rfl | assumption); (case k8 => first | exact ⟨by ktr_room, by ktr_units⟩ | exact ⟨by decide, by decide⟩); k_whole)
  k_with "call ref" => (k_here; (with_reducible show wpAny _ _ (call (Value.ref 116) [_] _) _ _ _); k_dflt (refine' useL CTab ?k1 ?k2 ?k3 ?k4 ?k5 ?k6 ?k7 ?k8 ?_; (case k7 => exact True.intro); walk_at "mine useX"); intro l' vs' c' h' tk' F' N' ne' iX'; (try simp only [TLg.AllNe, and_true] at ne'); (try k_sweep))
  k_with "call ref" => (k_here; (with_reducible show wpAny _ _ (call (Value.ref 142) [Value.int _ _, _] _) _ _ _); k_dflt (refine' useV (CSign _ _ ?hx0 ?hx1) ?k1 ?k2 ?k3 ?k4 ?k5 ?k6 ?k7 ?k8 ?_; (case hx0 => exact (hns _ (by assumption)).1); (case hx1 => exact (hns _ (by assumption)).2); (case k7 => exact True.intro); walk_at "mine useX"); intro v' h' tk' F' N' hv'; k_dflt (obtain ⟨t8, e8⟩ := hv'); subst e8; (try k_sweep))
  k_with "execs cons Assign cons" => k_dflt ((with_reducible show wpAny _ _ (execs (Stmt.Assign [Expr.Name (Str.ofString "table") _] _ _ :: _) _) _ _ _); (refine' law_rest ?zzqho ?zzqhtl ?zzqB ?zzqF ?zzqX ?zzqT ?zzqh1 ?zzqN ?zzqhN ?zzqhN2 ?zzqhd9 ?zzqhN3 ?zzqhd8 ?zzqhl1 ?zzqhi ?zzqhns ?zzqhlen ?zzqK plain_no plain_oct ?_); (case zzqho => k_is); (case zzqhtl => rfl); (case zzqB => assumption); (case zzqF => k_asm); (case zzqX => assumption); (case zzqT => assumption); (case zzqh1 => rfl); (case zzqN => k_asm); (case zzqhN2 => k_memK); (case zzqhd9 => assumption); (case zzqhN3 => k_memK); (case zzqhd8 => assumption); (case zzqhN => k_memK); (case zzqhl1 => k_ne); (case zzqhi => assumption); (case zzqhns => exact nums_rng _); (case zzqhlen => exact nums_len _); (case zzqK => first | exact pack_none _ | exact pack_bytes _ _ (pair_ints (by assumption) (by assumption)) fmod_256 fmod_256 | exact pack_bytes _ _ (p0 := 45) (p1 := 95) (by rfl) (by decide) (by decide) | exact pack_bytes _ _ (p0 := 47) (p1 := 43) (by rfl) (by decide) (by decide)); k_whole; (intro h' tk' m' F'))
  k_go0
  all_goals (try k_fold)
  walk_at "mine go"
  all_goals (k_end; wrow_close))
end Mine
theorem PySem.Challenge.cw_qh0109_01_holds : PySem.Challenge.rw_qh0109_01.Holds := by
  exact Mine.top_law
