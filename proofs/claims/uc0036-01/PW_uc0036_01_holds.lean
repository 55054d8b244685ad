import PyProof.Rows.All
import Wide.All
import OpenK.AllK
import Wide.FinOn
import PySem.Challenge.RW_uc0036_01
set_option Elab.async false
set_option maxRecDepth 100000
section
open PySem PySem.W PyProof.Rows
namespace Mine
set_option maxRecDepth 100000 in
set_option maxHeartbeats 8000000 in
open_top hd for PySem.Challenge.rw_uc0036_01
end Mine
end
section
open PySem PySem.W PyProof.Rows PySem.Calls
set_option maxRecDepth 100000
namespace Mine
/-- a thing at its place in a list -/
theorem at_ {α : Type} {l : List α} {a : α} (k : Nat) (h : l[k]? = some a) : a ∈ l := List.mem_of_getElem? h
theorem all_n {α : Type} {P : α → Prop} : ∀ x ∈ ([] : List α), P x := fun _ h => nomatch h
theorem all_c {α : Type} {P : α → Prop} {a : α} {l : List α} (h : P a) (t : ∀ x ∈ l, P x) : ∀ x ∈ a :: l, P x := List.forall_mem_cons.mpr ⟨h, t⟩
/-- what is left as it was: all but the places of S -/
noncomputable def Ext (S : List Addr) (h h' : Heap) : Prop := ∀ b o, h.get? b = some o → b ∉ S → h'.get? b = some o
theorem Ext.refl (S : List Addr) (h : Heap) : Ext S h h := fun _ _ e _ => e
theorem Ext.trans {S : List Addr} {h₁ h₂ h₃ : Heap} (x : Ext S h₁ h₂) (y : Ext S h₂ h₃) : Ext S h₁ h₃ := fun b o e n => y b o (x b o e n) n
theorem Ext.mono {S T : List Addr} {h h' : Heap} (x : Ext S h h') (k : ∀ a ∈ S, a ∈ T) : Ext T h h' := fun b o e n => x b o e fun q => n (k _ q)
theorem Ext.m0 {T : List Addr} {h h' : Heap} (x : Ext [] h h') : Ext T h h' := fun b o e _ => x b o e List.not_mem_nil
theorem Ext.m1 {a : Addr} {T : List Addr} {h h' : Heap} (x : Ext [a] h h') (k : a ∈ T) : Ext T h h' := x.mono (all_c k all_n)
theorem Ext.m2 {a b : Addr} {T : List Addr} {h h' : Heap} (x : Ext [a, b] h h') (k : a ∈ T) (l : b ∈ T) : Ext T h h' := x.mono (all_c k (all_c l all_n))
theorem Ext.mt {a : Addr} {T : List Addr} {h h' : Heap} (x : Ext T h h') : Ext (a :: T) h h' := x.mono fun _ q => .tail _ q
theorem Ext.get {S : List Addr} {h h' : Heap} (x : Ext S h h') {b : Addr} {o : Obj} (e : h.get? b = some o) (n : b ∉ S) : h'.get? b = some o := x b o e n
theorem Ext.keep {h h' : Heap} (x : Ext [] h h') : ∀ b o, h.get? b = some o → h'.get? b = some o := fun b o e => x b o e (by simp)
theorem ext_of_keep {h h' : Heap} (k : ∀ b o, h.get? b = some o → h'.get? b = some o) : Ext [] h h' := fun b o e _ => k b o e
theorem ext_of_fr {h h' : Heap} {S : List Addr} {L : Addr} {m : Str → Option Value} (F : Fr (hideAll h S) L h' m) : Ext S h h' := fun b o e n => F.keep b o (hideAll_get _ e n)
theorem fr_ext {g h h' : Heap} {L : Addr} {m : Str → Option Value} {S : List Addr} (F : Fr g L h m) (x : Ext S h h') (hL : L ∉ S) (hS : ∀ a ∈ S, g.get? a = none) : Fr g L h' m := by
  refine ⟨?_, fun b o e => x b o (F.keep b o e) fun q => ?_, F.above⟩
  · obtain ⟨oL, es, ep, hL', r⟩ := F.ns
    exact ⟨oL, es, ep, x _ _ hL' hL, r⟩
  · rw [hS b q] at e; cases e
theorem fr_ext0 {g h h' : Heap} {L : Addr} {m : Str → Option Value} (F : Fr g L h m) (x : Ext [] h h') : Fr g L h' m := fr_ext F x (by simp) (by simp)
theorem news_ext {g h h' : Heap} {L : Addr} {S : List Addr} {news : List (Addr × Obj)} (N : News g L h news) (x : Ext S h h') (hS : ∀ p ∈ news, p.1 ∉ S) : News g L h' news :=
  fun p hp => ⟨x _ _ (N p hp).1 (hS p hp), (N p hp).2⟩
theorem news_ext0 {g h h' : Heap} {L : Addr} {news : List (Addr × Obj)} (N : News g L h news) (x : Ext [] h h') : News g L h' news := news_ext N x (by simp)
theorem news_cons {g h : Heap} {L a : Addr} {o : Obj} {news : List (Addr × Obj)} (N : News g L h news) (e : h.get? a = some o) (hL : a ≠ L) (hg : g.get? a = none) : News g L h ((a, o) :: news) := by
  intro p hp
  rcases List.mem_cons.mp hp with rfl | hp
  · exact ⟨e, hL, hg⟩
  · exact N p hp
theorem news_new {g h h' : Heap} {L a : Addr} {o : Obj} {m : Str → Option Value} {news : List (Addr × Obj)} (F : Fr g L h m) (N : News g L h' news) (e : h'.get? a = some o) (hn : h.get? a = none) : News g L h' ((a, o) :: news) := by
  refine news_cons N e ?_ ?_
  · rintro rfl
    obtain ⟨oL, es, ep, hL', r⟩ := F.ns
    rw [hL'] at hn; cases hn
  · cases q : g.get? a with
    | none => rfl
    | some o' => rw [F.keep _ _ q] at hn; cases hn
/-- an object of another make lies at another place -/
theorem ne_of_obj {h : Heap} {a b : Addr} {o o' : Obj} (e : h.get? a = some o) (e' : h.get? b = some o') (n : o.cls ≠ o'.cls) : a ≠ b := by
  rintro rfl
  rw [e] at e'; cases e'; exact n rfl
noncomputable abbrev lstO (items : Array Value) (n : Nat) : Obj := { cls := .type "list", data := .seq items n }
noncomputable abbrev tupO (items : Array Value) : Obj := { cls := .type "tuple", data := .seq items }
noncomputable abbrev MM (w : World) : Model := model PySem.Challenge.rw_uc0036_01.prog w
noncomputable abbrev AA (dp un : Nat) (fr : Option (List Env)) (gd : Option (List Code)) : Around := { handled := none, depth := dp, frames := fr, guards := gd, units := un }
theorem fill2 : (∀ w : World, hd.heap_39 w.params = hd.heap_39 w.params) ∧ PySem.Challenge.rw_uc0036_01.foot = 6 := by
  k_fill
  w_top off
  exact ⟨fun _ => rfl, rfl⟩
theorem enter {w : World} {p : Program} {loose : List Str} {mean : ExcName → Option Value} {mg mb : Str → Option Value} {A : Around} {s : Shared} {R : Result → Shared → Prop}
    {name qual : Str} {params : Arguments} {body : List Stmt} {scope : Scope} {dV kV doc pm cdv ct oc : Value} {an od : Option Addr} {osl : Array (Option Value)} {f : Addr} {args : Args} {binds : List (Str × Value)} {D : List (Addr × Obj)}
    (hD : ∀ p ∈ D, s.heap.get? p.1 = some p.2) (X : (hd.heap_39 w.params).In (hideAll s.heap (D.map (·.1)))) (T : Top p loose mean mg mb (hideAll s.heap (D.map (·.1))))
    (ho : (hd.heap_39 w.params).lookup f = some ⟨oc, od, .func (fnOf name qual params body scope dV kV doc pm an cdv ct), osl⟩) (hcd : codeIn (hd.heap_39 w.params) cdv qual = true) (hroom : A.depth < recursionLimit)
    (hbind : BindsTo s (fnOf name qual params body scope dV kV doc pm an cdv ct) args binds) (hloc : ∀ y ∈ binds, scope.names.lookup y.1 = some .local)
    (h : ∀ g L h₁, g = hideAll s.heap (D.map (·.1)) → Fr g L h₁ (fun y => binds.reverse.lookup y) → News g L h₁ D → (hd.heap_39 w.params).In g → Top p loose mean mg mb g →
      wpAny (MM w) (A.deeper (envOf qual scope L f cdv)) (execs body (envOf qual scope L f cdv))
        (fun fl s' => R (.ok (.ret (match fl with | .ret v => v | _ => .none))) s') (fun _ _ => False)
        { s with heap := h₁, toks := s.toks + binds.length })
    (hco : scope.isCoroutine = false) (hgen : scope.isGenerator = false) (hk : scope.kind = .function)
    (hcell : ∀ x ∈ scope.names, x.2 ≠ .cell) : codeAny (MM w) A (.call (.ref f) args) R s := by
  have keep : ∀ b o, (hideAll s.heap (D.map (·.1))).get? b = some o → s.heap.get? b = some o := fun b o e => of_hideAll _ e
  refine codeAny_call_def (fd := fnOf name qual params body scope dV kV doc pm an cdv ct) (body := body) (binds := binds) hroom (keep _ _ (X _ _ ho)) rfl (T.nolimit.keeps keep) (codeRec_of (X.keeps keep) hcd) rfl hbind hcell hloc (fun h₁ hns hk₁ => ?_) hco hgen hk
  refine wpAny_mono (h _ s.heap.objs.size h₁ rfl ⟨hns, fun b o e => hk₁ b o (keep b o e), Nat.le_of_eq (hideAll_size _ _)⟩ (fun p hp => ⟨hk₁ _ _ (hD p hp), Nat.ne_of_lt (Heap.lt_size (hD p hp)), hideAll_none _ (List.mem_map_of_mem hp)⟩) X T) (fun _ _ x => x) fun _ _ x => x.elim
theorem enterC {w : World} {p : Program} {loose : List Str} {mean : ExcName → Option Value} {mg mb : Str → Option Value} {A : Around} {s : Shared} {R : Result → Shared → Prop}
    {name qual : Str} {params : Arguments} {body : List Stmt} {scope : Scope} {dV kV doc pm cdv ct oc : Value} {an od : Option Addr} {osl : Array (Option Value)} {f : Addr} {args : Args} {binds : List (Str × Value)} {D : List (Addr × Obj)}
    (hD : ∀ p ∈ D, s.heap.get? p.1 = some p.2) (X : (hd.heap_39 w.params).In (hideAll s.heap (D.map (·.1)))) (T : Top p loose mean mg mb (hideAll s.heap (D.map (·.1))))
    (ho : (hd.heap_39 w.params).lookup f = some ⟨oc, od, .func (fnOf name qual params body scope dV kV doc pm an cdv ct), osl⟩) (hcd : codeIn (hd.heap_39 w.params) cdv qual = true) (hroom : A.depth < recursionLimit)
    (hbind : BindsTo s (fnOf name qual params body scope dV kV doc pm an cdv ct) args binds) (hkind : (binds.all fun y => scope.names.lookup y.1 == some .local || scope.names.lookup y.1 == some .cell) = true)
    (hnd : ((cellsFrom 0 scope.names []).map (·.1)).Nodup)
    (h : ∀ g L h₁ tk cells, g = hideAll s.heap (D.map (·.1)) → Fr g L h₁ (bindL (envOfC qual scope L f cdv).kindOf binds fun _ => none) → News g L h₁ (cells ++ D) →
      CellsAre (bindC (envOfC qual scope L f cdv).kindOf binds fun _ => none) (cellsFrom (L + 1) scope.names []) cells → (hd.heap_39 w.params).In g → Top p loose mean mg mb g → (∀ p ∈ D, p.1 < L) →
      wpAny (MM w) (A.deeper (envOfC qual scope L f cdv)) (execs body (envOfC qual scope L f cdv))
        (fun fl s' => R (.ok (.ret (match fl with | .ret v => v | _ => .none))) s') (fun _ _ => False)
        { s with heap := h₁, toks := tk })
    (hco : scope.isCoroutine = false) (hgen : scope.isGenerator = false) (hk : scope.kind = .function) : codeAny (MM w) A (.call (.ref f) args) R s := by
  have keep : ∀ b o, (hideAll s.heap (D.map (·.1))).get? b = some o → s.heap.get? b = some o := fun b o e => of_hideAll _ e
  refine codeAny_call_function hroom (keep _ _ (X _ _ ho)) rfl hco hgen rfl (codeRec_of (X.keeps keep) hcd) (hbind _ _ _ _ ?_)
  refine wpAny_newFunctionEnv_cells hk (kindsX hkind _) fun env' he s' x => ?_
  subst he
  refine ⟨(T.nolimit.keeps keep).keeps x.toInCall.keep, codeAny_func ?_⟩
  obtain ⟨h₁, tk, rfl, _⟩ := x.done
  have hk₁ := x.toInCall.keep
  obtain ⟨cells, NC, Y⟩ := Cl.news (h₀ := s.heap) (Nat.le_refl _) fun n c hm => ⟨x.cell n c (lookup_of_mem_nodup (cellsFrom_names scope.names 0 (s.heap.objs.size + 1) [] [] rfl ▸ hnd) hm), x.above n c hm⟩
  refine wpAny_mono (h _ s.heap.objs.size h₁ tk cells rfl ⟨x.toInCall.ns, fun b o e => hk₁ b o (keep b o e), Nat.le_of_eq (hideAll_size _ _)⟩ (fun p hp => ?_) Y X T (fun p hp => Heap.lt_size (hD p hp))) (fun _ _ x => x) fun _ _ x => x.elim
  rcases List.mem_append.mp hp with hp | hp
  · refine ⟨(NC p hp).1, (NC p hp).2.1, ?_⟩
    cases q : (hideAll s.heap (D.map (·.1))).get? p.1 with
    | none => rfl
    | some o => have := keep _ _ q; rw [(NC p hp).2.2] at this; cases this
  · exact ⟨hk₁ _ _ (hD p hp), Nat.ne_of_lt (Heap.lt_size (hD p hp)), hideAll_none _ (List.mem_map_of_mem hp)⟩
noncomputable def HasInt (m : Str → Option Value) (x : Str) (i : Int) : Prop := ∃ t, m x = some (.int i t)
noncomputable def HasBytes (m : Str → Option Value) (x : Str) (b : Array UInt8) : Prop := ∃ t, m x = some (.bytes b t)
noncomputable def HasStr (m : Str → Option Value) (x : Str) (b : Str) : Prop := ∃ t, m x = some (.str b t)
theorem HasInt.of {m : Str → Option Value} {x : Str} {i j : Int} (h : HasInt m x i) (e : i = j) : HasInt m x j := e ▸ h
theorem HasBytes.of {m : Str → Option Value} {x : Str} {i j : Array UInt8} (h : HasBytes m x i) (e : i = j) : HasBytes m x j := e ▸ h
/-- the end told as a word of its own -/
theorem post_out {α : Type} {M : Model} {A : Around} {c : Sem α} {Q : α → Shared → Prop} {E : Value → Shared → Prop} {s : Shared} (h : ∀ Q' : α → Shared → Prop, (∀ v s', Q v s' → Q' v s') → wpAny M A c Q' E s) : wpAny M A c Q E s := h Q fun _ _ x => x
noncomputable def Stop (P : Prop) : Prop := P
theorem stop_in {P : Prop} (h : Stop P) : P := h
theorem stop_out {P : Prop} (h : P) : Stop P := h
section
variable {w : World} {A : Around} {s : Shared} {env : Env}
noncomputable def Again (I : Nat → Shared → Prop) (n : Nat) (s : Shared) : Prop := ∃ m, m < n ∧ I m s
theorem Again.intro {I : Nat → Shared → Prop} {n : Nat} {s : Shared} (m : Nat) (hm : m < n) (h : I m s) : Again I n s := ⟨m, hm, h⟩
theorem while_out {test : Expr} {body orelse : List Stmt} {Q : Flow → Shared → Prop} {I : Nat → Shared → Prop} {n : Nat}
    (h : ∀ Q1 : Flow → Shared → Prop, (∀ s, Again I n s → Q1 .next s) → (∀ s, Again I n s → Q1 .cont s) → (∀ s, Q .next s → Q1 .brk s) → (∀ v s, Q (.ret v) s → Q1 (.ret v) s) → ∀ Q2 : Flow → Shared → Prop, (∀ f s, Q f s → Q2 f s) →
      wpAny (MM w) A (isTrue test env (eval test env)) (fun b s₂ => if b then wpAny (MM w) A (execs body env) Q1 (fun _ _ => False) s₂ else wpAny (MM w) A (execs orelse env) Q2 (fun _ _ => False) s₂) (fun _ _ => False) s) :
    wpAny (MM w) A (isTrue test env (eval test env)) (fun b s₂ =>
        if b then wpAny (MM w) A (execs body env) (fun f s₃ => match f with
            | .next | .cont => Again I n s₃
            | .brk => Q .next s₃
            | .ret v => Q (.ret v) s₃) (fun _ _ => False) s₂
        else wpAny (MM w) A (execs orelse env) Q (fun _ _ => False) s₂) (fun _ _ => False) s :=
  h (fun f s₃ => match f with
    | .next | .cont => Again I n s₃
    | .brk => Q .next s₃
    | .ret v => Q (.ret v) s₃) (fun _ x => x) (fun _ x => x) (fun _ x => x) (fun _ _ x => x) Q fun _ _ x => x
theorem whileF {test : Expr} {body orelse : List Stmt} {pos : Pos} {Q : Flow → Shared → Prop} (hh : A.handled = none) (I : Nat → Shared → Prop)
    (turn : ∀ n s, I n s → wpAny (MM w) A (isTrue test env (eval test env)) (fun b s₂ =>
        if b then wpAny (MM w) A (execs body env) (fun f s₃ => match f with
            | .next | .cont => Again I n s₃
            | .brk => Q .next s₃
            | .ret v => Q (.ret v) s₃) (fun _ _ => False) s₂
        else wpAny (MM w) A (execs orelse env) Q (fun _ _ => False) s₂) (fun _ _ => False) s)
    (n : Nat) (h : I n s) : wpAny (MM w) A (exec (.While test body orelse pos) env) Q (fun _ _ => False) s := by
  obtain ⟨hd, dp, fr, gd, un⟩ := A
  cases hh
  refine wpAny_While ?_
  show codeAny (MM w) ⟨none, dp, fr, gd, un⟩ _ _ s
  refine codeAny_whileLoop I (fun n s hI => ?_) n h
  refine wpAny_mono (turn n s hI) (fun b s₂ h₂ => ?_) fun _ _ x => x.elim
  cases b with
  | true => exact wpAny_mono h₂ (fun f s₃ h₃ => by cases f <;> exact h₃) fun _ _ x => x.elim
  | false => exact wpAny_mono h₂ (fun f s₃ h₃ => h₃) fun _ _ x => x.elim
end
end Mine
end
section
open PySem PySem.W PyProof.Rows PySem.Calls
set_option maxRecDepth 100000
namespace Mine
theorem fillInt : (∀ w : World, hd.heap_39 w.params = hd.heap_39 w.params) ∧ PySem.Challenge.rw_uc0036_01.foot = 6 := by
  k_fill
  w_top off
  exact ⟨fun _ => rfl, rfl⟩
local macro_rules | `(tactic| walk_at "exec While") => `(tactic| refine Mine.stop_in ?_)
local macro_rules | `(tactic| walk_at "eval Name") => `(tactic| (k_here; k_dflt (refine' nameX_L ?F ?v ?_ ?a ?b; (case F => k_asm); (case a => rfl); (case b => rfl); (case v => assumption); k_whole)))
noncomputable def digs (n : Nat) : Nat → List UInt8
  | 0 => []
  | j + 1 => (65 + n / 16 ^ j % 16).toUInt8 :: digs n j
theorem digs_length (n : Nat) : ∀ j, (digs n j).length = j
  | 0 => rfl
  | j + 1 => by rw [digs, List.length_cons, digs_length n j]
theorem ap_cut {k : Int} (h0 : 0 ≤ k) (h1 : k < 16) : KBy.whole #[65, 66, 67, 68, 69, 70, 71, 72, 73, 74, 75, 76, 77, 78, 79, 80] (some k) (some (k + 1)) = false ∧
    KBy.picked #[65, 66, 67, 68, 69, 70, 71, 72, 73, 74, 75, 76, 77, 78, 79, 80] (some k) (some (k + 1)) = #[(65 + k.toNat).toUInt8] := by
  obtain ⟨n, rfl⟩ : ∃ n : Nat, k = n := ⟨k.toNat, by omega⟩
  have h : n < 16 := by omega
  have : ∀ n : Fin 16, KBy.whole #[65, 66, 67, 68, 69, 70, 71, 72, 73, 74, 75, 76, 77, 78, 79, 80] (some ((n.val : Nat) : Int)) (some (((n.val : Nat) : Int) + 1)) = false ∧
    KBy.picked #[65, 66, 67, 68, 69, 70, 71, 72, 73, 74, 75, 76, 77, 78, 79, 80] (some ((n.val : Nat) : Int)) (some (((n.val : Nat) : Int) + 1)) = #[(65 + ((n.val : Nat) : Int).toNat).toUInt8] := by decide +kernel
  exact this ⟨n, h⟩
local macro_rules | `(tactic| walk_at "binaryOp Add bytes bytes") => `(tactic| (k_here; (refine KBy.add_bytes (by assumption) ?_); intro _ _))
set_option maxHeartbeats 8000000 in
theorem int2ap {w : World} {p : Program} {loose : List Str} {mean : ExcName → Option Value} {mg mb : Str → Option Value} {dp un : Nat} {fr : Option (List Env)} {gd : Option (List Code)} {s : Shared} {Q : Value → Shared → Prop}
   {num : Int} {t : Tok} (hn : 4096 ≤ num.natAbs ∧ num.natAbs < 65536)
   (hdp : dp < 900) (hun : un < 5000)
   (X : (hd.heap_39 w.params).In s.heap) (T : Top p loose mean mg mb s.heap) 
   (hQ : ∀ h' t' tk, Ext [] s.heap h' → Q (.bytes (digs num.natAbs 4).toArray t') { s with heap := h', toks := tk }) :
   wpAny (MM w) (AA dp un fr gd) (call (.ref 229) [.int num t]) Q (fun _ _ => False) s := by
  refine wpAny_call ?_
  refine' enter (D := []) (by simp) X T ?ho ?hcd ?hroom (binds := [(Str.ofString "num", .int num t)]) ?hbind ?hloc ?_ ?c1 ?c2 ?c3 ?c4
  case ho => k_is
  case hcd => k_is
  case hroom => (show dp < 1000; omega)
  case hbind => exact BindsTo.of_eq rfl
  case hloc => exact locs rfl
  case c1 => rfl
  case c2 => rfl
  case c3 => rfl
  case c4 => decide
  intro g L h₁ hg F' N' X' T'
  dsimp only
  k_steps
  refine Mine.stop_out ?_
  rename Fr _ _ _ _ => F'
  rename News _ _ _ _ => N'
  refine whileF rfl (fun k s' => ∃ j m' h' tk, j + k = 5 ∧ j ≤ 4 ∧ s' = { s with heap := h', toks := tk } ∧ Fr g L h' m' ∧ News g L h' [] ∧ HasInt m' (Str.ofString "num") ((num.natAbs / 16 ^ j : Nat) : Int) ∧
    HasBytes m' (Str.ofString "val") (digs num.natAbs j).toArray ∧ HasBytes m' (Str.ofString "AP") #[65, 66, 67, 68, 69, 70, 71, 72, 73, 74, 75, 76, 77, 78, 79, 80]) ?_ 5 ⟨0, _, _, _, rfl, by omega, rfl, F', N', HasInt.of ⟨_, rfl⟩ ?_, ⟨_, rfl⟩, ⟨_, rfl⟩⟩
  · clear F' N'
    intro k s' hI
    refine while_out ?_
    intro Q1 hn1 _ _ _ Q2 hQ2
    obtain ⟨j, m', h', tk, hj, hj4, rfl, F', N', ⟨t1, hnum⟩, ⟨t2, hval⟩, ⟨t3, hAP⟩⟩ := hI
    k_steps
    have hm0 : 0 ≤ ((num.natAbs / 16 ^ j : Nat) : Int).fmod 16 := by rw [Int.fmod_eq_emod_of_nonneg _ (by decide)]; omega
    have hm1 : ((num.natAbs / 16 ^ j : Nat) : Int).fmod 16 < 16 := by rw [Int.fmod_eq_emod_of_nonneg _ (by decide)]; omega
    have hap := ap_cut hm0 hm1
    rename Fr _ _ _ _ => F2
    rename News _ _ _ _ => N2
    refine KBy.slice_N (s := ⟨_, _, _, _, _⟩) F2 N2 (.int _ _) (.int _ _) hap.1 ?_ ?_
    · rw [hap.2]; show (1 : Nat) ≤ 16777216; omega
    intro h3 t3 k3 F3 N3
    clear F2 N2
    rw [hap.2]
    have hsz : (#[((65 : Nat) + (((num.natAbs / 16 ^ j : Nat) : Int).fmod 16).toNat).toUInt8] : Array UInt8).size + (digs num.natAbs j).toArray.size ≤ 16777216 := by
      have := digs_length num.natAbs j
      simp; omega
    k_steps
    · rename Fr _ _ _ _ => F2
      rename News _ _ _ _ => N2
      have hnz : num.natAbs / 16 ^ j ≠ 0 := by
        have hz : ((num.natAbs / 16 ^ j : Nat) : Int) ≠ 0 := by assumption
        omega
      have hj3 : j ≤ 3 := by
        apply Classical.byContradiction
        intro hc
        have : j = 4 := by omega
        subst this
        omega
      refine hn1 _ <| Again.intro (k - 1) (by omega) ⟨j + 1, _, _, _, by omega, by omega, rfl, F2, fun _ hp => (nomatch hp), HasInt.of ⟨_, rfl⟩ ?_, HasBytes.of ⟨_, rfl⟩ ?_, ⟨_, hAP⟩⟩
      · rw [Int.fdiv_eq_ediv_of_nonneg _ (by decide), Nat.pow_succ, ← Nat.div_div_eq_div_mul]
        omega
      · rw [Int.fmod_eq_emod_of_nonneg _ (by decide), digs]
        have e : (((num.natAbs / 16 ^ j : Nat) : Int) % 16).toNat = num.natAbs / 16 ^ j % 16 := by omega
        rw [e]
        simp
    · refine hQ2 _ _ ?_
      k_steps
      rename Fr _ _ _ _ => F2
      have hnz : num.natAbs / 16 ^ j = 0 := by
        have : ((num.natAbs / 16 ^ j : Nat) : Int) = 0 := by assumption
        omega
      have hj4 : j = 4 := by
        rcases Nat.lt_or_ge j 4 with hc | hc
        · exfalso
          have h1 : 16 ^ j ≤ 16 ^ 3 := Nat.pow_le_pow_right (by decide) (by omega)
          have h2 : num.natAbs / 16 ^ 3 ≤ num.natAbs / 16 ^ j := Nat.div_le_div_left h1 (Nat.pow_pos (by decide))
          omega
        · omega
      subst hj4
      subst hg
      exact hQ _ _ _ (ext_of_fr F2)
  · simp
    omega
end Mine
end
section
open PySem PySem.W PyProof.Rows PySem.Calls
set_option maxRecDepth 100000
namespace Mine
noncomputable abbrev wlt (a b : List UInt8) : Bool := Builtin.Bytes.order a b == .lt
theorem slot_bytes_lt : Slot "bytes" (cmpInfo .Lt).2.1 "bytes.__lt__" :=
  .of (owner := "bytes") (n := "__lt__") (by rw [typeLookup_type, builtinLookup_eq_fast]; kernel_rfl) (by decide +kernel) (by decide +kernel) (by decide +kernel)
    (by first | exact .inl (by decide +kernel) | exact .inr (by decide +kernel)) (by rw [isSubtype_type]; kernel_rfl)
theorem entry_bytes_lt : entryFor table "bytes.__lt__" = some Builtin.«bytes.__lt__» := entryFor_of_tree (by kernel_rfl)
theorem args_bytes_lt_2 (a b : Value) : argsOk "bytes.__lt__" ⟨[a, b], []⟩ := by
  unfold argsOk; rw [signature?_of (id := "bytes.__lt__") (n := ['_', '_', 't', 'l', '_', '_']) (o := ['s', 'e', 't', 'y', 'b']) (by kernel_rfl) FB.owner_bytes]; kernel_rfl
theorem gives_bytes_lt (b c : Array UInt8) (t u : Tok) : Gives (Builtin.«bytes.__lt__» ⟨[.bytes b t, .bytes c u], []⟩) (.val (.bool (wlt b.toList c.toList))) := by
  refine .of_wp fun M A E s Q hq => ?_
  show wpAny M A (isInstance (.bytes c u) (.type "bytes") >>= fun r => _) _ E s
  refine wpAny_bind (wpAny_isInstance (typeIs_bytes s c u) F.sub_bytes_bytes ?_)
  exact wpAny_pure ⟨_, rfl, hq⟩
section
variable {prog : Program} {w : World} {A : Around} {E : Value → Shared → Prop} {s : Shared} {b c : Array UInt8} {t u : Tok}
theorem lt_bytes {Q : Value → Shared → Prop} (h : Q (.bool (wlt b.toList c.toList)) s) : wpAny (model prog w) A (compareOp .Lt (.bytes b t) (.bytes c u)) Q E s :=
  compareOp_gives (op := .Lt) (typeIs_bytes s b t) (typeIs_bytes s c u) slot_bytes_lt entry_bytes_lt (args_bytes_lt_2 _ _) (gives_bytes_lt b c t u) (fun e => nomatch e) h
theorem call_bytes_lt {Q : Value → Shared → Prop} (h : Q (.bool (wlt b.toList c.toList)) s) :
    wpAny (model prog w) A (call (.builtin "bytes.__lt__") [.bytes b t, .bytes c u]) Q E s := by
  refine wpAny_call_entry slot_bytes_lt (typeIs_bytes s b t) entry_bytes_lt ?_ (args_bytes_lt_2 _ _)
  show wpAny _ _ (isInstance (.bytes c u) (.type "bytes") >>= fun r => _) _ _ s
  refine wpAny_bind (wpAny_isInstance (typeIs_bytes s c u) F.sub_bytes_bytes ?_)
  exact wpAny_pure ⟨_, rfl, h⟩
theorem oneLt_bytes {Q : Bool → Shared → Prop} (h : Q (wlt b.toList c.toList) s) : wpAny (model prog w) A (oneLt' true (.bytes b t) (.bytes c u)) Q E s := by
  rw [oneLt'_eq]
  simp only [if_true]
  refine wpAny_bind (wpAny_cRoomFor_byValue rfl ?_)
  refine wpAny_bind (wpAny_callSpecialIfBound?_slot (typeIs_bytes s b t) slot_bytes_lt (call_bytes_lt ?_))
  exact wpAny_truthy_bool h
end
noncomputable abbrev lamParams (p : Pos) : Arguments := { posonlyargs := [], args := [{ arg := Str.ofString "pair", annotation := none, pos := p }], vararg := none, kwonlyargs := [], kw_defaults := [], kwarg := none, defaults := [] }
noncomputable abbrev lamScope : Scope := { kind := .function, names := [(Str.ofString "pair", .local)], isGenerator := false, isCoroutine := false, more := [] }
noncomputable abbrev lamBody0 (p1 p2 p3 : Pos) : Expr := .Subscript (.Name (Str.ofString "pair") p1) (.Constant (.int 0) 0 p2) p3
/-- a key: the first of a pair -/
noncomputable def Lam0 (h : Heap) (kf : Addr) : Prop := ∃ qual p0 p1 p2 p3 pm c' ctv, h.get? kf = some (kla_obj (Str.ofString "<lambda>") qual (lamParams p0) (lamBody0 p1 p2 p3) lamScope [] pm c' ctv) ∧ h.CodeRec (.ref c') qual
/-- a key: the first sign of the first of a pair -/
noncomputable def Lam00 (h : Heap) (kf : Addr) : Prop := ∃ qual p0 p1 p2 p3 p4 p5 pm c' ctv, h.get? kf = some (kla_obj (Str.ofString "<lambda>") qual (lamParams p0) (.Subscript (lamBody0 p1 p2 p3) (.Constant (.int 0) 0 p4) p5) lamScope [] pm c' ctv) ∧ h.CodeRec (.ref c') qual
theorem codeRec_keeps {h h' : Heap} (k : ∀ b o, h.get? b = some o → h'.get? b = some o) {cv : Value} {q : Str} (x : h.CodeRec cv q) : h'.CodeRec cv q := x.keeps k
theorem Lam0.keeps {h h' : Heap} {kf : Addr} (x : Lam0 h kf) (k : ∀ b o, h.get? b = some o → h'.get? b = some o) : Lam0 h' kf :=
  let ⟨qual, p0, p1, p2, p3, pm, c', ctv, e, r⟩ := x; ⟨qual, p0, p1, p2, p3, pm, c', ctv, k _ _ e, r.keeps k⟩
theorem Lam00.keeps {h h' : Heap} {kf : Addr} (x : Lam00 h kf) (k : ∀ b o, h.get? b = some o → h'.get? b = some o) : Lam00 h' kf :=
  let ⟨qual, p0, p1, p2, p3, p4, p5, pm, c', ctv, e, r⟩ := x; ⟨qual, p0, p1, p2, p3, p4, p5, pm, c', ctv, k _ _ e, r.keeps k⟩
theorem lamEnter {w : World} {dp un : Nat} {fr : Option (List Env)} {gd : Option (List Code)} {s : Shared} {Q : Value → Shared → Prop} {kf : Addr} {v : Value}
    {qual : Str} {p0 : Pos} {body : Expr} {pm : Value} {c' : Addr} {ctv : Value} (ho : s.heap.get? kf = some (kla_obj (Str.ofString "<lambda>") qual (lamParams p0) body lamScope [] pm c' ctv)) (hc : s.heap.CodeRec (.ref c') qual)
    (hl : s.heap.NoLimit) (hdp : dp < 900)
    (h : ∀ h₁, Fr s.heap s.heap.objs.size h₁ (fun y => [(Str.ofString "pair", v)].reverse.lookup y) →
      wpAny (MM w) ((AA dp un fr gd).deeper (envX qual lamScope s.heap.objs.size kf (.ref c') [])) (eval body (envX qual lamScope s.heap.objs.size kf (.ref c') [])) Q (fun _ _ => False) { s with heap := h₁, toks := s.toks + 1 }) :
    wpAny (MM w) (AA dp un fr gd) (call (.ref kf) [v]) Q (fun _ _ => False) s := by
  refine wpAny_call (kla_callFunE (show dp < 1000 by omega) ho rfl rfl rfl rfl hc ?_)
  rw [show bindArgs (kla_fn (Str.ofString "<lambda>") qual (lamParams p0) body lamScope [] pm (.ref c') ctv) ⟨[v], []⟩ = pure [(Str.ofString "pair", v)] from rfl]
  refine wpAny_pure (wpAny_newFunctionEnv (show ∀ x ∈ lamScope.names, x.2 ≠ .cell by decide) (locs rfl) (fun h₁ hns hsb => ⟨hl.fresh _ hsb, ?_⟩) rfl)
  have hk₁ : ∀ b o, s.heap.get? b = some o → h₁.get? b = some o := fun b o e => hsb.extBut b o (Nat.ne_of_lt (Heap.lt_size e)) (Heap.get?_push_of_some _ e)
  exact kla_codeExpr (wpAny_mono (h h₁ ⟨hns, hk₁, Nat.le_refl _⟩) (fun _ _ x => x) fun _ _ x => x.elim)
theorem lam0_call {w : World} {dp un : Nat} {fr : Option (List Env)} {gd : Option (List Code)} {s : Shared} {Q : Value → Shared → Prop} {kf a : Addr} {v0 v1 : Value} (K0 : Lam0 s.heap kf) (ha : s.heap.get? a = some (tupO #[v0, v1])) (hl : s.heap.NoLimit) (hdp : dp < 900)
    (hQ : ∀ h' tk, Ext [] s.heap h' → Q v0 { s with heap := h', toks := tk }) :
    wpAny (MM w) (AA dp un fr gd) (call (.ref kf) [.ref a]) Q (fun _ _ => False) s := by
  obtain ⟨qual, p0, p1, p2, p3, pm, c', ctv, ho, hc⟩ := K0
  refine lamEnter ho hc hl hdp fun h₁ F => ?_
  refine Subscript_ (nameX_L F rfl (wpAny_Constant_int ?_) rfl rfl)
  exact item_tupleT (l := [v0, v1]) (j := 0) ⟨_, F.keep _ _ ha, rfl, _, rfl⟩ (by decide) (by decide) rfl rfl (hQ _ _ (ext_of_keep F.keep))
theorem lam00_call {w : World} {dp un : Nat} {fr : Option (List Env)} {gd : Option (List Code)} {s : Shared} {Q : Value → Shared → Prop} {kf a : Addr} {b : UInt8} {bs : List UInt8} {tb : Tok} {v1 : Value} (K0 : Lam00 s.heap kf) (ha : s.heap.get? a = some (tupO #[.bytes (b :: bs).toArray tb, v1])) (hl : s.heap.NoLimit) (hdp : dp < 900) (hb : bs.length < 1000)
    (hQ : ∀ h' t tk, Ext [] s.heap h' → Q (.int b.toNat t) { s with heap := h', toks := tk }) :
    wpAny (MM w) (AA dp un fr gd) (call (.ref kf) [.ref a]) Q (fun _ _ => False) s := by
  obtain ⟨qual, p0, p1, p2, p3, p4, p5, pm, c', ctv, ho, hc⟩ := K0
  refine lamEnter ho hc hl hdp fun h₁ F => ?_
  refine Subscript_ (Subscript_ (nameX_L F rfl (wpAny_Constant_int ?_) rfl rfl))
  refine item_tupleT (l := [.bytes (b :: bs).toArray tb, v1]) (j := 0) ⟨_, F.keep _ _ ha, rfl, _, rfl⟩ (by decide) (by decide) rfl rfl (wpAny_Constant_int ?_)
  exact bytes_item_K (x := b :: bs) (by simp; omega) (by decide) (by simp) rfl (hQ _ _ _ (ext_of_keep F.keep))
end Mine
end
section
open PySem PySem.W PyProof.Rows PySem.Calls
set_option maxRecDepth 100000
namespace Mine
noncomputable abbrev Rw := List UInt8 × Str
noncomputable def PairAt (h : Heap) (v : Value) (p : Rw) : Prop := ∃ a tw tn, v = .ref a ∧ h.get? a = some (tupO #[.bytes p.1.toArray tw, .str p.2 tn])
inductive RowAt (h : Heap) : List Value → List Rw → Prop
  | nil : RowAt h [] []
  | cons {v : Value} {p : Rw} {vs : List Value} {ps : List Rw} : PairAt h v p → RowAt h vs ps → RowAt h (v :: vs) (p :: ps)
theorem PairAt.keeps {h h' : Heap} {v : Value} {p : Rw} (x : PairAt h v p) (k : ∀ b o, h.get? b = some o → h'.get? b = some o) : PairAt h' v p :=
  let ⟨a, tw, tn, e, r⟩ := x; ⟨a, tw, tn, e, k _ _ r⟩
theorem RowAt.keeps {h h' : Heap} (k : ∀ b o, h.get? b = some o → h'.get? b = some o) : ∀ {vs : List Value} {ps : List Rw}, RowAt h vs ps → RowAt h' vs ps
  | _, _, .nil => .nil
  | _, _, .cons x r => .cons (x.keeps k) (r.keeps k)
theorem RowAt.length {h : Heap} : ∀ {vs : List Value} {ps : List Rw}, RowAt h vs ps → vs.length = ps.length
  | _, _, .nil => rfl
  | _, _, .cons _ r => by simp [r.length]
theorem RowAt.get {h : Heap} : ∀ {vs : List Value} {ps : List Rw}, RowAt h vs ps → ∀ {i : Nat}, i < ps.length → ∃ v p, vs[i]? = some v ∧ ps[i]? = some p ∧ PairAt h v p
  | _, _, .nil, i, hi => absurd hi (Nat.not_lt_zero _)
  | _, _, .cons x r, 0, _ => ⟨_, _, rfl, rfl, x⟩
  | _, _, .cons x r, i + 1, hi => by
    obtain ⟨v, p, e1, e2, e3⟩ := r.get (i := i) (by simpa using hi)
    exact ⟨v, p, by simpa using e1, by simpa using e2, e3⟩
noncomputable def kk (ps : List Rw) (i : Nat) : List UInt8 := match ps[i]? with | some p => p.1 | none => []
theorem kk_of {ps : List Rw} {i : Nat} {p : Rw} (e : ps[i]? = some p) : kk ps i = p.1 := by unfold kk; rw [e]
/-- the words do not fall -/
noncomputable def SortedW (ps : List Rw) : Prop := ∀ i j, i ≤ j → j < ps.length → wlt (kk ps j) (kk ps i) = false
open Builtin in
theorem wlt_cons (x y : UInt8) (a b : List UInt8) : wlt (x :: a) (y :: b) = (decide (x < y) || (decide (x = y) && wlt a b)) := by
  unfold wlt
  simp only [Bytes.order]
  by_cases h1 : x < y
  · simp [h1]
  · by_cases h2 : x > y
    · have : x ≠ y := fun e => by subst e; exact absurd h2 (UInt8.lt_irrefl _)
      simp [h1, h2, this]
    · have : x = y := UInt8.le_antisymm (UInt8.not_lt.mp h2) (UInt8.not_lt.mp h1)
      simp [this]
theorem wlt_nil_left (b : List UInt8) : wlt [] b = !b.isEmpty := by cases b <;> rfl
theorem wlt_nil_right (a : List UInt8) : wlt a [] = false := by cases a <;> rfl
theorem wlt_irrefl : ∀ a, wlt a a = false
  | [] => rfl
  | x :: a => by rw [wlt_cons, wlt_irrefl a]; simp
theorem wlt_trans : ∀ a b c, wlt a b = true → wlt b c = true → wlt a c = true
  | _, _, [], _, h2 => by rw [wlt_nil_right] at h2; cases h2
  | [], _, z :: c, _, _ => rfl
  | x :: a, [], z :: c, h1, _ => by rw [wlt_nil_right] at h1; cases h1
  | x :: a, y :: b, z :: c, h1, h2 => by
    rw [wlt_cons] at *
    have ih := wlt_trans a b c
    simp only [Bool.or_eq_true, Bool.and_eq_true, decide_eq_true_eq] at *
    rcases h1 with h1 | ⟨rfl, h1⟩ <;> rcases h2 with h2 | ⟨rfl, h2⟩
    · exact .inl (UInt8.lt_trans h1 h2)
    · exact .inl h1
    · exact .inl h2
    · exact .inr ⟨rfl, ih h1 h2⟩
theorem wlt_total : ∀ a b, wlt a b = false → wlt b a = false → a = b
  | [], [], _, _ => rfl
  | [], _ :: _, h, _ => by cases h
  | _ :: _, [], _, h => by cases h
  | x :: a, y :: b, h1, h2 => by
    rw [wlt_cons] at *
    have ih := wlt_total a b
    simp only [Bool.or_eq_false_iff, decide_eq_false_iff_not, Bool.and_eq_false_iff] at *
    have e : x = y := UInt8.le_antisymm (UInt8.not_lt.mp h2.1) (UInt8.not_lt.mp h1.1)
    subst e
    have h1' := h1.2.resolve_left (by simp)
    have h2' := h2.2.resolve_left (by simp)
    rw [ih h1' h2']
theorem wlt_negTrans (a b c : List UInt8) (h : wlt a c = true) : wlt a b = true ∨ wlt b c = true := by
  cases h1 : wlt a b with
  | true => exact .inl rfl
  | false =>
    cases h2 : wlt b c with
    | true => exact .inr rfl
    | false =>
      exfalso
      cases h3 : wlt b a with
      | true => rw [wlt_trans _ _ _ h3 h] at h2; cases h2
      | false => rw [wlt_total _ _ h1 h3, h2] at h; cases h
theorem wlt_asymm {a b : List UInt8} (h : wlt a b = true) : wlt b a = false := by
  cases h2 : wlt b a with
  | false => rfl
  | true => rw [wlt_irrefl a |>.symm.trans (wlt_trans _ _ _ h h2)] 
noncomputable def FnHere (h : Heap) (f : Addr) : Prop := ∃ o fd, h.get? f = some o ∧ o.data = .func fd
theorem Lam0.here {h : Heap} {kf : Addr} (x : Lam0 h kf) : FnHere h kf := let ⟨_, _, _, _, _, _, _, _, e, _⟩ := x; ⟨_, _, e, rfl⟩
theorem fn_keeper {h : Heap} {f : Addr} {M : Model} (x : FnHere h f) : Looks M h (keeperOf (.ref f)) .frame := by
  obtain ⟨o, fd, e, hd⟩ := x
  refine (Looks.ld (part := none) e).andThen ?_
  simp only [hd]
  exact .now
theorem callWith_here {M : Model} {A : Around} {E : Value → Shared → Prop} {s : Shared} {env : Env} {pos : Pos} {f : Addr} {first : List Value} {Q : Value → Shared → Prop} {e : Expr} {rest : List Expr}
    (h : wpAny M A (spliced (backTo pos (starEach (e :: rest) env))) (fun vs s₁ => FnHere s₁.heap f ∧ wpAny M A (call (.ref f) (first ++ vs)) Q E s₁) E s)
    (he : starEach (e :: rest) env = (false, eval e env) :: starEach rest env := by rfl) (hplain : (backTo pos (starEach rest env)).any (·.1) = false := by rfl) :
    wpAny M A (callWith pos (.ref f) first (backTo pos (starEach (e :: rest) env)) []) Q E s := by
  rw [he] at h ⊢
  exact callWith_of (by show ((false || (backTo pos (starEach rest env)).any (·.1)) || false) = false; rw [hplain]; rfl) (fun h hP => ⟨.frame, .inl rfl, fn_keeper hP⟩) (evalArgs_plain h)
local macro_rules | `(tactic| walk_at "exec While") => `(tactic| refine Mine.stop_in ?_)
local macro_rules | `(tactic| walk_at "eval Name") => `(tactic| (k_here; k_dflt (refine' nameX_L ?F ?v ?_ ?a ?b; (case F => k_asm); (case a => rfl); (case b => rfl); (case v => assumption); k_whole)))
local macro_rules | `(tactic| walk_at "callWith ref") => `(tactic| (k_here; refine Mine.callWith_here ?_))
local macro_rules | `(tactic| walk_at "And") => `(tactic| ((with_reducible show Mine.FnHere _ _ ∧ _); refine ⟨Lam0.here (Lam0.keeps (by assumption) (Fr.keep (by assumption))), ?_⟩; try dsimp only [List.nil_append, List.cons_append]))
local macro_rules | `(tactic| walk_at "call builtin:len") => `(tactic| (k_here; refine PyProof.Rows.len_list (stays_list (Fr.keep (by assumption)) (by assumption)) (by assumption) ?_))
theorem fillBis : (∀ w : World, hd.heap_39 w.params = hd.heap_39 w.params) ∧ PySem.Challenge.rw_uc0036_01.foot = 6 := by
  k_fill
  w_top off
  exact ⟨fun _ => rfl, rfl⟩
set_option maxHeartbeats 8000000 in
theorem bisR {w : World} {p : Program} {loose : List Str} {mean : ExcName → Option Value} {mg mb : Str → Option Value} {dp un : Nat} {fr : Option (List Env)} {gd : Option (List Code)} {s : Shared} {Q : Value → Shared → Prop}
   {a : Addr} {items : List Value} {n : Nat} {x : List UInt8} {tx t0 : Tok} {kf : Addr} {ps : List Rw}
   (hdp : dp < 800) (hun : un < 5000)
   (X : (hd.heap_39 w.params).In s.heap) (T : Top p loose mean mg mb s.heap)
   (hl : s.heap.IsList a items.toArray) (hr : RowAt s.heap items ps) (hk : Lam0 s.heap kf) (hsz : ps.length ≤ 100) (hs : SortedW ps)
   (hQ : ∀ h' t' tk lo, Ext [] s.heap h' → lo ≤ ps.length → (∀ i, i < lo → wlt x (kk ps i) = false) → (∀ i, lo ≤ i → i < ps.length → wlt x (kk ps i) = true) → Q (.int (lo : Nat) t') { s with heap := h', toks := tk }) :
   wpAny (MM w) (AA dp un fr gd) (call (.ref 204) [.ref a, .bytes x.toArray tx, .int 0 t0, .none] [(Str.ofString "key", .ref kf)]) Q (fun _ _ => False) s := by
  refine wpAny_call ?_
  refine' enter (D := []) (by simp) X T ?ho ?hcd ?hroom (binds := [(Str.ofString "a", .ref a), (Str.ofString "x", .bytes x.toArray tx), (Str.ofString "lo", .int 0 t0), (Str.ofString "hi", .none), (Str.ofString "key", .ref kf)]) ?hbind ?hloc ?_ ?c1 ?c2 ?c3 ?c4
  case ho => k_is
  case hcd => k_is
  case hroom => (show dp < 1000; omega)
  case hbind => exact kp_binds X (fun _ => rfl)
  case hloc => exact locs rfl
  case c1 => rfl
  case c2 => rfl
  case c3 => rfl
  case c4 => decide
  intro g L h₁ hg F' N' X' T'
  replace hg : g = s.heap := hg
  subst hg
  dsimp only
  have hlen := hr.length
  have hfit : (items.toArray.size : Int) < 2 ^ 63 := by rw [List.size_toArray, hlen]; omega
  k_steps
  refine Mine.stop_out ?_
  rename Fr _ _ _ _ => F'
  rename News _ _ _ _ => N'
  refine whileF rfl (fun k s' => ∃ lo hi m' h' tk, hi - lo = k ∧ lo ≤ hi ∧ hi ≤ ps.length ∧ s' = { s with heap := h', toks := tk } ∧ Fr s.heap L h' m' ∧ News s.heap L h' [] ∧ HasInt m' (Str.ofString "lo") (lo : Nat) ∧ HasInt m' (Str.ofString "hi") (hi : Nat) ∧
    HasBytes m' (Str.ofString "x") x.toArray ∧ m' (Str.ofString "a") = some (.ref a) ∧ m' (Str.ofString "key") = some (.ref kf) ∧ (∀ i, i < lo → wlt x (kk ps i) = false) ∧ (∀ i, hi ≤ i → i < ps.length → wlt x (kk ps i) = true)) ?_ ps.length
    ⟨0, ps.length, _, _, _, rfl, by omega, by omega, rfl, F', N', ⟨_, rfl⟩, HasInt.of ⟨_, rfl⟩ ?_, ⟨_, rfl⟩, rfl, rfl, fun i hi => absurd hi (Nat.not_lt_zero _), fun i h1 h2 => absurd h2 (Nat.not_lt.mpr h1)⟩
  · clear F' N'
    intro k s' hI
    refine while_out ?_
    intro Q1 hn1 _ _ _ Q2 hQ2
    obtain ⟨lo, hi, m', h', tk, hk', hlh, hhn, rfl, F', N', ⟨t1, hlo⟩, ⟨t2, hhi⟩, ⟨t3, hx⟩, ha, hkf, hbl, hbh⟩ := hI
    k_steps
    · rename Fr _ _ _ _ => F1
      rename News _ _ _ _ => N1
      have hlt : lo < hi := by
        have : (lo : Int) < hi := by assumption
        omega
      have hmid : ((lo : Int) + hi).fdiv 2 = (((lo + hi) / 2 : Nat) : Int) := by
        rw [Int.fdiv_eq_ediv_of_nonneg _ (by decide)]; omega
      generalize hM : (lo + hi) / 2 = M at hmid
      have hM1 : lo ≤ M := by omega
      have hM2 : M < hi := by omega
      obtain ⟨v, pr, e1, e2, hp⟩ := hr.get (i := M) (by omega)
      refine item_list (stays_list F1.keep hl) (by rw [hmid]; omega) (by rw [hmid]; omega) (x := v) ?_ ?_
      · rw [hmid]; simpa using e1
      obtain ⟨pa, tw, tn, rfl, ep⟩ := hp
      have hk1 := hk.keeps F1.keep
      have hl1 := T.nolimit.keeps F1.keep
      have ep1 := F1.keep _ _ ep
      k_steps
      · exact Lam0.here hk1
      refine lam0_call hk1 ep1 hl1 (show dp + 1 < 900 by omega) ?_
      intro h2 tk2 x2
      replace F1 := fr_ext0 F1 x2
      replace N1 := news_ext0 N1 x2
      refine lt_bytes ?_
      k_steps
      · rename Fr _ _ _ _ => F2
        have hw : wlt x pr.1 = true := by assumption
        refine hn1 _ <| Again.intro (M - lo) (by omega) ⟨lo, M, _, _, _, rfl, by omega, by omega, rfl, F2, fun _ hp => (nomatch hp), ⟨_, hlo⟩, HasInt.of ⟨_, rfl⟩ hmid, ⟨_, hx⟩, ha, hkf, hbl, fun i h1 h2 => ?_⟩
        rcases Nat.lt_or_ge i hi with hc | hc
        · rcases wlt_negTrans x (kk ps i) pr.1 hw with h3 | h3
          · exact h3
          · rw [← kk_of e2, hs M i h1 h2] at h3; cases h3
        · exact hbh i hc h2
      · rename Fr _ _ _ _ => F2
        have hw : wlt x pr.1 = false := by first | assumption | (simpa using (by assumption : ¬ wlt x pr.1 = true))
        refine hn1 _ <| Again.intro (hi - (M + 1)) (by omega) ⟨M + 1, hi, _, _, _, rfl, by omega, by omega, rfl, F2, fun _ hp => (nomatch hp), HasInt.of ⟨_, rfl⟩ (by rw [hmid]; rfl), ⟨_, hhi⟩, ⟨_, hx⟩, ha, hkf, fun i h1 => ?_, hbh⟩
        cases h3 : wlt x (kk ps i) with
        | false => rfl
        | true =>
          rcases wlt_negTrans x (kk ps M) (kk ps i) h3 with h4 | h4
          · rw [kk_of e2, hw] at h4; cases h4
          · rw [hs i M (by omega) (by omega)] at h4; cases h4
    · refine hQ2 _ _ ?_
      k_steps
      rename Fr _ _ _ _ => F1
      have : ¬ (lo : Int) < hi := by assumption
      have : lo = hi := by omega
      subst this
      exact hQ _ _ _ _ (ext_of_keep F1.keep) hhn hbl hbh
  · rw [List.size_toArray, hlen]
end Mine
end
section
open PySem PySem.W PyProof.Rows PySem.Calls
set_option maxRecDepth 100000
namespace Mine
local macro_rules | `(tactic| walk_at "nothing 0") => `(tactic| skip)
local macro_rules | `(tactic| walk_at "exec While") => `(tactic| refine Mine.stop_in ?_)
local macro_rules | `(tactic| walk_at "eval Name") => `(tactic| (k_here; k_dflt (refine' nameX_L ?F ?v ?_ ?a ?b; (case F => k_asm); (case a => rfl); (case b => rfl); (case v => assumption); k_whole)))
local macro_rules | `(tactic| walk_at "callWith ref") => `(tactic| (k_here; refine Mine.callWith_here ?_))
local macro_rules | `(tactic| walk_at "And") => `(tactic| ((with_reducible show Mine.FnHere _ _ ∧ _); refine ⟨Lam0.here (Lam0.keeps (by assumption) (Fr.keep (by assumption))), ?_⟩; try dsimp only [List.nil_append, List.cons_append]))
local macro_rules | `(tactic| walk_at "call builtin:len") => `(tactic| (k_here; refine PyProof.Rows.len_list (stays_list (Fr.keep (by assumption)) (by assumption)) (by assumption) ?_))
theorem fillBisL : (∀ w : World, hd.heap_39 w.params = hd.heap_39 w.params) ∧ PySem.Challenge.rw_uc0036_01.foot = 6 := by
  k_fill
  w_top off
  exact ⟨fun _ => rfl, rfl⟩
set_option maxHeartbeats 8000000 in
theorem bisL {w : World} {p : Program} {loose : List Str} {mean : ExcName → Option Value} {mg mb : Str → Option Value} {dp un : Nat} {fr : Option (List Env)} {gd : Option (List Code)} {s : Shared} {Q : Value → Shared → Prop}
   {args : List Value} {a : Addr} {items : List Value} {n : Nat} {x : List UInt8} {tx t0 : Tok} {kf : Addr} {ps : List Rw}
   (hdp : dp < 800) (hun : un < 5000)
   (X : (hd.heap_39 w.params).In s.heap) (T : Top p loose mean mg mb s.heap)
   (hargs : args = [.ref a, .bytes x.toArray tx, .int 0 t0, .none] ∨ args = [.ref a, .bytes x.toArray tx])
   (hl : s.heap.IsList a items.toArray) (hr : RowAt s.heap items ps) (hk : Lam0 s.heap kf) (hsz : ps.length ≤ 100) (hs : SortedW ps)
   (hQ : ∀ h' t' tk lo, Ext [] s.heap h' → lo ≤ ps.length → (∀ i, i < lo → wlt (kk ps i) x = true) → (∀ i, lo ≤ i → i < ps.length → wlt (kk ps i) x = false) → Q (.int (lo : Nat) t') { s with heap := h', toks := tk }) :
   wpAny (MM w) (AA dp un fr gd) (call (.ref 222) args [(Str.ofString "key", .ref kf)]) Q (fun _ _ => False) s := by
  refine wpAny_call ?_
  refine' enter (D := []) (by simp) X T ?ho ?hcd ?hroom (binds := [(Str.ofString "a", .ref a), (Str.ofString "x", .bytes x.toArray tx), (Str.ofString "lo", .int 0 (if args.length = 2 then 594 else t0)), (Str.ofString "hi", .none), (Str.ofString "key", .ref kf)]) ?hbind ?hloc ?_ ?c1 ?c2 ?c3 ?c4
  case ho => k_is
  case hcd => k_is
  case hroom => (show dp < 1000; omega)
  case hbind => rcases hargs with rfl | rfl <;> exact kp_binds X (fun _ => rfl)
  case hloc => exact locs rfl
  case c1 => rfl
  case c2 => rfl
  case c3 => rfl
  case c4 => decide
  intro g L h₁ hg F' N' X' T'
  replace hg : g = s.heap := hg
  subst hg
  dsimp only
  have hlen := hr.length
  have hfit : (items.toArray.size : Int) < 2 ^ 63 := by rw [List.size_toArray, hlen]; omega
  k_steps
  refine Mine.stop_out ?_
  rename Fr _ _ _ _ => F'
  rename News _ _ _ _ => N'
  refine whileF rfl (fun k s' => ∃ lo hi m' h' tk, hi - lo = k ∧ lo ≤ hi ∧ hi ≤ ps.length ∧ s' = { s with heap := h', toks := tk } ∧ Fr s.heap L h' m' ∧ News s.heap L h' [] ∧ HasInt m' (Str.ofString "lo") (lo : Nat) ∧ HasInt m' (Str.ofString "hi") (hi : Nat) ∧
    HasBytes m' (Str.ofString "x") x.toArray ∧ m' (Str.ofString "a") = some (.ref a) ∧ m' (Str.ofString "key") = some (.ref kf) ∧ (∀ i, i < lo → wlt (kk ps i) x = true) ∧ (∀ i, hi ≤ i → i < ps.length → wlt (kk ps i) x = false)) ?_ ps.length
    ⟨0, ps.length, _, _, _, rfl, by omega, by omega, rfl, F', N', ⟨_, rfl⟩, HasInt.of ⟨_, rfl⟩ ?_, ⟨_, rfl⟩, rfl, rfl, fun i hi => absurd hi (Nat.not_lt_zero _), fun i h1 h2 => absurd h2 (Nat.not_lt.mpr h1)⟩
  · clear F' N'
    intro k s' hI
    refine while_out ?_
    intro Q1 hn1 _ _ _ Q2 hQ2
    obtain ⟨lo, hi, m', h', tk, hk', hlh, hhn, rfl, F', N', ⟨t1, hlo⟩, ⟨t2, hhi⟩, ⟨t3, hx⟩, ha, hkf, hbl, hbh⟩ := hI
    k_steps
    · rename Fr _ _ _ _ => F1
      rename News _ _ _ _ => N1
      have hlt : lo < hi := by
        have : (lo : Int) < hi := by assumption
        omega
      have hmid : ((lo : Int) + hi).fdiv 2 = (((lo + hi) / 2 : Nat) : Int) := by
        rw [Int.fdiv_eq_ediv_of_nonneg _ (by decide)]; omega
      generalize hM : (lo + hi) / 2 = M at hmid
      have hM1 : lo ≤ M := by omega
      have hM2 : M < hi := by omega
      obtain ⟨v, pr, e1, e2, hp⟩ := hr.get (i := M) (by omega)
      refine item_list (stays_list F1.keep hl) (by rw [hmid]; omega) (by rw [hmid]; omega) (x := v) ?_ ?_
      · rw [hmid]; simpa using e1
      obtain ⟨pa, tw, tn, rfl, ep⟩ := hp
      have hk1 := hk.keeps F1.keep
      have hl1 := T.nolimit.keeps F1.keep
      have ep1 := F1.keep _ _ ep
      k_steps
      · exact Lam0.here hk1
      refine lam0_call hk1 ep1 hl1 (show dp + 1 < 900 by omega) ?_
      intro h2 tk2 x2
      replace F1 := fr_ext0 F1 x2
      replace N1 := news_ext0 N1 x2
      k_steps
      refine lt_bytes ?_
      k_steps
      · rename Fr _ _ _ _ => F2
        have hw : wlt pr.1 x = true := by assumption
        refine hn1 _ <| Again.intro (hi - (M + 1)) (by omega) ⟨M + 1, hi, _, _, _, rfl, by omega, by omega, rfl, F2, fun _ hp => (nomatch hp), HasInt.of ⟨_, rfl⟩ (by rw [hmid]; rfl), ⟨_, hhi⟩, ⟨_, hx⟩, ha, hkf, fun i h1 => ?_, hbh⟩
        rcases wlt_negTrans pr.1 (kk ps i) x hw with h3 | h3
        · rw [← kk_of e2, hs i M (by omega) (by omega)] at h3; cases h3
        · exact h3
      · rename Fr _ _ _ _ => F2
        have hw : wlt pr.1 x = false := by first | assumption | (simpa using (by assumption : ¬ wlt pr.1 x = true))
        refine hn1 _ <| Again.intro (M - lo) (by omega) ⟨lo, M, _, _, _, rfl, by omega, by omega, rfl, F2, fun _ hp => (nomatch hp), ⟨_, hlo⟩, HasInt.of ⟨_, rfl⟩ hmid, ⟨_, hx⟩, ha, hkf, hbl, fun i h1 h2 => ?_⟩
        rcases Nat.lt_or_ge i hi with hc | hc
        · cases h3 : wlt (kk ps i) x with
          | false => rfl
          | true =>
            rcases wlt_negTrans (kk ps i) (kk ps M) x h3 with h4 | h4
            · rw [hs M i h1 h2] at h4; cases h4
            · rw [kk_of e2, hw] at h4; cases h4
        · exact hbh i hc h2
    · refine hQ2 _ _ ?_
      k_steps
      rename Fr _ _ _ _ => F1
      have : ¬ (lo : Int) < hi := by assumption
      have : lo = hi := by omega
      subst this
      exact hQ _ _ _ _ (ext_of_keep F1.keep) hhn hbl hbh
  · rw [List.size_toArray, hlen]
end Mine
end
section
open PySem PySem.W PyProof.Rows PySem.Calls
set_option maxRecDepth 100000
namespace Mine
/-- laid behind its likes -/
noncomputable def insR (p : Rw) : List Rw → List Rw
  | [] => [p]
  | q :: r => if wlt p.1 q.1 then p :: q :: r else q :: insR p r
/-- laid ahead of its likes -/
noncomputable def insL (p : Rw) : List Rw → List Rw
  | [] => [p]
  | q :: r => if wlt q.1 p.1 then q :: insL p r else p :: q :: r
theorem kk_zero (q : Rw) (r : List Rw) : kk (q :: r) 0 = q.1 := rfl
theorem kk_succ (q : Rw) (r : List Rw) (i : Nat) : kk (q :: r) (i + 1) = kk r i := by unfold kk; rw [List.getElem?_cons_succ]
theorem insR_at (p : Rw) : ∀ (ps : List Rw) (lo : Nat), lo ≤ ps.length → (∀ i, i < lo → wlt p.1 (kk ps i) = false) → (∀ i, lo ≤ i → i < ps.length → wlt p.1 (kk ps i) = true) → ps.take lo ++ p :: ps.drop lo = insR p ps
  | [], lo, h, _, _ => by simp [insR]
  | q :: r, 0, _, _, hr => by
    have := hr 0 (Nat.le_refl _) (by simp)
    rw [kk_zero] at this
    simp [insR, this]
  | q :: r, lo + 1, h, hl, hr => by
    have h0 := hl 0 (by omega)
    rw [kk_zero] at h0
    rw [insR, if_neg (by rw [h0]; simp), ← insR_at p r lo (by simpa using h) (fun i hi => by rw [← kk_succ q]; exact hl _ (by omega)) (fun i h1 h2 => by rw [← kk_succ q]; exact hr _ (by omega) (by simpa using h2))]
    rfl
theorem insL_at (p : Rw) : ∀ (ps : List Rw) (lo : Nat), lo ≤ ps.length → (∀ i, i < lo → wlt (kk ps i) p.1 = true) → (∀ i, lo ≤ i → i < ps.length → wlt (kk ps i) p.1 = false) → ps.take lo ++ p :: ps.drop lo = insL p ps
  | [], lo, h, _, _ => by simp [insL]
  | q :: r, 0, _, _, hr => by
    have := hr 0 (Nat.le_refl _) (by simp)
    rw [kk_zero] at this
    simp [insL, this]
  | q :: r, lo + 1, h, hl, hr => by
    have h0 := hl 0 (by omega)
    rw [kk_zero] at h0
    rw [insL, if_pos h0, ← insL_at p r lo (by simpa using h) (fun i hi => by rw [← kk_succ q]; exact hl _ (by omega)) (fun i h1 h2 => by rw [← kk_succ q]; exact hr _ (by omega) (by simpa using h2))]
    rfl
theorem RowAt.append {h : Heap} : ∀ {vs : List Value} {ps : List Rw} {vs' : List Value} {ps' : List Rw}, RowAt h vs ps → RowAt h vs' ps' → RowAt h (vs ++ vs') (ps ++ ps')
  | _, _, _, _, .nil, y => y
  | _, _, _, _, .cons x r, y => .cons x (r.append y)
theorem RowAt.take {h : Heap} : ∀ {vs : List Value} {ps : List Rw} (k : Nat), RowAt h vs ps → RowAt h (vs.take k) (ps.take k)
  | _, _, 0, _ => by rw [List.take_zero, List.take_zero]; exact .nil
  | _, _, _ + 1, .nil => .nil
  | _, _, k + 1, .cons x r => .cons x (r.take k)
theorem RowAt.drop {h : Heap} : ∀ {vs : List Value} {ps : List Rw} (k : Nat), RowAt h vs ps → RowAt h (vs.drop k) (ps.drop k)
  | _, _, 0, x => x
  | _, _, _ + 1, .nil => .nil
  | _, _, k + 1, .cons _ r => r.drop k
/-- things that change -/
noncomputable def Mut (o : Obj) : Prop := (o.cls = .type "tuple" → ∀ x n, o.data ≠ .seq x n) ∧ (∀ f, o.data ≠ .func f) ∧ ∀ f, o.data = .fields f → ∀ q t, f[1]? ≠ some (.str q t)
noncomputable def Muts (h : Heap) (S : List Addr) : Prop := ∀ a ∈ S, ∃ o, h.get? a = some o ∧ Mut o
theorem mut_list (its : Array Value) (n : Nat) : Mut (lstO its n) := ⟨fun e => absurd e (by show Value.type "list" ≠ Value.type "tuple"; decide), (fun _ e => by cases e), (fun _ e => by cases e)⟩
theorem mut_dict {o : Obj} {es : Array DictEntry} {n : Nat} (e : o.data = .dict es n) : Mut o := ⟨fun _ _ _ q => (by rw [e] at q; cases q), fun _ q => (by rw [e] at q; cases q), fun _ q => (by rw [e] at q; cases q)⟩
theorem mut_ns {h : Heap} {L : Addr} {m : Str → Option Value} (x : h.Ns L m) : ∃ o, h.get? L = some o ∧ Mut o := by
  obtain ⟨o, es, ep, e, hd, _⟩ := x
  exact ⟨o, e, mut_dict hd⟩
theorem muts_nil (h : Heap) : Muts h [] := fun _ q => nomatch q
theorem muts_one {h : Heap} {a : Addr} {o : Obj} (e : h.get? a = some o) (m : Mut o) : Muts h [a] := fun b hb => by
  rw [List.mem_singleton] at hb; subst hb; exact ⟨_, e, m⟩
theorem PairAt.ext {h h' : Heap} {v : Value} {p : Rw} {S : List Addr} (x : PairAt h v p) (k : Ext S h h') (hS : Muts h S) : PairAt h' v p := by
  obtain ⟨a, tw, tn, e, r⟩ := x
  refine ⟨a, tw, tn, e, k _ _ r fun q => ?_⟩
  obtain ⟨o, ho, hc, _⟩ := hS _ q
  rw [r] at ho; cases ho; exact hc rfl _ _ rfl
theorem RowAt.ext {h h' : Heap} {S : List Addr} (k : Ext S h h') (hS : Muts h S) : ∀ {vs : List Value} {ps : List Rw}, RowAt h vs ps → RowAt h' vs ps
  | _, _, .nil => .nil
  | _, _, .cons x r => .cons (x.ext k hS) (r.ext k hS)
theorem ext_hide (h : Heap) (S : List Addr) : Ext S h (hideAll h S) := fun _ _ e n => hideAll_get _ e n
theorem codeRec_ext {h h' : Heap} {S : List Addr} {cv : Value} {q : Str} (x : h.CodeRec cv q) (k : Ext S h h') (hS : Muts h S) : h'.CodeRec cv q := by
  obtain ⟨c, o, vs, t, e, ho, hd, hq⟩ := x
  refine ⟨c, o, vs, t, e, k _ _ ho fun q' => ?_, hd, hq⟩
  obtain ⟨o', ho', _, _, hc⟩ := hS _ q'
  rw [ho] at ho'; cases ho'; exact hc _ hd _ _ hq
theorem Lam0.ext {h h' : Heap} {S : List Addr} {kf : Addr} (x : Lam0 h kf) (k : Ext S h h') (hS : Muts h S) : Lam0 h' kf := by
  obtain ⟨qual, p0, p1, p2, p3, pm, c', ctv, e, r⟩ := x
  refine ⟨qual, p0, p1, p2, p3, pm, c', ctv, k _ _ e fun q => ?_, codeRec_ext r k hS⟩
  obtain ⟨o', ho', _, hc, _⟩ := hS _ q
  rw [e] at ho'; cases ho'; exact hc _ rfl
theorem Lam00.ext {h h' : Heap} {S : List Addr} {kf : Addr} (x : Lam00 h kf) (k : Ext S h h') (hS : Muts h S) : Lam00 h' kf := by
  obtain ⟨qual, p0, p1, p2, p3, p4, p5, pm, c', ctv, e, r⟩ := x
  refine ⟨qual, p0, p1, p2, p3, p4, p5, pm, c', ctv, k _ _ e fun q => ?_, codeRec_ext r k hS⟩
  obtain ⟨o', ho', _, hc, _⟩ := hS _ q
  rw [e] at ho'; cases ho'; exact hc _ rfl
theorem hide_keeps {g h : Heap} {L : Addr} {m : Str → Option Value} {S : List Addr} (F : Fr g L h m) (hS : ∀ a ∈ S, g.get? a = none) : ∀ b o, g.get? b = some o → (hideAll h S).get? b = some o := fun b o e =>
  hideAll_get _ (F.keep b o e) fun q => by rw [hS b q] at e; cases e
theorem news_none {g h : Heap} {L : Addr} {news : List (Addr × Obj)} (N : News g L h news) {a : Addr} {o : Obj} (hm : (a, o) ∈ news) : g.get? a = none := (N _ hm).2.2
local macro_rules | `(tactic| walk_at "eval Name") => `(tactic| (k_here; k_dflt (refine' nameX_L ?F ?v ?_ ?a ?b; (case F => k_asm); (case a => rfl); (case b => rfl); (case v => assumption); k_whole)))
local macro_rules | `(tactic| walk_at "call ref") => `(tactic| refine Mine.stop_in ?_)
theorem fillIns : (∀ w : World, hd.heap_39 w.params = hd.heap_39 w.params) ∧ PySem.Challenge.rw_uc0036_01.foot = 6 := by
  k_fill
  w_top off
  exact ⟨fun _ => rfl, rfl⟩
set_option maxHeartbeats 8000000 in
theorem insRight {w : World} {p : Program} {loose : List Str} {mean : ExcName → Option Value} {mg mb : Str → Option Value} {dp un : Nat} {fr : Option (List Env)} {gd : Option (List Code)} {s : Shared} {Q : Value → Shared → Prop}
   {a xa : Addr} {items : List Value} {n : Nat} {kf : Addr} {ps : List Rw} {pr : Rw}
   (hdp : dp < 700) (hun : un < 4900)
   (X : (hd.heap_39 w.params).In (hideAll s.heap [a])) (T : Top p loose mean mg mb (hideAll s.heap [a]))
   (hl : s.heap.get? a = some (lstO items.toArray n)) (hr : RowAt s.heap items ps) (hx : PairAt s.heap (.ref xa) pr) (hk : Lam0 s.heap kf) (hsz : ps.length ≤ 99) (hs : SortedW ps)
   (hQ : ∀ h' items' n' tk, Ext [a] s.heap h' → h'.get? a = some (lstO items'.toArray n') → RowAt h' items' (insR pr ps) → Q .none { s with heap := h', toks := tk }) :
   wpAny (MM w) (AA dp un fr gd) (call (.ref 195) [.ref a, .ref xa] [(Str.ofString "key", .ref kf)]) Q (fun _ _ => False) s := by
  have hM : Muts s.heap [a] := muts_one hl (mut_list _ _)
  have hr' := hr.ext (ext_hide _ [a]) hM
  have hx' := hx.ext (ext_hide _ [a]) hM
  have hk' := hk.ext (ext_hide _ [a]) hM
  refine wpAny_call ?_
  refine' enter (D := [(a, lstO items.toArray n)]) ?_ X T ?ho ?hcd ?hroom (binds := [(Str.ofString "a", .ref a), (Str.ofString "x", .ref xa), (Str.ofString "lo", .int 0 554), (Str.ofString "hi", .none), (Str.ofString "key", .ref kf)]) ?hbind ?hloc ?_ ?c1 ?c2 ?c3 ?c4
  case ho => k_is
  case hcd => k_is
  case hroom => (show dp < 1000; omega)
  case hbind => exact kp_binds (X.keeps fun b o e => of_hideAll _ e) (fun _ => rfl)
  case hloc => exact locs rfl
  case c1 => rfl
  case c2 => rfl
  case c3 => rfl
  case c4 => decide
  · intro q hq
    rw [List.mem_singleton] at hq; subst hq; exact hl
  intro g L h₁ hg F' N' X' T'
  replace hg : g = hideAll s.heap [a] := hg
  subst hg
  dsimp only
  obtain ⟨_, tw, tn, e0, ep⟩ := hx'
  cases e0
  k_steps
  refine callWith_here ?_
  k_steps
  · exact Lam0.here (hk'.keeps (by assumption : Fr _ _ _ _).keep)
  rename Fr _ _ _ _ => F1
  rename News _ _ _ _ => N1
  refine Mine.stop_out ?_
  refine lam0_call (hk'.keeps F1.keep) (F1.keep _ _ ep) (T'.nolimit.keeps F1.keep) (show dp + 1 < 900 by omega) ?_
  intro h2 tk2 x2
  replace F1 := fr_ext0 F1 x2
  replace N1 := news_ext0 N1 x2
  k_steps
  rename Fr _ _ _ _ => F1
  rename News _ _ _ _ => N1
  refine Mine.stop_out ?_
  refine bisR (n := 0) (x := pr.1) (ps := ps) (kf := kf) (items := items) (show dp + 1 < 800 by omega) (show un + 3 < 5000 by omega) (X'.keeps F1.keep) (T'.keeps F1.keep) ⟨_, (N1 _ (.head _)).1, rfl, _, rfl⟩ (hr'.keeps F1.keep) (hk'.keeps F1.keep) (by omega) hs ?_
  intro h3 t3 tk3 lo x3 hlo hlt hgt
  replace F1 := fr_ext0 F1 x3
  replace N1 := news_ext0 N1 x3
  try dsimp only at F1 N1
  k_steps
  rename Fr _ _ _ _ => F1
  rename News _ _ _ _ => N1
  have hlen := hr.length
  have hno : ∀ q : Addr × Obj, q ∈ ([] : List (Addr × Obj)) → q.1 ≠ a := fun _ hq => nomatch hq
  refine kl_insert F1 N1 (by simp only [Builtin.List.listFitsIndex]; simp; omega) rfl (Upd.head hno) (by show items.toArray.toList.length ≤ 16777216; simp; omega) ?_
  intro h4 F2 N2
  k_steps
  rename Fr _ _ _ _ => F2
  rename News _ _ _ _ => N2
  have hta : (items.take lo ++ .ref xa :: items.drop lo) = kl_ins items.toArray.toList (lo : Int) (.ref xa) := by
    unfold kl_ins
    rw [if_neg (by omega), Int.toNat_natCast, Nat.min_eq_left (by simp; omega)]
  refine hQ _ (items.take lo ++ .ref xa :: items.drop lo) _ _ (ext_of_fr F2) (by rw [hta]; exact (N2 _ (.head _)).1) ?_
  rw [← insR_at pr ps lo hlo hlt hgt]
  exact ((hr'.keeps F2.keep).take lo).append (.cons ⟨_, tw, tn, rfl, F2.keep _ _ ep⟩ ((hr'.keeps F2.keep).drop lo))
set_option maxHeartbeats 8000000 in
theorem insLeft {w : World} {p : Program} {loose : List Str} {mean : ExcName → Option Value} {mg mb : Str → Option Value} {dp un : Nat} {fr : Option (List Env)} {gd : Option (List Code)} {s : Shared} {Q : Value → Shared → Prop}
   {a xa : Addr} {items : List Value} {n : Nat} {kf : Addr} {ps : List Rw} {pr : Rw}
   (hdp : dp < 700) (hun : un < 4900)
   (X : (hd.heap_39 w.params).In (hideAll s.heap [a])) (T : Top p loose mean mg mb (hideAll s.heap [a]))
   (hl : s.heap.get? a = some (lstO items.toArray n)) (hr : RowAt s.heap items ps) (hx : PairAt s.heap (.ref xa) pr) (hk : Lam0 s.heap kf) (hsz : ps.length ≤ 99) (hs : SortedW ps)
   (hQ : ∀ h' items' n' tk, Ext [a] s.heap h' → h'.get? a = some (lstO items'.toArray n') → RowAt h' items' (insL pr ps) → Q .none { s with heap := h', toks := tk }) :
   wpAny (MM w) (AA dp un fr gd) (call (.ref 213) [.ref a, .ref xa] [(Str.ofString "key", .ref kf)]) Q (fun _ _ => False) s := by
  have hM : Muts s.heap [a] := muts_one hl (mut_list _ _)
  have hr' := hr.ext (ext_hide _ [a]) hM
  have hx' := hx.ext (ext_hide _ [a]) hM
  have hk' := hk.ext (ext_hide _ [a]) hM
  refine wpAny_call ?_
  refine' enter (D := [(a, lstO items.toArray n)]) ?_ X T ?ho ?hcd ?hroom (binds := [(Str.ofString "a", .ref a), (Str.ofString "x", .ref xa), (Str.ofString "lo", .int 0 581), (Str.ofString "hi", .none), (Str.ofString "key", .ref kf)]) ?hbind ?hloc ?_ ?c1 ?c2 ?c3 ?c4
  case ho => k_is
  case hcd => k_is
  case hroom => (show dp < 1000; omega)
  case hbind => exact kp_binds (X.keeps fun b o e => of_hideAll _ e) (fun _ => rfl)
  case hloc => exact locs rfl
  case c1 => rfl
  case c2 => rfl
  case c3 => rfl
  case c4 => decide
  · intro q hq
    rw [List.mem_singleton] at hq; subst hq; exact hl
  intro g L h₁ hg F' N' X' T'
  replace hg : g = hideAll s.heap [a] := hg
  subst hg
  dsimp only
  obtain ⟨_, tw, tn, e0, ep⟩ := hx'
  cases e0
  k_steps
  refine callWith_here ?_
  k_steps
  · exact Lam0.here (hk'.keeps (by assumption : Fr _ _ _ _).keep)
  rename Fr _ _ _ _ => F1
  rename News _ _ _ _ => N1
  refine Mine.stop_out ?_
  refine lam0_call (hk'.keeps F1.keep) (F1.keep _ _ ep) (T'.nolimit.keeps F1.keep) (show dp + 1 < 900 by omega) ?_
  intro h2 tk2 x2
  replace F1 := fr_ext0 F1 x2
  replace N1 := news_ext0 N1 x2
  k_steps
  rename Fr _ _ _ _ => F1
  rename News _ _ _ _ => N1
  refine Mine.stop_out ?_
  refine bisL (n := 0) (x := pr.1) (ps := ps) (kf := kf) (items := items) (show dp + 1 < 800 by omega) (show un + 3 < 5000 by omega) (X'.keeps F1.keep) (T'.keeps F1.keep) (.inl rfl) ⟨_, (N1 _ (.head _)).1, rfl, _, rfl⟩ (hr'.keeps F1.keep) (hk'.keeps F1.keep) (by omega) hs ?_
  intro h3 t3 tk3 lo x3 hlo hlt hgt
  replace F1 := fr_ext0 F1 x3
  replace N1 := news_ext0 N1 x3
  try dsimp only at F1 N1
  k_steps
  rename Fr _ _ _ _ => F1
  rename News _ _ _ _ => N1
  have hlen := hr.length
  have hno : ∀ q : Addr × Obj, q ∈ ([] : List (Addr × Obj)) → q.1 ≠ a := fun _ hq => nomatch hq
  refine kl_insert F1 N1 (by simp only [Builtin.List.listFitsIndex]; simp; omega) rfl (Upd.head hno) (by show items.toArray.toList.length ≤ 16777216; simp; omega) ?_
  intro h4 F2 N2
  k_steps
  rename Fr _ _ _ _ => F2
  rename News _ _ _ _ => N2
  have hta : (items.take lo ++ .ref xa :: items.drop lo) = kl_ins items.toArray.toList (lo : Int) (.ref xa) := by
    unfold kl_ins
    rw [if_neg (by omega), Int.toNat_natCast, Nat.min_eq_left (by simp; omega)]
  refine hQ _ (items.take lo ++ .ref xa :: items.drop lo) _ _ (ext_of_fr F2) (by rw [hta]; exact (N2 _ (.head _)).1) ?_
  rw [← insL_at pr ps lo hlo hlt hgt]
  exact ((hr'.keeps F2.keep).take lo).append (.cons ⟨_, tw, tn, rfl, F2.keep _ _ ep⟩ ((hr'.keeps F2.keep).drop lo))
end Mine
end
section
open PySem PySem.W PyProof.Rows PySem.Calls
set_option maxRecDepth 100000
namespace Mine
theorem plainAttrs_pat : PlainAttrs "re.Pattern" :=
  ⟨⟨"object.__getattribute__", by rw [typeLookup_type, builtinLookup_eq_fast]; kernel_rfl, by decide +kernel⟩, by rw [typeLookup_type, builtinLookup_eq_fast]; kernel_rfl⟩
theorem slot_pat_search : Slot "re.Pattern" "search" "re.Pattern.search" :=
  .of (owner := "re.Pattern") (n := "search") (by rw [typeLookup_type, builtinLookup_eq_fast]; kernel_rfl) (by decide +kernel) (by decide +kernel) (by decide +kernel)
    (by first | exact .inl (by decide +kernel) | exact .inr (by decide +kernel)) (by rw [isSubtype_type]; kernel_rfl)
theorem type_pat_search : typeOf (.builtin "re.Pattern.search") = pure (.type "method_descriptor") := by show builtinType _ = _; rw [builtinType_eq_fast]; kernel_rfl
theorem entry_pat_search : entryFor table "re.Pattern.search" = some Builtin.«re.Pattern.search» := entryFor_of_tree (by kernel_rfl)
theorem owner_pat : Manifest.owners.lookup (String.ofList ['n','r','e','t','t','a','P','.','e','r'].reverse) = some Manifest.sig_re_Pattern := by kernel_rfl
theorem args_pat_search (a b : Value) : argsOk "re.Pattern.search" ⟨[a, b], []⟩ := by
  unfold argsOk; rw [signature?_of (id := "re.Pattern.search") (n := ['h', 'c', 'r', 'a', 'e', 's']) (o := ['n','r','e','t','t','a','P','.','e','r']) (by kernel_rfl) owner_pat]; kernel_rfl
theorem fillStr : (∀ w : World, hd.heap_39 w.params = hd.heap_39 w.params) ∧ PySem.Challenge.rw_uc0036_01.foot = 6 := by
  k_fill
  w_top off
  exact ⟨fun _ => rfl, rfl⟩
/-- the texts that go about -/
noncomputable def texts : List (Array Nat) := [#[102, 97, 98], #[97], #[98], #[99], #[100], #[101], #[102], #[65], #[66], #[67], #[68], #[69], #[70]]
theorem search_name (w : World) (t : Tok) : ∀ c ∈ texts, peek (hd.heap_39 w.params) ⟨PySem.Challenge.rw_uc0036_01.prog, w.params⟩ (Builtin.«re.Pattern.search» ⟨[.ref 48, .str ⟨c⟩ t], []⟩) = some (.done (.ret .none)) := by
  intro c hc
  simp only [texts, List.mem_cons, List.not_mem_nil, or_false] at hc
  rcases hc with rfl | rfl | rfl | rfl | rfl | rfl | rfl | rfl | rfl | rfl | rfl | rfl | rfl
  all_goals kernel_rfl
theorem search_value (w : World) (t : Tok) : ∀ c ∈ texts, peek (hd.heap_39 w.params) ⟨PySem.Challenge.rw_uc0036_01.prog, w.params⟩ (Builtin.«re.Pattern.search» ⟨[.ref 53, .str ⟨c⟩ t], []⟩) = some (.done (.ret .none)) := by
  intro c hc
  simp only [texts, List.mem_cons, List.not_mem_nil, or_false] at hc
  rcases hc with rfl | rfl | rfl | rfl | rfl | rfl | rfl | rfl | rfl | rfl | rfl | rfl | rfl
  all_goals kernel_rfl
theorem pat48 (w : World) : ∃ o, (hd.heap_39 w.params).lookup 48 = some o ∧ o.cls = .type "re.Pattern" ∧ o.dict = none := ⟨_, rfl, rfl, rfl⟩
theorem pat53 (w : World) : ∃ o, (hd.heap_39 w.params).lookup 53 = some o ∧ o.cls = .type "re.Pattern" ∧ o.dict = none := ⟨_, rfl, rfl, rfl⟩
theorem pat_method {w : World} {A : Around} {E : Value → Shared → Prop} {s : Shared} {a : Addr} {pl : Sem Bool} {Q : Value × List Value → Shared → Prop} (ho : ∃ o, s.heap.get? a = some o ∧ o.cls = .type "re.Pattern" ∧ o.dict = none)
    (h : Q (.builtin "re.Pattern.search", [.ref a]) s) : wpAny (MM w) A (getMethod (.ref a) (Str.ofString "search") pl) Q E s := by
  obtain ⟨o, h1, h2, h3⟩ := ho
  exact getMethod_builtin ⟨_, h1, h2⟩ plainAttrs_pat slot_pat_search type_pat_search (fun a e => by cases e; exact ⟨_, h1, h3⟩) h
theorem pat_call {w : World} {A : Around} {E : Value → Shared → Prop} {s : Shared} {a : Addr} {c : Array Nat} {t : Tok} {Q : Value → Shared → Prop} (X : (hd.heap_39 w.params).In s.heap) (ha : a = 48 ∨ a = 53) (hc : c ∈ texts) (h : Q .none s) :
    wpAny (MM w) A (call (.builtin "re.Pattern.search") [.ref a, .str ⟨c⟩ t]) Q E s := by
  rcases ha with rfl | rfl
  · obtain ⟨o, h1, h2, h3⟩ := pat48 w
    exact wpAny_call_entry slot_pat_search ⟨_, X _ _ h1, h2⟩ entry_pat_search (Looks.here (Looks.of_peek X (search_name w t c hc)) ⟨_, rfl, h⟩) (args_pat_search _ _)
  · obtain ⟨o, h1, h2, h3⟩ := pat53 w
    exact wpAny_call_entry slot_pat_search ⟨_, X _ _ h1, h2⟩ entry_pat_search (Looks.here (Looks.of_peek X (search_value w t c hc)) ⟨_, rfl, h⟩) (args_pat_search _ _)
local macro_rules | `(tactic| walk_at "eval Name") => `(tactic| (k_here; k_dflt (refine' nameX_L ?F ?v ?_ ?a ?b; (case F => k_asm); (case a => rfl); (case b => rfl); (case v => assumption); k_whole)))
set_option maxHeartbeats 8000000 in
theorem conv {w : World} {p : Program} {loose : List Str} {mean : ExcName → Option Value} {mg mb : Str → Option Value} {dp un : Nat} {fr : Option (List Env)} {gd : Option (List Code)} {s : Shared} {Q : Value → Shared → Prop}
   {self : Value} {c : Array Nat} {t : Tok} {b : Bool} (hc : c ∈ texts)
   (hdp : dp < 900) (hun : un < 5000)
   (X : (hd.heap_39 w.params).In s.heap) (T : Top p loose mean mg mb s.heap) 
   (hQ : ∀ h' tk, Ext [] s.heap h' → Q (.str ⟨c⟩ t) { s with heap := h', toks := tk }) :
   wpAny (MM w) (AA dp un fr gd) (call (.ref 83) [self, .str ⟨c⟩ t] [(Str.ofString "name", .bool b)]) Q (fun _ _ => False) s := by
  refine wpAny_call ?_
  refine' enter (D := []) (by simp) X T ?ho ?hcd ?hroom (binds := [(Str.ofString "self", self), (Str.ofString "value", .str ⟨c⟩ t), (Str.ofString "name", .bool b)]) ?hbind ?hloc ?_ ?c1 ?c2 ?c3 ?c4
  case ho => k_is
  case hcd => k_is
  case hroom => (show dp < 1000; omega)
  case hbind => exact kp_binds X (fun _ => rfl)
  case hloc => exact locs rfl
  case c1 => rfl
  case c2 => rfl
  case c3 => rfl
  case c4 => decide
  intro g L h₁ hg F' N' X' T'
  replace hg : g = s.heap := hg
  subst hg
  dsimp only
  cases b
  · k_steps
    rename Fr _ _ _ _ => F1
    rename News _ _ _ _ => N1
    refine pat_method ((pat53 w).imp fun o h => ⟨X'.keeps F1.keep _ _ h.1, h.2⟩) ?_
    k_steps
    refine pat_call (X'.keeps F1.keep) (.inr rfl) hc ?_
    k_steps
    exact hQ _ _ (ext_of_keep F1.keep)
  · k_steps
    rename Fr _ _ _ _ => F1
    rename News _ _ _ _ => N1
    refine pat_method ((pat48 w).imp fun o h => ⟨X'.keeps F1.keep _ _ h.1, h.2⟩) ?_
    k_steps
    refine pat_call (X'.keeps F1.keep) (.inl rfl) hc ?_
    k_steps
    exact hQ _ _ (ext_of_keep F1.keep)
end Mine
end
section
open PySem PySem.W PyProof.Rows PySem.Calls
set_option maxRecDepth 100000
namespace Mine
open LCg LCt
theorem compEnd_mono {h₀ : Heap} {L I C D : Addr} {m : Str → Option Value} {s₁ s₂ : Shared} {oI oC oD : Obj} {S : List (Addr × Obj) → Prop} {r r' : Value → List (Addr × Obj) → Prop} {y : Value}
    (x : CompEnd h₀ L m s₁ I oI C oC D oD S r y s₂) (k : ∀ news, r y news → r' y news) : CompEnd h₀ L m s₁ I oI C oC D oD S r' y s₂ := by
  obtain ⟨h', tk, nw, e, F, N, o, hS, q⟩ := x
  exact ⟨h', tk, nw, e, F, N, o, hS, k _ q⟩
theorem comp_T {prog : Program} {w : World} {A : Around} {h₀ : Heap} {L : Addr} {m : Str → Option Value} {env : Env} {ct elt : Expr} {x : Str} {scope : Scope} {cl : List (Str × Addr)} {s : Shared} {S : List (Addr × Obj) → Prop} {P : Nat → Value → Prop}
    {Fin : List Value → List (Addr × Obj) → Prop} {news : List (Addr × Obj)} (n : Nat) (J : Nat → List Value → Prop)
    (step : ∀ i ys, i < n → J i ys → ∀ v I oI C oC D m₂ h tk (E' : Value → Shared → Prop), P i v → NsObj oC m₂ → m₂ x = some v → Fr h₀ L h m → News h₀ L h ((I, oI) :: (C, oC) :: (D, lst ys) :: news) → Off3 I C D news → ((@Ne Nat I C) ∧ (@Ne Nat I D) ∧ (@Ne Nat C D)) →
      wpAny (model prog w) A (isTrue ct (compEnvC scope cl C env) (eval ct (compEnvC scope cl C env))) (fun ok s' => if ok = true then
        wpAny (model prog w) A (eval elt (compEnvC scope cl C env)) (CompEnd h₀ L m { s with heap := h, toks := tk } I oI C oC D (lst ys) S (fun y news' => news' = news ∧ J (i + 1) (ys ++ [y]))) E' s'
        else CompEnd h₀ L m { s with heap := h, toks := tk } I oI C oC D (lst ys) S (fun _ news' => news' = news ∧ J (i + 1) ys) Value.none s') E' { s with heap := h, toks := tk })
    (fin : ∀ ys, J n ys → Fin ys news) : ∀ k i ys, i + k = n → J i ys → CompRestT prog w A h₀ L m env ct elt x scope cl s S P Fin k i ys news
  | 0, i, ys, e, j => fin ys (by rw [← e]; exact j)
  | k + 1, i, ys, e, j => by
    intro v I oI C oC D m₂ h tk E' h1 h2 h3 h4 h5 h6 h7
    refine wpAny_mono (step i ys (by omega) j v I oI C oC D m₂ h tk E' h1 h2 h3 h4 h5 h6 h7) (fun ok s' q => ?_) fun _ _ q => q
    split
    · rename_i hok
      rw [if_pos hok] at q
      exact wpAny_mono q (fun y s'' z => compEnd_mono z fun nw ⟨e1, e2⟩ => e1 ▸ comp_T n J step fin k (i + 1) _ (by omega) e2) fun _ _ q => q
    · rename_i hok
      rw [if_neg hok] at q
      exact compEnd_mono q fun nw ⟨e1, e2⟩ => e1 ▸ comp_T n J step fin k (i + 1) _ (by omega) e2
theorem comp_U {prog : Program} {w : World} {A : Around} {h₀ : Heap} {L : Addr} {m : Str → Option Value} {env : Env} {elt : Expr} {x : Str} {scope : Scope} {cl : List (Str × Addr)} {s : Shared} {S : List (Addr × Obj) → Prop} {P : Nat → Value → Prop}
    {Fin : List Value → List (Addr × Obj) → Prop} {news : List (Addr × Obj)} (n : Nat) (J : Nat → List Value → Prop)
    (step : ∀ i ys, i < n → J i ys → ∀ v I oI C oC D m₂ h tk (E' : Value → Shared → Prop), P i v → NsObj oC m₂ → m₂ x = some v → Fr h₀ L h m → News h₀ L h ((I, oI) :: (C, oC) :: (D, lst ys) :: news) → Off3 I C D news → ((@Ne Nat I C) ∧ (@Ne Nat I D) ∧ (@Ne Nat C D)) →
      wpAny (model prog w) A (eval elt (compEnvC scope cl C env)) (CompEnd h₀ L m { s with heap := h, toks := tk } I oI C oC D (lst ys) S (fun y news' => news' = news ∧ J (i + 1) (ys ++ [y]))) E' { s with heap := h, toks := tk })
    (fin : ∀ ys, J n ys → Fin ys news) : ∀ k i ys, i + k = n → J i ys → CompRest prog w A h₀ L m env elt x scope cl s S P Fin k i ys news
  | 0, i, ys, e, j => fin ys (by rw [← e]; exact j)
  | k + 1, i, ys, e, j => by
    intro v I oI C oC D m₂ h tk E' h1 h2 h3 h4 h5 h6 h7
    exact wpAny_mono (step i ys (by omega) j v I oI C oC D m₂ h tk E' h1 h2 h3 h4 h5 h6 h7) (fun y s' z => compEnd_mono z fun nw ⟨e1, e2⟩ => e1 ▸ comp_U n J step fin k (i + 1) _ (by omega) e2) fun _ _ q => q
end Mine
end
section
open PySem PySem.W PyProof.Rows PySem.Calls
set_option maxRecDepth 100000
namespace Mine
theorem fillHdr : (∀ w : World, hd.heap_39 w.params = hd.heap_39 w.params) ∧ PySem.Challenge.rw_uc0036_01.foot = 6 := by
  k_fill
  w_top off
  exact ⟨fun _ => rfl, rfl⟩
noncomputable def lowOf (c : Array Nat) : Array Nat := c.map fun x => if 65 ≤ x ∧ x ≤ 90 then x + 32 else x
/-- one line of the table -/
noncomputable abbrev Ln := Array Nat × Array Nat
noncomputable def LnAt (h : Heap) (v : Value) (p : Ln) : Prop := ∃ a t u, v = .ref a ∧ h.get? a = some (tupO #[.str ⟨p.1⟩ t, .str ⟨p.2⟩ u])
inductive LnsAt (h : Heap) : List Value → List Ln → Prop
  | nil : LnsAt h [] []
  | cons {v : Value} {p : Ln} {vs : List Value} {ps : List Ln} : LnAt h v p → LnsAt h vs ps → LnsAt h (v :: vs) (p :: ps)
inductive StrsV : List Value → List (Array Nat) → Prop
  | nil : StrsV [] []
  | cons {c : Array Nat} {t : Tok} {vs : List Value} {cs : List (Array Nat)} : StrsV vs cs → StrsV (.str ⟨c⟩ t :: vs) (c :: cs)
theorem StrsV.snoc {c : Array Nat} {t : Tok} : ∀ {vs : List Value} {cs : List (Array Nat)}, StrsV vs cs → StrsV (vs ++ [.str ⟨c⟩ t]) (cs ++ [c])
  | _, _, .nil => .cons .nil
  | _, _, .cons r => .cons r.snoc
theorem StrsV.length : ∀ {vs : List Value} {cs : List (Array Nat)}, StrsV vs cs → vs.length = cs.length
  | _, _, .nil => rfl
  | _, _, .cons r => by rw [List.length_cons, List.length_cons, r.length]
theorem hide_none {h : Heap} {S : List Addr} {D : Addr} (e : (hideAll h S).get? D = none) (n : D ∉ S) : h.get? D = none := by
  cases q : h.get? D with
  | none => rfl
  | some o => rw [hideAll_get _ q n] at e; cases e
theorem ext_same {h h' : Heap} {L : Addr} {m : Str → Option Value} {S : List Addr} (F : Fr (hideAll h S) L h' m) (k : ∀ a ∈ S, ∀ o, h.get? a = some o → h'.get? a = some o) : Ext [] h h' := fun b o e _ => by
  by_cases q : b ∈ S
  · exact k b q o e
  · exact F.keep b o (hideAll_get _ e q)
theorem LnAt.keeps {h h' : Heap} {v : Value} {p : Ln} (x : LnAt h v p) (k : ∀ b o, h.get? b = some o → h'.get? b = some o) : LnAt h' v p :=
  let ⟨a, tw, tn, e, r⟩ := x; ⟨a, tw, tn, e, k _ _ r⟩
theorem LnsAt.keeps {h h' : Heap} (k : ∀ b o, h.get? b = some o → h'.get? b = some o) : ∀ {vs : List Value} {ps : List Ln}, LnsAt h vs ps → LnsAt h' vs ps
  | _, _, .nil => .nil
  | _, _, .cons x r => .cons (x.keeps k) (r.keeps k)
theorem LnsAt.length {h : Heap} : ∀ {vs : List Value} {ps : List Ln}, LnsAt h vs ps → vs.length = ps.length
  | _, _, .nil => rfl
  | _, _, .cons _ r => by rw [List.length_cons, List.length_cons, r.length]
theorem LnsAt.get {h : Heap} : ∀ {vs : List Value} {ps : List Ln}, LnsAt h vs ps → ∀ {i : Nat}, i < ps.length → ∃ v p, vs[i]? = some v ∧ ps[i]? = some p ∧ LnAt h v p
  | _, _, .nil, i, hi => absurd hi (Nat.not_lt_zero _)
  | _, _, .cons x r, 0, _ => ⟨_, _, rfl, rfl, x⟩
  | _, _, .cons x r, i + 1, hi => by
    obtain ⟨v, p, e1, e2, e3⟩ := r.get (i := i) (by simpa using hi)
    exact ⟨v, p, by simpa using e1, by simpa using e2, e3⟩
/-- whom a name has -/
noncomputable def gets (H : List Ln) (c : Array Nat) : List (Array Nat) := (H.filter fun p => lowOf p.1 == c).map (·.2)
theorem gets_take {H : List Ln} {c : Array Nat} {i : Nat} {p : Ln} (e : H[i]? = some p) : gets (H.take (i + 1)) c = gets (H.take i) c ++ (if lowOf p.1 == c then [p.2] else []) := by
  unfold gets
  rw [List.take_succ, e, List.filter_append, List.map_append]
  congr 1
  show List.map _ (List.filter _ [p]) = _
  rw [List.filter_cons]
  split <;> rfl
noncomputable abbrev hdrD (hs : Int) (n k : Nat) (hl : Addr) : Obj := dictOf [{ hash := hs, key := .str (Str.ofString "_headers") n, val := .ref hl }] k
theorem lowOf_texts : ∀ c ∈ texts, lowOf c ∈ texts := by decide +kernel
theorem lower_texts : ∀ c ∈ texts, Txt.lower ⟨c⟩ = ⟨lowOf c⟩ := by
  intro c hc
  simp only [texts, List.mem_cons, List.not_mem_nil, or_false] at hc
  rcases hc with rfl | rfl | rfl | rfl | rfl | rfl | rfl | rfl | rfl | rfl | rfl | rfl | rfl
  all_goals kernel_rfl
theorem tooLong_texts : ∀ c ∈ texts, PySem.Builtin.Str.tooLong c.size = false := by decide +kernel
theorem lowerT {w : World} {A : Around} {E : Value → Shared → Prop} {s : Shared} {c : Array Nat} {t : Tok} {Q : Value → Shared → Prop} (hc : c ∈ texts) (h : ∀ t' k, lowOf c ∈ texts → Q (.str ⟨lowOf c⟩ t') { s with toks := k }) :
    wpAny (MM w) A (call (.builtin "str.lower") [.str ⟨c⟩ t]) Q E s :=
  KXw.lower (lower_texts c hc) (by rw [lower_texts c hc]; exact tooLong_texts _ (lowOf_texts _ hc)) fun t' k => h t' k (lowOf_texts _ hc)
local macro_rules | `(tactic| walk_at "call builtin:str.lower") => `(tactic| (refine Mine.lowerT (by assumption) ?_; intro _ _ _))
local macro_rules | `(tactic| walk_at "eval ListComp") => `(tactic| refine Mine.stop_in ?_)
local macro_rules | `(tactic| walk_at "CompSrcT") => `(tactic| refine Mine.stop_in ?_)
local macro_rules | `(tactic| walk_at "CompSrc") => `(tactic| refine Mine.stop_in ?_)
local macro_rules | `(tactic| walk_at "call ref") => `(tactic| refine Mine.stop_in ?_)
set_option maxHeartbeats 8000000 in
theorem getAll {w : World} {p : Program} {loose : List Str} {mean : ExcName → Option Value} {mg mb : Str → Option Value} {dp un : Nat} {fr : Option (List Env)} {gd : Option (List Code)} {s : Shared} {Q : Value → Shared → Prop}
   {tb dx hl : Addr} {items : List Value} {n n1 k1 : Nat} {hs : Int} {H : List Ln} {up : Array Nat} {t : Tok}
   (hdp : dp < 800) (hun : un < 4900) (hup : up ∈ texts) (hH : ∀ q ∈ H, q.1 ∈ texts) (hsz : H.length ≤ 1000)
   (X : (hd.heap_39 w.params).In (hideAll s.heap [tb, dx, hl])) (T : Top p loose mean mg mb (hideAll s.heap [tb, dx, hl]))
   (h1 : s.heap.get? tb = some (instObj 182 dx)) (h2' : s.heap.get? dx = some (hdrD hs n1 k1 hl)) (h3 : s.heap.get? hl = some (lstO items.toArray n)) (hr : LnsAt (hideAll s.heap [tb, dx, hl]) items H)
   (hQ : ∀ h' D ys tk, Ext [] s.heap h' → s.heap.get? D = none → h'.get? D = some (LCg.lst ys) → StrsV ys (gets H (lowOf up)) → Q (.ref D) { s with heap := h', toks := tk }) :
   wpAny (MM w) (AA dp un fr gd) (call (.ref 121) [.ref tb, .str ⟨up⟩ t]) Q (fun _ _ => False) s := by
  refine wpAny_call ?_
  refine' enterC (D := [(tb, instObj 182 dx), (dx, hdrD hs n1 k1 hl), (hl, lstO items.toArray n)]) ?_ X T ?ho ?hcd ?hroom (binds := [(Str.ofString "self", .ref tb), (Str.ofString "name", .str ⟨up⟩ t)]) ?hbind ?hkind ?hnd ?_ ?c1 ?c2 ?c3
  case ho => k_is
  case hcd => k_is
  case hroom => (show dp < 1000; omega)
  case hbind => exact BindsTo.of_eq rfl
  case hkind => rfl
  case hnd => decide +kernel
  case c1 => rfl
  case c2 => rfl
  case c3 => rfl
  · exact all_c h1 (all_c h2' (all_c h3 all_n))
  intro g L h₁ tk cells hg F' N' Y X' T' hlt
  replace hg : g = hideAll s.heap [tb, dx, hl] := hg
  subst hg
  dsimp only
  k_cells Y
  (try simp only [List.cons_append, List.nil_append] at N')
  k_steps
  rename Fr _ _ _ _ => F1
  rename News _ _ _ _ => N1
  refine Mine.stop_out ?_
  refine conv (c := lowOf up) (by assumption) (show dp + 1 < 900 by omega) (show un + 3 < 5000 by omega) (X'.keeps F1.keep) (T'.keeps F1.keep) ?_
  intro h2 tk2 x2
  replace F1 := fr_ext0 F1 x2
  replace N1 := news_ext0 N1 x2
  k_steps
  refine Mine.stop_out ?_
  k_dflt (refine LCt.ListComp_T (F₀ := by k_asm) (by with_unfolding_all rfl) (by decide) (by rfl) (by decide) (by rfl) ?_)
  k_steps
  rename Fr _ _ _ _ => F2
  rename News _ _ _ _ => N2
  have hlen := hr.length
  simp only [List.nil_append] at N2
  refine Mine.stop_out ?_
  refine LCt.CompSrcT.ledger rfl F2 N2 (by k_mem) (by show items.toArray.size ≤ 16777216; rw [List.size_toArray]; omega) ?_
  intro g'
  refine comp_T (items.toArray.size) (fun i ys => StrsV ys (gets (H.take i) (lowOf up))) ?_ ?_ _ 0 [] (by simp) .nil
  · intro i ys hi hys v I oI C oC D m₂ h tk E' hv hC hx F3 N3 hoff hne
    rw [List.size_toArray] at hi
    obtain ⟨v', p, e1, e2, ep⟩ := hr.get (i := i) (by omega)
    obtain rfl : v' = v := by simpa [e1] using hv
    obtain ⟨pa, ta, tb', rfl, ep⟩ := ep
    have hp : p.1 ∈ texts := hH _ (List.mem_of_getElem? e2)
    have ep3 := F3.keep _ _ ep
    k_steps
    refine item_tupleT (l := [.str ⟨p.1⟩ ta, .str ⟨p.2⟩ tb']) (j := 0) ⟨_, ep3, rfl, _, rfl⟩ (by decide) (by decide) rfl rfl ?_
    k_steps
    · refine item_tupleT (l := [.str ⟨p.1⟩ ta, .str ⟨p.2⟩ tb']) (j := 1) ⟨_, ep3, rfl, _, rfl⟩ (by decide) (by decide) rfl rfl ?_
      refine LCg.CompEnd.intro F3 N3 _ (fun q hq => hq) hoff (.inr ⟨_, by k_mem, rfl, _, rfl⟩) ⟨rfl, ?_⟩
      have hq : (({ cps := lowOf p.1 } : Str) == { cps := lowOf up }) = true := by assumption
      rw [gets_take e2, if_pos (beq_iff_eq.mpr (congrArg Str.cps (beq_iff_eq.mp hq)))]
      exact hys.snoc
    · refine LCg.CompEnd.intro F3 N3 _ (fun q hq => hq) hoff (.inr ⟨_, by k_mem, rfl, _, rfl⟩) ⟨rfl, ?_⟩
      have hq : (({ cps := lowOf p.1 } : Str) == { cps := lowOf up }) = false := by assumption
      rw [gets_take e2, if_neg (fun hc => by rw [beq_iff_eq.mp hc] at hq; simp at hq), List.append_nil]
      exact hys
  · intro ys hys D h tk F3 N3 off
    refine hQ _ _ ys _ (ext_same F3 ?_) (hide_none (N3 _ (.head _)).2.2 ?_) (N3 _ (.head _)).1 ?_
    · exact all_c (fun o e => by rw [h1] at e; cases e; exact (N3 (_, instObj 182 _) (by k_mem)).1)
        (all_c (fun o e => by rw [h2'] at e; cases e; exact (N3 (_, hdrD hs n1 k1 _) (by k_mem)).1)
        (all_c (fun o e => by rw [h3] at e; cases e; exact (N3 (_, lstO items.toArray n) (by k_mem)).1) all_n))
    · intro ha
      simp only [LCg.Off1, and_true] at off
      simp only [List.mem_cons, List.not_mem_nil, or_false] at ha
      rcases ha with rfl | rfl | rfl <;> simp_all
    · rw [List.size_toArray, hlen, List.take_length] at hys
      exact hys
end Mine
end
section
open PySem PySem.W PyProof.Rows PySem.Calls PySem.Spec PyProof.V
set_option maxRecDepth 100000
namespace Mine
theorem wp_of_alloc {α : Type} {K : Frag} {M : Model} {A : Around} {E : Value → Shared → Prop} {Q : α → Shared → Prop} {s : Shared} {o : Obj} (X : K.In s.heap) :
    ∀ (t : Sem α) (g : Addr → Sem α), peekA K ⟨M.prog, M.w.params⟩ t = some (o, g) → wpAny M A (g s.heap.objs.size) Q E { s with heap := s.heap.push o } → wpAny M A t Q E s := by
  intro t
  induction t with
  | rule _ k ih => intro g e q Γ p hΓ; exact ih () g e q Γ p hΓ
  | point _ k ih => intro g e q Γ p hΓ; exact ih () g e q Γ p hΓ
  | ask k ih => intro g e q Γ p hΓ; exact ih _ g e q Γ p hΓ
  | load a _ k ih =>
    intro g e q Γ p hΓ
    simp only [peekA] at e
    split at e
    · rename_i ob ho; exact ⟨ob, X _ _ ho, ih ob g e q Γ p hΓ⟩
    · cases e
  | alloc ob k _ =>
    intro g e q
    have e : some (ob, k) = some (o, g) := e
    obtain ⟨e1, e2⟩ := Prod.mk.inj (Option.some.inj e)
    subst e1
    subst e2
    show wpAny M A (alloc ob >>= k) Q E s
    exact wpAny_bind (wpAny_alloc q)
  | _ => intro g e; cases e
theorem enterM {w : World} {p : Program} {loose : List Str} {mean : ExcName → Option Value} {mg mb : Str → Option Value} {A : Around} {s : Shared} {R : Result → Shared → Prop}
    {name qual : Str} {params : Arguments} {body : List Stmt} {scope : Scope} {dV kV doc pm cdv ct oc : Value} {an od : Option Addr} {osl : Array (Option Value)} {f : Addr} {args : Args} {front : List (Str × Value)} {nm : Str} {g₁ : Addr → Sem (List (Str × Value))} {D : List (Addr × Obj)}
    (hD : ∀ p ∈ D, s.heap.get? p.1 = some p.2) (X : (hd.heap_39 w.params).In (hideAll s.heap (D.map (·.1)))) (T : Top p loose mean mg mb (hideAll s.heap (D.map (·.1))))
    (ho : (hd.heap_39 w.params).lookup f = some ⟨oc, od, .func (fnOf name qual params body scope dV kV doc pm an cdv ct), osl⟩) (hcd : codeIn (hd.heap_39 w.params) cdv qual = true) (hroom : A.depth < recursionLimit)
    (hp : peekA (hd.heap_39 w.params) ⟨PySem.Challenge.rw_uc0036_01.prog, w.params⟩ (bindArgs (fnOf name qual params body scope dV kV doc pm an cdv ct) args) = some (dictOf [] 0, g₁))
    (hk₁ : ∀ D, g₁ D = pure (front ++ [(nm, Value.ref D)]))
    (hloc : ∀ D, ∀ y ∈ front ++ [(nm, Value.ref D)], scope.names.lookup y.1 = some .local)
    (h : ∀ g C o L h₁ tk, g = hideAll s.heap (D.map (·.1)) → s.heap.get? C = none → (∀ p ∈ D, p.1 < C) → (C == sysModules) = false → o.IsDictOf (strKind PySem.Challenge.rw_uc0036_01.prog w) [] → FlatPairs PyData.str [] [] → Fr g L h₁ (fun y => (front ++ [(nm, Value.ref C)]).reverse.lookup y) → News g L h₁ ((C, o) :: D) → (hd.heap_39 w.params).In g → Top p loose mean mg mb g →
      wpAny (MM w) (A.deeper (envOf qual scope L f cdv)) (execs body (envOf qual scope L f cdv))
        (fun fl s' => R (.ok (.ret (match fl with | .ret v => v | _ => .none))) s') (fun _ _ => False)
        { s with heap := h₁, toks := tk })
    (hco : scope.isCoroutine = false) (hgen : scope.isGenerator = false) (hk : scope.kind = .function)
    (hcell : ∀ x ∈ scope.names, x.2 ≠ .cell) : codeAny (MM w) A (.call (.ref f) args) R s := by
  have keep : ∀ b o, (hideAll s.heap (D.map (·.1))).get? b = some o → s.heap.get? b = some o := fun b o e => of_hideAll _ e
  refine codeAny_call_function (fd := fnOf name qual params body scope dV kV doc pm an cdv ct) (body := body) hroom (keep _ _ (X _ _ ho)) rfl hco hgen rfl (codeRec_of (X.keeps keep) hcd) ?_
  refine wp_of_alloc (X.keeps keep) _ g₁ hp ?_
  rw [hk₁]
  have up : ∀ b o, s.heap.get? b = some o → (s.heap.push (dictOf [] 0)).get? b = some o := fun b o e => Heap.get?_push_of_some _ e
  have hN : (T.nolimit.keeps keep) = (T.nolimit.keeps keep) := rfl
  refine wpAny_pure (wpAny_newFunctionEnv hcell (hloc _) (fun h₀ hns₀ hsb₀ => ⟨((T.nolimit.keeps keep).keeps up).fresh _ hsb₀, codeAny_func ?_⟩) hk)
  have hk₁' : ∀ b o, (s.heap.push (dictOf [] 0)).get? b = some o → h₀.get? b = some o := fun b o e => hsb₀.extBut b o (Nat.ne_of_lt (Heap.lt_size e)) (Heap.get?_push_of_some _ e)
  have hfresh : s.heap.get? s.heap.objs.size = none := by
    cases q : s.heap.get? s.heap.objs.size with
    | none => rfl
    | some o => exact absurd (Heap.lt_size q) (Nat.lt_irrefl _)
  have hC : h₀.get? s.heap.objs.size = some (dictOf [] 0) := hk₁' _ _ (Heap.get?_push_size _ rfl)
  refine wpAny_mono (h _ s.heap.objs.size (dictOf [] 0) _ h₀ _ rfl hfresh (fun p hp => Heap.lt_size (hD p hp)) (beq_eq_false_iff_ne.mpr (Nat.ne_of_gt (modules_low (T.nolimit.keeps keep)))) (kp_isDict (ex := []) 0 0 .nil) .nil
    ⟨hns₀, fun b o e => hk₁' b o (up b o (keep b o e)), ?_⟩ (fun p hp => ?_) X T) (fun _ _ x => x) fun _ _ x => x.elim
  · rw [hideAll_size]; show s.heap.objs.size ≤ (s.heap.push _).objs.size; rw [Heap.size_push]; exact Nat.le_succ _
  · rcases List.mem_cons.mp hp with rfl | hp
    · refine ⟨hC, Nat.ne_of_lt (Heap.lt_size (Heap.get?_push_size _ rfl)), ?_⟩
      cases q : (hideAll s.heap (D.map (·.1))).get? s.heap.objs.size with
      | none => rfl
      | some o => rw [keep _ _ q] at hfresh; cases hfresh
    · exact ⟨hk₁' _ _ (up _ _ (hD p hp)), Nat.ne_of_lt (Heap.lt_size (up _ _ (hD p hp))), hideAll_none _ (List.mem_map_of_mem hp)⟩
theorem ext_same' {h h' : Heap} {L : Addr} {m : Str → Option Value} {S S' : List Addr} (F : Fr (hideAll h S) L h' m) (k : ∀ a ∈ S, a ∉ S' → ∀ o, h.get? a = some o → h'.get? a = some o) : Ext S' h h' := fun b o e n => by
  by_cases q : b ∈ S
  · exact k b q n o e
  · exact F.keep b o (hideAll_get _ e q)
theorem fillAdd : (∀ w : World, hd.heap_39 w.params = hd.heap_39 w.params) ∧ PySem.Challenge.rw_uc0036_01.foot = 6 := by
  k_fill
  w_top off
  exact ⟨fun _ => rfl, rfl⟩
local macro_rules | `(tactic| walk_at "call ref") => `(tactic| refine Mine.stop_in ?_)
set_option maxHeartbeats 8000000 in
theorem addHdr {w : World} {p : Program} {loose : List Str} {mean : ExcName → Option Value} {mg mb : Str → Option Value} {dp un : Nat} {fr : Option (List Env)} {gd : Option (List Code)} {s : Shared} {Q : Value → Shared → Prop}
   {tb dx hl : Addr} {items : List Value} {n n1 k1 : Nat} {hs : Int} {nm vl : Array Nat} {t t' : Tok}
   (hdp : dp < 800) (hun : un < 4900) (hnm : nm ∈ texts) (hvl : vl ∈ texts) (hsz : items.length ≤ 1000)
   (X : (hd.heap_39 w.params).In (hideAll s.heap [tb, dx, hl])) (T : Top p loose mean mg mb (hideAll s.heap [tb, dx, hl]))
   (h1 : s.heap.get? tb = some (instObj 182 dx)) (h2' : s.heap.get? dx = some (hdrD hs n1 k1 hl)) (h3 : s.heap.get? hl = some (lstO items.toArray n))
   (hQ : ∀ h' d tk, Ext [hl] s.heap h' → h'.get? hl = some (lstO (items ++ [Value.ref d]).toArray (n + 1)) → LnAt h' (.ref d) (nm, vl) → Q .none { s with heap := h', toks := tk }) :
   wpAny (MM w) (AA dp un fr gd) (call (.ref 179) [.ref tb, .str ⟨nm⟩ t, .str ⟨vl⟩ t']) Q (fun _ _ => False) s := by
  refine wpAny_call ?_
  refine' enterM (D := [(tb, instObj 182 dx), (dx, hdrD hs n1 k1 hl), (hl, lstO items.toArray n)]) ?_ X T ?ho ?hcd ?hroom (front := [(Str.ofString "self", .ref tb), (Str.ofString "_name", .str ⟨nm⟩ t), (Str.ofString "_value", .str ⟨vl⟩ t')]) ?hp ?hk1 ?hloc ?_ ?c1 ?c2 ?c3 ?c4
  case ho => k_is
  case hcd => k_is
  case hroom => (show dp < 1000; omega)
  case hp => exact rfl
  case hk1 => exact fun _ => rfl
  case hloc => exact fun _ => locs rfl
  case c1 => rfl
  case c2 => rfl
  case c3 => rfl
  case c4 => decide
  · exact all_c h1 (all_c h2' (all_c h3 all_n))
  intro g C o L h₁ tk hg hC hlt hsys hdo hfl F' N' X' T'
  replace hg : g = hideAll s.heap [tb, dx, hl] := hg
  subst hg
  dsimp only
  have ne1 : @Ne Nat tb hl := ne_of_obj h1 h3 (by show Value.ref _ ≠ Value.type _; simp)
  have ne2 : @Ne Nat dx hl := ne_of_obj h2' h3 (by show Value.type "dict" ≠ Value.type "list"; decide)
  have ne3 : @Ne Nat tb dx := ne_of_obj h1 h2' (by show Value.ref _ ≠ Value.type _; simp)
  k_lt hlt
  have hsz2 : items.toArray.size ≤ 1000 := by simpa using hsz
  k_steps
  rename Fr _ _ _ _ => F1
  rename News _ _ _ _ => N1
  refine Mine.stop_out ?_
  refine conv (c := vl) (by assumption) (show dp + 1 < 900 by omega) (show un + 3 < 5000 by omega) (X'.keeps F1.keep) (T'.keeps F1.keep) ?_
  intro h2 tk2 x2
  replace F1 := fr_ext0 F1 x2
  replace N1 := news_ext0 N1 x2
  clear x2
  k_steps
  rename Fr _ _ _ _ => F1
  rename News _ _ _ _ => N1
  refine Mine.stop_out ?_
  refine conv (c := nm) (by assumption) (show dp + 1 < 900 by omega) (show un + 3 < 5000 by omega) (X'.keeps F1.keep) (T'.keeps F1.keep) ?_
  intro h2 tk2 x2
  replace F1 := fr_ext0 F1 x2
  replace N1 := news_ext0 N1 x2
  clear x2
  k_steps
  rename Fr _ _ _ _ => F1
  rename News _ _ _ _ => N1
  have hvs : ∀ c ∈ texts, c.size ≤ 3 := by decide +kernel
  refine join_listW (ys := [⟨vl⟩]) ⟨_, (N1 (_, listOf #[Value.str ⟨vl⟩ t'] 1) (by k_mem)).1, rfl, _, rfl⟩ (.cons _ _ .nil) (by decide) ?_ ?_
  · have := hvs vl hvl
    show (⟨vl⟩ : Str).length + 0 + 1 ≤ 1048576
    show vl.size + 0 + 1 ≤ 1048576
    omega
  k_steps
  rename Fr _ _ _ _ => F2
  rename News _ _ _ _ => N2
  have hj : Txt.join (Str.ofString "; ") [⟨vl⟩] = ⟨vl⟩ := rfl
  rw [hj] at N2
  have hg2 := (N2 (hl, W.listOf (items.toArray.push _) (n + 1)) (by k_mem)).1
  rw [List.push_toArray] at hg2
  refine hQ _ _ _ (ext_same' F2 ?_) hg2 ⟨_, _, _, rfl, (N2 _ (.head _)).1⟩
  · exact all_c (fun _ o e => by rw [h1] at e; cases e; exact (N2 (_, instObj 182 _) (by k_mem)).1)
      (all_c (fun _ o e => by rw [h2'] at e; cases e; exact (N2 (_, hdrD hs n1 k1 _) (by k_mem)).1) (all_c (fun hb => absurd (.head _) hb) all_n))
end Mine
end
section
open PySem PySem.W PyProof.Rows PySem.Calls PySem.Spec PyProof.V
set_option maxRecDepth 100000
namespace Mine
local macro_rules | `(tactic| walk_at "nothing 0") => `(tactic| skip)
theorem fillIni : (∀ w : World, hd.heap_39 w.params = hd.heap_39 w.params) ∧ PySem.Challenge.rw_uc0036_01.foot = 6 := by
  k_fill
  w_top off
  exact ⟨fun _ => rfl, rfl⟩
local macro_rules | `(tactic| walk_at "call ref") => `(tactic| refine Mine.stop_in ?_)
set_option maxHeartbeats 8000000 in
theorem itemsHdr {w : World} {p : Program} {loose : List Str} {mean : ExcName → Option Value} {mg mb : Str → Option Value} {dp un : Nat} {fr : Option (List Env)} {gd : Option (List Code)} {s : Shared} {Q : Value → Shared → Prop}
   {tb dx hl : Addr} {items : List Value} {n n1 k1 : Nat} {hs : Int}
   (hdp : dp < 800) (hun : un < 4900) (hsz : items.length ≤ 1000)
   (X : (hd.heap_39 w.params).In (hideAll s.heap [tb, dx, hl])) (T : Top p loose mean mg mb (hideAll s.heap [tb, dx, hl]))
   (h1 : s.heap.get? tb = some (instObj 182 dx)) (h2' : s.heap.get? dx = some (hdrD hs n1 k1 hl)) (h3 : s.heap.get? hl = some (lstO items.toArray n))
   (hQ : ∀ h' D tk, Ext [] s.heap h' → s.heap.get? D = none → h'.get? D = some (lstO items.toArray 0) → Q (.ref D) { s with heap := h', toks := tk }) :
   wpAny (MM w) (AA dp un fr gd) (call (.ref 146) [.ref tb]) Q (fun _ _ => False) s := by
  refine wpAny_call ?_
  refine' enter (D := [(tb, instObj 182 dx), (dx, hdrD hs n1 k1 hl), (hl, lstO items.toArray n)]) ?_ X T ?ho ?hcd ?hroom (binds := [(Str.ofString "self", .ref tb)]) ?hbind ?hloc ?_ ?c1 ?c2 ?c3 ?c4
  case ho => k_is
  case hcd => k_is
  case hroom => (show dp < 1000; omega)
  case hbind => exact BindsTo.of_eq rfl
  case hloc => exact locs rfl
  case c1 => rfl
  case c2 => rfl
  case c3 => rfl
  case c4 => decide
  · exact all_c h1 (all_c h2' (all_c h3 all_n))
  intro g L h₁ hg F' N' X' T'
  replace hg : g = hideAll s.heap [tb, dx, hl] := hg
  subst hg
  dsimp only
  have lt1 : tb < h₁.objs.size := Heap.lt_size (N' (_, instObj 182 dx) (by k_mem)).1
  have lt2 : dx < h₁.objs.size := Heap.lt_size (N' (_, hdrD hs n1 k1 hl) (by k_mem)).1
  have lt3 : hl < h₁.objs.size := Heap.lt_size (N' (_, lstO items.toArray n) (by k_mem)).1
  k_steps
  rename Fr _ _ _ _ => F2
  rename News _ _ _ _ => N2
  rw [slicePick_all] at N2
  refine hQ _ _ _ (ext_same F2 ?_) ?_ (N2 _ (.head _)).1
  · exact all_c (fun o e => by rw [h1] at e; cases e; exact (N2 (_, instObj 182 _) (by k_mem)).1)
      (all_c (fun o e => by rw [h2'] at e; cases e; exact (N2 (_, hdrD hs n1 k1 _) (by k_mem)).1)
      (all_c (fun o e => by rw [h3] at e; cases e; exact (N2 (_, lstO items.toArray n) (by k_mem)).1) all_n))
  · refine hide_none (N2 _ (.head _)).2.2 fun ha => ?_
    have hlt : ∀ a ∈ [tb, dx, hl], a < h₁.objs.size := all_c lt1 (all_c lt2 (all_c lt3 all_n))
    exact absurd (hlt _ ha) (show ¬ (h₁.objs.size + 1 < h₁.objs.size) by omega)
end Mine
end
section
open PySem PySem.W PyProof.Rows PySem.Calls PySem.Spec PyProof.V
set_option maxRecDepth 100000
namespace Mine
theorem fillWord : (∀ w : World, hd.heap_39 w.params = hd.heap_39 w.params) ∧ PySem.Challenge.rw_uc0036_01.foot = 6 := by
  k_fill
  w_top off
  exact ⟨fun _ => rfl, rfl⟩
/-- the small name, the great name of a guest -/
noncomputable abbrev nmA (i : Nat) : Array Nat := #[97 + i]
noncomputable abbrev upA (i : Nat) : Array Nat := #[65 + i]
theorem lt6 {i : Nat} (h : i < 6) : i = 0 ∨ i = 1 ∨ i = 2 ∨ i = 3 ∨ i = 4 ∨ i = 5 :=
  (by decide : ∀ i ∈ List.range 6, i = 0 ∨ i = 1 ∨ i = 2 ∨ i = 3 ∨ i = 4 ∨ i = 5) i (List.mem_range.mpr h)
theorem nm_texts {i : Nat} (h : i < 6) : nmA i ∈ texts := by rcases lt6 h with rfl | rfl | rfl | rfl | rfl | rfl <;> decide
theorem up_texts {i : Nat} (h : i < 6) : upA i ∈ texts := by rcases lt6 h with rfl | rfl | rfl | rfl | rfl | rfl <;> decide
theorem low_up {i : Nat} (h : i < 6) : lowOf (upA i) = nmA i := by rcases lt6 h with rfl | rfl | rfl | rfl | rfl | rfl <;> decide +kernel
theorem low_nm {i : Nat} (h : i < 6) : lowOf (nmA i) = nmA i := by rcases lt6 h with rfl | rfl | rfl | rfl | rfl | rfl <;> decide +kernel
theorem upper_nm {i : Nat} (h : i < 6) : Txt.upper ⟨nmA i⟩ = ⟨upA i⟩ := by rcases lt6 h with rfl | rfl | rfl | rfl | rfl | rfl <;> kernel_rfl
theorem upperT {w : World} {A : Around} {E : Value → Shared → Prop} {s : Shared} {i : Nat} {t : Tok} {Q : Value → Shared → Prop} (hi : i < 6) (h : ∀ t' k, Q (.str ⟨upA i⟩ t') { s with toks := k }) :
    wpAny (MM w) A (call (.builtin "str.upper") [.str ⟨nmA i⟩ t]) Q E s :=
  KXw.upper (upper_nm hi) (by rw [upper_nm hi]; rfl) h
noncomputable abbrev Gs := Nat → Nat × Nat
noncomputable def GAt (h : Heap) (ga : Addr) (G : Gs) : Prop := ∃ items : List Value, h.IsList ga items.toArray ∧ items.length = 6 ∧ ∀ i, i < 6 → ∃ a tw tm, items[i]? = some (Value.ref a) ∧ h.get? a = some (tupO #[.int (G i).1 tw, .int (G i).2 tm])
theorem GAt.keeps {h h' : Heap} {ga : Addr} {G : Gs} (x : GAt h ga G) (k : ∀ b o, h.get? b = some o → h'.get? b = some o) : GAt h' ga G := by
  obtain ⟨items, hl, h6, hi⟩ := x
  exact ⟨items, stays_list k hl, h6, fun i h => let ⟨a, tw, tm, e1, e2⟩ := hi i h; ⟨a, tw, tm, e1, k _ _ e2⟩⟩
/-- the word of one who still wishes for l, with the mark m -/
noncomputable def wd (l m : Nat) : List UInt8 := digs (4096 * (l + 1) + m) 4
theorem num_abs {wi mk c : Nat} (h : c ≤ wi) : ((1 - 2 * (mk : Int).fmod 2) * (4096 * ((wi : Int) + 1 - c) + mk)).natAbs = 4096 * (wi - c + 1) + mk := by
  have e : (4096 * ((wi : Int) + 1 - c) + mk) = ((4096 * (wi - c + 1) + mk : Nat) : Int) := by omega
  rw [e, Int.natAbs_mul, Int.natAbs_natCast, Int.fmod_eq_emod_of_nonneg _ (by decide)]
  have h2 : (1 - 2 * ((mk : Int) % 2)).natAbs = 1 := by rcases Int.emod_two_eq (mk : Int) with q | q <;> rw [q] <;> rfl
  rw [h2, Nat.one_mul]
theorem dgt {k q m : Nat} (hk : 0 < k) : (k * (16 * q) + m) / k % 16 = m / k % 16 := by rw [Nat.mul_add_div hk, Nat.mul_add_mod]
theorem wd_eq {l m : Nat} (hl : l < 6) (hm : m < 4096) : wd l m = [(66 + l).toUInt8, (65 + m / 256).toUInt8, (65 + m / 16 % 16).toUInt8, (65 + m % 16).toUInt8] := by
  unfold wd
  simp only [digs]
  have e1 : (4096 * (l + 1) + m) / 16 ^ 3 % 16 = l + 1 := by
    rw [show (16 : Nat) ^ 3 = 4096 from rfl, Nat.mul_add_div (by decide), Nat.div_eq_of_lt hm]
    exact Nat.mod_eq_of_lt (Nat.lt_of_lt_of_le (Nat.succ_lt_succ hl) (by decide))
  have e2 : (4096 * (l + 1) + m) / 16 ^ 2 % 16 = m / 256 := by
    rw [show 4096 * (l + 1) = 256 * (16 * (l + 1)) from Nat.mul_assoc 256 16 (l + 1), show (16 : Nat) ^ 2 = 256 from rfl, dgt (by decide)]
    exact Nat.mod_eq_of_lt (Nat.div_lt_of_lt_mul hm)
  have e3 : (4096 * (l + 1) + m) / 16 ^ 1 % 16 = m / 16 % 16 := by
    rw [show 4096 * (l + 1) = 16 * (16 * (16 * (l + 1))) from by rw [← Nat.mul_assoc, ← Nat.mul_assoc], show (16 : Nat) ^ 1 = 16 from rfl, dgt (by decide)]
  have e4 : (4096 * (l + 1) + m) / 16 ^ 0 % 16 = m % 16 := by
    rw [show 4096 * (l + 1) = 16 * (256 * (l + 1)) from Nat.mul_assoc 16 256 (l + 1), show (16 : Nat) ^ 0 = 1 from rfl, Nat.div_one, Nat.mul_add_mod]
  rw [e1, e2, e3, e4, show 65 + (l + 1) = 66 + l by omega]
local macro_rules | `(tactic| walk_at "call ref") => `(tactic| refine Mine.stop_in ?_)
local macro_rules | `(tactic| walk_at "call builtin:str.upper") => `(tactic| (refine Mine.upperT (by assumption) ?_; intro _ _))
local macro_rules | `(tactic| walk_at "call builtin:ord") => `(tactic| (refine PyProof.P.ord_of_char ?_))
set_option maxHeartbeats 8000000 in
theorem lawWord {w : World} {p : Program} {loose : List Str} {mean : ExcName → Option Value} {mg mb : Str → Option Value} {dp un : Nat} {fr : Option (List Env)} {gd : Option (List Code)} {s : Shared} {Q : Value → Shared → Prop}
   {tb dx hl ga : Addr} {items : List Value} {n n1 k1 i : Nat} {hs : Int} {H : List Ln} {G : Gs} {t : Tok}
   (hdp : dp < 700) (hun : un < 4800) (hi : i < 6) (hH : ∀ q ∈ H, q.1 ∈ texts) (hsz : H.length ≤ 1000)
   (X : (hd.heap_39 w.params).In (hideAll s.heap [tb, dx, hl])) (T : Top p loose mean mg mb (hideAll s.heap [tb, dx, hl]))
   (h1 : s.heap.get? tb = some (instObj 182 dx)) (h2' : s.heap.get? dx = some (hdrD hs n1 k1 hl)) (h3 : s.heap.get? hl = some (lstO items.toArray n)) (hr : LnsAt (hideAll s.heap [tb, dx, hl]) items H)
   (hG : GAt (hideAll s.heap [tb, dx, hl]) ga G) (hb1 : (G i).1 < 6) (hb2 : (G i).2 < 4096) (hcnt : (gets H (nmA i)).length ≤ (G i).1)
   (hQ : ∀ h' t' tk, Ext [] s.heap h' → Q (.bytes (wd ((G i).1 - (gets H (nmA i)).length) (G i).2).toArray t') { s with heap := h', toks := tk }) :
   wpAny (MM w) (AA dp un fr gd) (call (.ref 236) [.ref ga, .ref tb, .str ⟨nmA i⟩ t]) Q (fun _ _ => False) s := by
  refine wpAny_call ?_
  refine' enter (D := [(tb, instObj 182 dx), (dx, hdrD hs n1 k1 hl), (hl, lstO items.toArray n)]) ?_ X T ?ho ?hcd ?hroom (binds := [(Str.ofString "guests", .ref ga), (Str.ofString "table", .ref tb), (Str.ofString "name", .str ⟨nmA i⟩ t)]) ?hbind ?hloc ?_ ?c1 ?c2 ?c3 ?c4
  case ho => k_is
  case hcd => k_is
  case hroom => (show dp < 1000; omega)
  case hbind => exact BindsTo.of_eq rfl
  case hloc => exact locs rfl
  case c1 => rfl
  case c2 => rfl
  case c3 => rfl
  case c4 => decide
  · exact all_c h1 (all_c h2' (all_c h3 all_n))
  intro g L h₁ hg F' N' X' T'
  replace hg : g = hideAll s.heap [tb, dx, hl] := hg
  subst hg
  dsimp only
  k_steps
  obtain ⟨gits, hgl, hg6, hgi⟩ := hG
  obtain ⟨ia, tw, tm, e1, e2⟩ := hgi i hi
  rename Fr _ _ _ _ => F1
  rename News _ _ _ _ => N1
  have hix : (((97 + i : Nat) : Int) - 97) = (i : Int) := by omega
  rw [hix]
  have hi0 : (0 : Int) ≤ (i : Int) := Int.natCast_nonneg i
  have hi1 : (i : Int) < 2 ^ 63 := by omega
  have hi2 : gits.toArray[((i : Nat) : Int).toNat]? = some (Value.ref ia) := by simpa using e1
  refine item_list (stays_list F1.keep hgl) hi0 hi1 hi2 ?_
  have e3 : IsTup _ ia #[.int (G i).1 tw, .int (G i).2 tm] := ⟨_, F1.keep _ _ e2, rfl, _, rfl⟩
  refine unpackN_ F1 N1 e3 rfl rfl rfl ?_
  intro h2 F2 N2
  clear e3 hi2 e1 e2 hgi hgl
  k_steps
  refine Mine.stop_out ?_
  rename Fr _ _ _ _ => F3
  rename News _ _ _ _ => N3
  have hS : ∀ a ∈ [tb, dx, hl], (hideAll s.heap [tb, dx, hl]).get? a = none := fun a ha => hideAll_none _ ha
  have kp := hide_keeps F3 hS
  refine getAll (H := H) (items := items) (up := upA i) (show dp + 1 < 800 by omega) (show un + 3 < 4900 by omega) (up_texts hi) hH hsz (X'.keeps kp) (T'.keeps kp) (N3 (tb, instObj 182 dx) (by k_mem)).1 (N3 (dx, hdrD hs n1 k1 hl) (by k_mem)).1 (N3 (hl, lstO items.toArray n) (by k_mem)).1 (hr.keeps kp) ?_
  intro h4 D ys tk4 x4 hD0 hD1 hys
  rw [low_up hi] at hys
  replace N3 := news_new F3 (news_ext0 N3 x4) hD1 hD0
  replace F3 := fr_ext0 F3 x4
  clear hD1 x4
  have hyl := hys.length
  k_steps
  refine PyProof.Rows.len_list ⟨_, (N3 (D, LCg.lst ys) (.head _)).1, rfl, _, rfl⟩ (by rw [List.size_toArray]; omega) ?_
  rw [List.size_toArray, hyl]
  k_steps
  refine Mine.stop_out ?_
  have hnum := num_abs (wi := (G i).1) (mk := (G i).2) (c := (gets H (nmA i)).length) hcnt
  refine int2ap (by rw [hnum]; omega) (show dp + 1 < 900 by omega) (show un + 3 < 5000 by omega) (X'.keeps F3.keep) (T'.keeps F3.keep) ?_
  intro h5 t5 tk5 x5
  rw [hnum]
  replace N3 := news_ext0 N3 x5
  replace F3 := fr_ext0 F3 x5
  refine hQ _ _ _ (ext_same F3 ?_)
  exact all_c (fun o e => by rw [h1] at e; cases e; exact (N3 (_, instObj 182 _) (by k_mem)).1)
    (all_c (fun o e => by rw [h2'] at e; cases e; exact (N3 (_, hdrD hs n1 k1 _) (by k_mem)).1)
    (all_c (fun o e => by rw [h3] at e; cases e; exact (N3 (_, lstO items.toArray n) (by k_mem)).1) all_n))
end Mine
end
section
open PySem PySem.W PyProof.Rows PySem.Calls
set_option maxRecDepth 100000
namespace Mine
section
variable (κ : KeyKind) (pz : Keyed → Nat)
/-- by key, and likes by place -/
noncomputable def lexO : KeyOrd where
  α := κ.α × Nat
  blt a b := κ.blt a.1 b.1 || (!κ.blt b.1 a.1 && decide (a.2 < b.2))
  irrefl a := by simp [κ.irrefl]
  trans a b c h1 h2 := by
    simp only [Bool.or_eq_true, Bool.and_eq_true, Bool.not_eq_true', decide_eq_true_eq] at *
    rcases h1 with h1 | ⟨h1, p1⟩ <;> rcases h2 with h2 | ⟨h2, p2⟩
    · exact .inl (κ.trans _ _ _ h1 h2)
    · exact .inl (KeyOrd.klt_of_klt_of_kle (O := κ.toKeyOrd) h1 h2)
    · exact .inl (KeyOrd.klt_of_kle_of_klt (O := κ.toKeyOrd) h1 h2)
    · exact .inr ⟨KeyOrd.kle_trans (O := κ.toKeyOrd) h1 h2, Nat.lt_trans p1 p2⟩
  negTrans a b c h := by
    simp only [Bool.or_eq_true, Bool.and_eq_true, Bool.not_eq_true', decide_eq_true_eq] at *
    rcases h with h | ⟨h, p⟩
    · rcases κ.negTrans _ b.1 _ h with h | h
      · exact .inl (.inl h)
      · exact .inr (.inl h)
    · cases h1 : κ.blt a.1 b.1 with
      | true => exact .inl (.inl rfl)
      | false =>
        cases h2 : κ.blt b.1 c.1 with
        | true => exact .inr (.inl rfl)
        | false =>
          have e1 : κ.blt b.1 a.1 = false := by
            cases h3 : κ.blt b.1 a.1 with
            | false => rfl
            | true => rw [KeyOrd.klt_of_klt_of_kle (O := κ.toKeyOrd) h3 h] at h2; cases h2
          have e2 : κ.blt c.1 b.1 = false := by
            cases h3 : κ.blt c.1 b.1 with
            | false => rfl
            | true => rw [KeyOrd.klt_of_klt_of_kle (O := κ.toKeyOrd) h3 h1] at h; cases h
          by_cases hp : a.2 < b.2
          · exact .inl (.inr ⟨e1, hp⟩)
          · exact .inr (.inr ⟨e2, by omega⟩)
  total a b h1 h2 := by
    simp only [Bool.or_eq_false_iff, Bool.and_eq_false_iff, Bool.not_eq_false', decide_eq_false_iff_not] at *
    have e := κ.total _ _ h1.1 h2.1
    have q1 := h1.2.resolve_left (by rw [h2.1]; simp)
    have q2 := h2.2.resolve_left (by rw [h1.1]; simp)
    exact Prod.ext e (by omega)
noncomputable def PP (xs : Array Keyed) (i : Nat) : Nat := match xs[i]? with | some p => pz p | none => 0
theorem PP_congr {xs ys : Array Keyed} {i j : Nat} (h : xs[i]? = ys[j]?) : PP pz xs i = PP pz ys j := by unfold PP; rw [h]
noncomputable def KP (xs : Array Keyed) (i : Nat) : (lexO κ).α := (KK κ xs i, PP pz xs i)
theorem KP_congr {xs ys : Array Keyed} {i j : Nat} (h : xs[i]? = ys[j]?) : KP κ pz xs i = KP κ pz ys j := by unfold KP; rw [KK_congr h, PP_congr pz h]
theorem at_bubble {xs : Array Keyed} {src d : Nat} (hs : src < xs.size) (hd : d ≤ src) (k : Nat) : (bubble xs src d)[k]? = if k = src - d then xs[src]? else if src - d < k ∧ k ≤ src then xs[k - 1]? else xs[k]? := getElem?_bubble hs d hd k
theorem at_mirror {xs : Array Keyed} {i j : Nat} (hj : j ≤ xs.size) (k : Nat) : (mirror xs i j ((j - i) / 2))[k]? = if i ≤ k ∧ k < j then xs[i + j - 1 - k]? else xs[k]? := getElem?_mirror_all (i := i) hj k
theorem KP_bubble {xs : Array Keyed} {src d : Nat} (hs : src < xs.size) (hd : d ≤ src) (k : Nat) :
    KP κ pz (bubble xs src d) k = if k = src - d then KP κ pz xs src else if src - d < k ∧ k ≤ src then KP κ pz xs (k - 1) else KP κ pz xs k := by
  have e := at_bubble hs hd k
  by_cases h1 : k = src - d
  · rw [if_pos h1] at e ⊢; exact KP_congr κ pz e
  · rw [if_neg h1] at e ⊢
    by_cases h2 : src - d < k ∧ k ≤ src
    · rw [if_pos h2] at e ⊢; exact KP_congr κ pz e
    · rw [if_neg h2] at e ⊢; exact KP_congr κ pz e
theorem KP_mirror {xs : Array Keyed} {i j : Nat} (hj : j ≤ xs.size) (k : Nat) :
    KP κ pz (mirror xs i j ((j - i) / 2)) k = if i ≤ k ∧ k < j then KP κ pz xs (i + j - 1 - k) else KP κ pz xs k := by
  have e := at_mirror (i := i) hj k
  by_cases h1 : i ≤ k ∧ k < j
  · rw [if_pos h1] at e ⊢; exact KP_congr κ pz e
  · rw [if_neg h1] at e ⊢; exact KP_congr κ pz e
noncomputable def SortP (xs : Array Keyed) (k : Nat) : Prop := ∀ i j, i ≤ j → j < k → (lexO κ).kle (KP κ pz xs i) (KP κ pz xs j)
/-- from x on all lies as at first -/
noncomputable def FX (xs : Array Keyed) (x n : Nat) : Prop := (∀ k, x ≤ k → k < n → PP pz xs k = k) ∧ ∀ k, k < x → PP pz xs k < x
variable {κ} {pz}
theorem FX.up {xs : Array Keyed} {x n : Nat} (h : FX pz xs x n) (hx : x < n) : FX pz xs (x + 1) n :=
  ⟨fun k h1 h2 => h.1 k (by omega) h2, fun k hk => by
    by_cases e : k = x
    · subst e; rw [h.1 k (Nat.le_refl _) hx]; omega
    · exact Nat.lt_succ_of_lt (h.2 k (by omega))⟩
theorem FX.mirror {xs : Array Keyed} {x n i j : Nat} (h : FX pz xs x n) (hj : j ≤ xs.size) (hjx : j ≤ x) : FX pz (mirror xs i j ((j - i) / 2)) x n := by
  have e : ∀ k, PP pz (PyProof.Rows.mirror xs i j ((j - i) / 2)) k = if i ≤ k ∧ k < j then PP pz xs (i + j - 1 - k) else PP pz xs k := fun k => by
    have e := at_mirror (i := i) hj k
    by_cases h1 : i ≤ k ∧ k < j
    · rw [if_pos h1] at e ⊢; exact PP_congr pz e
    · rw [if_neg h1] at e ⊢; exact PP_congr pz e
  refine ⟨fun k h1 h2 => ?_, fun k hk => ?_⟩
  · rw [e, if_neg (by omega)]; exact h.1 k h1 h2
  · rw [e]
    split
    · exact h.2 _ (by omega)
    · exact h.2 _ hk
theorem cmp_lex {xs : Array Keyed} {i j : Nat} (h : PP pz xs j ≤ PP pz xs i) : κ.blt (KK κ xs i) (KK κ xs j) = (lexO κ).blt (KP κ pz xs i) (KP κ pz xs j) := by
  show _ = (_ || (_ && decide (PP pz xs i < PP pz xs j)))
  simp [Nat.not_lt.mpr h]
  rfl
theorem lexO_kle_of_klt {a b : κ.α} {p q : Nat} (h : κ.klt a b) : (lexO κ).kle (a, p) (b, q) := by
  show (κ.blt b a || (!κ.blt a b && decide (q < p))) = false
  have h1 : κ.blt b a = false := KeyOrd.kle_of_klt h
  rw [h1, show κ.blt a b = true from h]; rfl
theorem lexO_kle_of_eq {a b : κ.α} {p q : Nat} (h : a = b) (hp : p ≤ q) : (lexO κ).kle (a, p) (b, q) := by
  subst h
  show (κ.blt a a || (!κ.blt a a && decide (q < p))) = false
  rw [κ.irrefl]; simp; omega
end
section
variable {prog : Program} {w : World} {A : Around} {E : Value → Shared → Prop} {s : Shared} {a₀ : Array Keyed} {κ : KeyKind} {pz : Keyed → Nat}
theorem wpS_ltP {st : SortSt} {i j : Nat} {Q : Option Bool → SortSt → Prop} (hO : κ.OneLt) (hB : SBase a₀ st) (h0 : KeysOf κ a₀) (hi : i < a₀.size) (hj : j < a₀.size) (hp : PP pz (arrOf st) j ≤ PP pz (arrOf st) i)
    (h : Q (some ((lexO κ).blt (KP κ pz (arrOf st) i) (KP κ pz (arrOf st) j))) st) : wpS (model prog w) A E s (ltAt' i j) Q st :=
  wpS_ltKK hO hB h0 hi hj (by rw [cmp_lex hp]; exact h)
theorem wpS_ascP {st : SortSt} {a nrem : Nat} {Q : AscSt → SortSt → Prop} (hO : κ.OneLt) (h0 : KeysOf κ a₀) (hn : nrem ≤ a₀.size) (ha : 1 ≤ a) (han : a ≤ nrem) (hB : SBase a₀ st)
    (hf : FX pz (arrOf st) a a₀.size) (hs : SortP κ pz (arrOf st) a)
    (h : ∀ n, a ≤ n → n ≤ nrem → FX pz (arrOf st) n a₀.size → SortP κ pz (arrOf st) n → (n = nrem ∨ κ.klt (KK κ (arrOf st) n) (KK κ (arrOf st) (n - 1))) → Q (none, n) st) :
    wpS (model prog w) A E s (ascLoop a nrem) Q st := by
  unfold ascLoop
  refine wpS_forRange (I := fun x c st' => st' = st ∧ c = (none, x) ∧ FX pz (arrOf st) x a₀.size ∧ SortP κ pz (arrOf st) x) ?step ?fin ⟨rfl, rfl, hf, hs⟩
  case fin =>
    rintro c st' ⟨rfl, rfl, hf', hs'⟩
    rw [show max a nrem = nrem by omega] at hs' hf' ⊢
    exact h nrem han (Nat.le_refl _) hf' hs' (.inl rfl)
  case step =>
    rintro x c st' hax hxn ⟨rfl, rfl, hf', hs'⟩
    dsimp only
    have hpx : PP pz (arrOf st') (x - 1) ≤ PP pz (arrOf st') x := by
      rw [hf'.1 x (Nat.le_refl _) (by omega)]
      exact Nat.le_of_lt (hf'.2 (x - 1) (by omega))
    refine wpS_bind (wpS_ltKK hO hB h0 (by omega) (by omega) ?_)
    cases hless : κ.blt (KK κ (arrOf st') x) (KK κ (arrOf st') (x - 1))
    case true =>
      simp only [if_true]
      exact wpS_pure (h x hax (by omega) hf' hs' (.inr hless))
    case false =>
      simp only [Bool.false_eq_true, if_false]
      rw [cmp_lex hpx] at hless
      refine wpS_pure ⟨rfl, rfl, hf'.up (by omega), fun i j hij hj => ?_⟩
      by_cases hjx : j < x
      · exact hs' i j hij hjx
      · have hj' : j = x := by omega
        subst hj'
        by_cases hi' : i = j
        · subst hi'; exact KeyOrd.kle_refl _
        · exact KeyOrd.kle_trans (hs' i (j - 1) (by omega) (by omega)) hless
theorem wpS_binP {st : SortSt} {n ok : Nat} {Q : Bool → SortSt → Prop} (hO : κ.OneLt) (h0 : KeysOf κ a₀) (hn : n ≤ a₀.size) (h1 : 1 ≤ ok) (hok : ok ≤ n) (hB : SBase a₀ st) (hf : FX pz (arrOf st) ok a₀.size) (hs : SortP κ pz (arrOf st) ok)
    (h : ∀ st', SBase a₀ st' → SortP κ pz (arrOf st') n → Q true st') : wpS (model prog w) A E s (binarySort' 0 n ok) Q st := by
  rw [binarySort'_eq]
  simp only [Nat.zero_add]
  refine wpS_bind (wpS_mono (wpS_forRange (I := fun k c st' => c = (none, ()) ∧ SBase a₀ st' ∧ FX pz (arrOf st') k a₀.size ∧ SortP κ pz (arrOf st') k)
    (Q := fun c st' => c = (none, ()) ∧ SBase a₀ st' ∧ SortP κ pz (arrOf st') n) ?step ?fin ?init) ?post)
  case post =>
    rintro c st' ⟨rfl, hB', hs'⟩
    exact wpS_pure (h st' hB' hs')
  case init =>
    rw [show max ok 1 = ok by omega]
    exact ⟨rfl, hB, hf, hs⟩
  case fin =>
    rintro c st' ⟨hc, hB', _, hs'⟩
    refine ⟨hc, hB', ?_⟩
    rwa [show max (max ok 1) n = n by omega] at hs'
  case step =>
    rintro k c st' hak hkn ⟨rfl, hB', hf', hs'⟩
    have hk : k < a₀.size := by omega
    have hpk : ∀ i, i < k → PP pz (arrOf st') i ≤ PP pz (arrOf st') k := fun i hi => by
      rw [hf'.1 k (Nat.le_refl _) hk]
      exact Nat.le_of_lt (hf'.2 i hi)
    refine wpS_bind (wpS_mono (wpS_forRange (I := fun x c st'' => st'' = st' ∧ ∃ l r, c = (none, l, r) ∧ l ≤ r ∧ r ≤ k ∧ r - l ≤ k - x ∧
        (∀ i, i < l → (lexO κ).kle (KP κ pz (arrOf st') i) (KP κ pz (arrOf st') k)) ∧ (∀ i, r ≤ i → i < k → (lexO κ).klt (KP κ pz (arrOf st') k) (KP κ pz (arrOf st') i)))
      (Q := fun c st'' => st'' = st' ∧ ∃ l r, c = (none, l, r) ∧ l ≤ k ∧
        (∀ i, i < l → (lexO κ).kle (KP κ pz (arrOf st') i) (KP κ pz (arrOf st') k)) ∧ (∀ i, l ≤ i → i < k → (lexO κ).klt (KP κ pz (arrOf st') k) (KP κ pz (arrOf st') i))) ?istep ?ifin ?iinit) ?ipost)
    case iinit => exact ⟨rfl, 0, k, rfl, by omega, by omega, by omega, fun i hi => by omega, fun i h1 h2 => by omega⟩
    case ifin =>
      rintro c st'' ⟨rfl, l, r, rfl, hlr, hrk, hm, hlo, hhi⟩
      have : l = r := by omega
      subst this
      exact ⟨rfl, l, l, rfl, hrk, hlo, hhi⟩
    case istep =>
      rintro x c st'' _ hxk ⟨rfl, l, r, rfl, hlr, hrk, hm, hlo, hhi⟩
      dsimp only
      by_cases hge : l ≥ r
      · rw [if_pos hge]
        have : l = r := by omega
        subst this
        exact wpS_pure ⟨rfl, l, l, rfl, hrk, hlo, hhi⟩
      · rw [if_neg hge]
        refine wpS_bind (wpS_ltP (pz := pz) hO hB' h0 hk (by omega) (hpk _ (by omega)) ?_)
        cases hless : (lexO κ).blt (KP κ pz (arrOf st'') k) (KP κ pz (arrOf st'') ((l + r) / 2))
        case true =>
          simp only [if_true]
          refine wpS_pure ⟨rfl, l, (l + r) / 2, rfl, by omega, by omega, by omega, hlo, fun i h1 h2 => ?_⟩
          exact KeyOrd.klt_of_klt_of_kle hless (hs' _ _ h1 h2)
        case false =>
          simp only [Bool.false_eq_true, if_false]
          refine wpS_pure ⟨rfl, (l + r) / 2 + 1, r, rfl, by omega, by omega, by omega, fun i h1 => ?_, hhi⟩
          exact KeyOrd.kle_trans (hs' i ((l + r) / 2) (by omega) (by omega)) (show (lexO κ).kle _ _ from hless)
    case ipost =>
      rintro c st'' ⟨rfl, l, r, rfl, hlk, hlo, hhi⟩
      show wpS _ _ _ _ (do moveDown' k l; pure (ForInStep.yield (none, ()))) _ _
      rw [moveDown'_eq]
      have hks : k < (arrOf st'').size := by rw [hB'.size]; exact hk
      have hbk : k - (k - l) = l := by omega
      refine wpS_bind (wpS_modify (wpS_pure ⟨rfl, hB'.setArr (bubble_perm _ _ _), ⟨fun i h1 h2 => ?_, fun i hi => ?_⟩, ?_⟩))
      · show PP pz (bubble (arrOf st'') k (k - l)) i = i
        have e := congrArg Prod.snd (KP_bubble κ pz hks (show k - l ≤ k by omega) i)
        rw [if_neg (by omega), if_neg (by omega)] at e
        exact e.trans (hf'.1 i (by omega) h2)
      · show PP pz (bubble (arrOf st'') k (k - l)) i < k + 1
        have e := congrArg Prod.snd (KP_bubble κ pz hks (show k - l ≤ k by omega) i)
        have e' : PP pz (bubble (arrOf st'') k (k - l)) i = _ := e
        rw [e']
        by_cases c1 : i = k - (k - l)
        · rw [if_pos c1]
          show PP pz (arrOf st'') k < k + 1
          rw [hf'.1 k (Nat.le_refl _) hk]; omega
        · rw [if_neg c1]
          by_cases c2 : k - (k - l) < i ∧ i ≤ k
          · rw [if_pos c2]; exact Nat.lt_succ_of_lt (hf'.2 _ (by omega))
          · rw [if_neg c2]; exact Nat.lt_succ_of_lt (hf'.2 _ (by omega))
      intro i j hij hj
      show (lexO κ).kle (KP κ pz (bubble (arrOf st'') k (k - l)) i) (KP κ pz (bubble (arrOf st'') k (k - l)) j)
      rw [KP_bubble κ pz hks (by omega), KP_bubble κ pz hks (by omega), hbk]
      repeat' split
      all_goals first
        | (exfalso; omega)
        | exact KeyOrd.kle_refl _
        | exact hlo _ (by omega)
        | exact KeyOrd.kle_of_klt (hhi _ (by omega) (by omega))
        | exact hs' _ _ (by omega) (by omega)
end
end Mine
end
section
open PySem PySem.W PyProof.Rows PySem.Calls
set_option maxRecDepth 100000
namespace Mine
section
variable {κ : KeyKind} {pz : Keyed → Nat}
theorem kle_of_lexO {a b : (lexO κ).α} (h : (lexO κ).kle a b) : κ.kle a.1 b.1 := (Bool.or_eq_false_iff.mp h).1
theorem lexO_snd {a b : (lexO κ).α} (h : (lexO κ).kle a b) (e : a.1 = b.1) : a.2 ≤ b.2 := by
  have h2 := (Bool.or_eq_false_iff.mp h).2
  rw [e, κ.irrefl] at h2
  simpa using h2
variable (κ) (pz)
noncomputable def FallP (xs : Array Keyed) (k : Nat) : Prop := ∀ i j, i ≤ j → j < k → (lexO κ).kle (KP κ pz xs j) (KP κ pz xs i)
/-- falling, but for the last likes, which lie as at first -/
structure DI (xs : Array Keyed) (x neq : Nat) : Prop where
  le : neq + 1 ≤ x
  a1 : ∀ i j, i ≤ j → j < x - (neq + 1) → (lexO κ).kle (KP κ pz xs j) (KP κ pz xs i)
  a2 : ∀ i j, i < x - (neq + 1) → x - (neq + 1) ≤ j → j < x → κ.klt (KK κ xs j) (KK κ xs i)
  b1 : ∀ i, x - (neq + 1) ≤ i → i < x → KK κ xs i = KK κ xs (x - 1)
  b2 : ∀ i j, x - (neq + 1) ≤ i → i ≤ j → j < x → PP pz xs i ≤ PP pz xs j
variable {κ} {pz}
theorem DI.flip {xs : Array Keyed} {x neq : Nat} (h : DI κ pz xs x neq) (hx : x ≤ xs.size) : FallP κ pz (mirror xs (x - (neq + 1)) x ((x - (x - (neq + 1))) / 2)) x := by
  intro i j hij hj
  have hle := h.le
  rw [KP_mirror κ pz hx, KP_mirror κ pz hx]
  by_cases ci : x - (neq + 1) ≤ i
  · rw [if_pos ⟨by omega, hj⟩, if_pos ⟨ci, by omega⟩]
    refine lexO_kle_of_eq ?_ (h.b2 _ _ (by omega) (by omega) (by omega))
    rw [h.b1 _ (by omega) (by omega), h.b1 (x - (neq + 1) + x - 1 - i) (by omega) (by omega)]
  · rw [if_neg (c := x - (neq + 1) ≤ i ∧ i < x) (by omega)]
    by_cases cj : x - (neq + 1) ≤ j
    · rw [if_pos ⟨cj, hj⟩]
      exact lexO_kle_of_klt (h.a2 _ _ (by omega) (by omega) (by omega))
    · rw [if_neg (by omega)]
      exact h.a1 _ _ hij (by omega)
theorem DI.fall {xs : Array Keyed} {x : Nat} (h : DI κ pz xs x 0) : FallP κ pz xs x := by
  intro i j hij hj
  by_cases cj : j < x - 1
  · exact h.a1 i j hij cj
  · have ej : j = x - 1 := by omega
    subst ej
    by_cases ci : i < x - 1
    · exact lexO_kle_of_klt (h.a2 _ _ ci (by omega) hj)
    · have : i = x - 1 := by omega
      subst this; exact KeyOrd.kle_refl _
theorem FallP.next {xs : Array Keyed} {x : Nat} (h : FallP κ pz xs x) (h1 : 1 ≤ x) (hk : κ.klt (KK κ xs x) (KK κ xs (x - 1))) : DI κ pz xs (x + 1) 0 where
  le := by omega
  a1 := fun i j hij hj => h i j hij (by omega)
  a2 := fun i j hi hj1 hj2 => by
    have : j = x := by omega
    subst this
    exact KeyOrd.klt_of_klt_of_kle hk (kle_of_lexO (h i (j - 1) (by omega) (by omega)))
  b1 := fun i h1 h2 => by congr 1; omega
  b2 := fun i j h1 h2 h3 => by have : i = j := by omega
                               subst this; exact Nat.le_refl _
theorem KK_of_mirror {xs : Array Keyed} {i j : Nat} (hj : j ≤ xs.size) (heq : ∀ k, i ≤ k → k < j → KK κ xs k = KK κ xs (j - 1)) (k : Nat) : KK κ (mirror xs i j ((j - i) / 2)) k = KK κ xs k := KK_mirror_equal hj heq k
theorem DI.strict {xs : Array Keyed} {x neq : Nat} (h : DI κ pz xs x neq) (hx : x ≤ xs.size) (hk : κ.klt (KK κ xs x) (KK κ xs (x - 1))) : DI κ pz (mirror xs (x - (neq + 1)) x ((x - (x - (neq + 1))) / 2)) (x + 1) 0 := by
  have e := KK_of_mirror hx h.b1
  have hle := h.le
  exact (h.flip hx).next (by omega) (by rw [e, e]; exact hk)
theorem DI.same {xs : Array Keyed} {x neq n : Nat} (h : DI κ pz xs x neq) (hf : FX pz xs x n) (hx : x < n) (hk : KK κ xs x = KK κ xs (x - 1)) : DI κ pz xs (x + 1) (neq + 1) := by
  have hle := h.le
  have ee : x + 1 - (neq + 1 + 1) = x - (neq + 1) := by omega
  refine ⟨by omega, fun i j hij hj => h.a1 i j hij (by omega), fun i j hi hj1 hj2 => ?_, fun i hi1 hi2 => ?_, fun i j hi1 hij hj => ?_⟩
  · by_cases c : j = x
    · subst c; rw [hk]; exact h.a2 i (j - 1) (by omega) (by omega) (by omega)
    · exact h.a2 i j (by omega) (by omega) (by omega)
  · rw [show x + 1 - 1 = x by omega]
    by_cases c : i = x
    · subst c; rfl
    · rw [hk]; exact h.b1 i (by omega) (by omega)
  · by_cases c : j = x
    · subst c
      rw [hf.1 j (Nat.le_refl _) hx]
      by_cases c2 : i = j
      · subst c2; rw [hf.1 i (Nat.le_refl _) hx]; exact Nat.le_refl _
      · exact Nat.le_of_lt (hf.2 i (by omega))
    · exact h.b2 i j (by omega) hij (by omega)
end
section
variable {prog : Program} {w : World} {A : Around} {E : Value → Shared → Prop} {s : Shared} {a₀ : Array Keyed} {κ : KeyKind} {pz : Keyed → Nat}
theorem wpS_tailP {st : SortSt} {n nrem : Nat} {Q : Option Nat → SortSt → Prop} (hO : κ.OneLt) (h0 : KeysOf κ a₀) (hn : nrem ≤ a₀.size) (h1 : 1 ≤ n) (hnn : n ≤ nrem) (hB : SBase a₀ st) (hf : FX pz (arrOf st) n a₀.size)
    (hs : FallP κ pz (arrOf st) n) (h : ∀ m st', SBase a₀ st' → 1 ≤ m → m ≤ nrem → FX pz (arrOf st') m a₀.size → SortP κ pz (arrOf st') m → Q (some m) st') :
    wpS (model prog w) A E s (tail3 n nrem) Q st := by
  unfold tail3
  have hsz : n ≤ (arrOf st).size := by rw [hB.size]; omega
  refine wpS_bind (wpS_reverse ?_)
  have hB' : SBase a₀ (setArr st (mirror (arrOf st) 0 n ((n - 0) / 2))) := hB.setArr (mirror_perm _ _ _ _)
  refine wpS_bind (wpS_ascP (pz := pz) hO h0 hn h1 hnn hB' (hf.mirror hsz (Nat.le_refl _)) ?_ fun m hm1 hm2 hfm hsm _ => wpS_pure (h m _ hB' (by omega) hm2 hfm hsm))
  intro i j hij hj
  show (lexO κ).kle (KP κ pz (mirror (arrOf st) 0 n ((n - 0) / 2)) i) (KP κ pz (mirror (arrOf st) 0 n ((n - 0) / 2)) j)
  rw [KP_mirror κ pz hsz, KP_mirror κ pz hsz, if_pos (by omega), if_pos (by omega)]
  exact hs _ _ (by omega) (by omega)
theorem wpS_descP {st : SortSt} {n nrem : Nat} {Q : DescSt → SortSt → Prop} (hO : κ.OneLt) (h0 : KeysOf κ a₀) (hn : nrem ≤ a₀.size) (h1 : 1 ≤ n) (hnn : n ≤ nrem) (hB : SBase a₀ st)
    (hf : FX pz (arrOf st) n a₀.size) (hd : DI κ pz (arrOf st) n 0)
    (h : ∀ m neq st', SBase a₀ st' → n ≤ m → m ≤ nrem → FX pz (arrOf st') m a₀.size → DI κ pz (arrOf st') m neq → Q (none, m, neq) st') :
    wpS (model prog w) A E s (descLoop n nrem) Q st := by
  unfold descLoop
  refine wpS_forRange (I := fun x c st' => ∃ neq, c = (none, x, neq) ∧ SBase a₀ st' ∧ FX pz (arrOf st') x a₀.size ∧ DI κ pz (arrOf st') x neq) ?step ?fin ⟨0, rfl, hB, hf, hd⟩
  case fin =>
    rintro c st' ⟨neq, rfl, hB', hf', hd'⟩
    rw [show max n nrem = nrem by omega] at hf' hd' ⊢
    exact h nrem neq st' hB' hnn (Nat.le_refl _) hf' hd'
  case step =>
    rintro x c st' hax hxn ⟨neq, rfl, hB', hf', hd'⟩
    dsimp only
    have hsz : x ≤ (arrOf st').size := by rw [hB'.size]; omega
    refine wpS_bind (wpS_ltKK hO hB' h0 (by omega) (by omega) ?_)
    cases hless : κ.blt (KK κ (arrOf st') x) (KK κ (arrOf st') (x - 1))
    case true =>
      simp only [if_true]
      by_cases hneq : neq > 0
      · rw [if_pos hneq]
        refine wpS_bind (wpS_reverse (wpS_pure ⟨0, rfl, hB'.setArr (mirror_perm _ _ _ _), (hf'.mirror hsz (Nat.le_refl _)).up (by omega), hd'.strict hsz hless⟩))
      · rw [if_neg hneq]
        have : neq = 0 := by omega
        subst this
        exact wpS_pure ⟨0, rfl, hB', hf'.up (by omega), hd'.fall.next (by omega) hless⟩
    case false =>
      simp only [Bool.false_eq_true, if_false]
      refine wpS_bind (wpS_ltKK hO hB' h0 (by omega) (by omega) ?_)
      cases hlarger : κ.blt (KK κ (arrOf st') (x - 1)) (KK κ (arrOf st') x)
      case true =>
        simp only [if_true]
        exact wpS_pure (h x neq st' hB' hax (by omega) hf' hd')
      case false =>
        simp only [Bool.false_eq_true, if_false]
        exact wpS_pure ⟨neq + 1, rfl, hB', hf'.up (by omega), hd'.same hf' (by omega) (κ.total _ _ hless hlarger)⟩
theorem wpS_descPartP {st : SortSt} {n nrem : Nat} {Q : Option Nat → SortSt → Prop} (hO : κ.OneLt) (h0 : KeysOf κ a₀) (hn : nrem ≤ a₀.size) (hnn : n + 1 ≤ nrem) (hB : SBase a₀ st)
    (hf : FX pz (arrOf st) (n + 1) a₀.size) (hd : DI κ pz (arrOf st) (n + 1) 0)
    (h : ∀ m st', SBase a₀ st' → 1 ≤ m → m ≤ nrem → FX pz (arrOf st') m a₀.size → SortP κ pz (arrOf st') m → Q (some m) st') :
    wpS (model prog w) A E s (descPart n nrem) Q st := by
  unfold descPart
  refine wpS_bind (wpS_lift (wpAny_rule ⟨rfl, ?_⟩))
  refine wpS_bind (wpS_descP (pz := pz) hO h0 hn (by omega) hnn hB hf hd fun m neq st' hB' hm1 hm2 hf' hd' => ?_)
  dsimp only
  have hsz : m ≤ (arrOf st').size := by rw [hB'.size]; omega
  by_cases hneq : neq > 0
  · rw [if_pos hneq]
    exact wpS_bind (wpS_reverse (wpS_tailP (pz := pz) hO h0 hn (by omega) hm2 (hB'.setArr (mirror_perm _ _ _ _)) (hf'.mirror hsz (Nat.le_refl _)) (hd'.flip hsz) h))
  · rw [if_neg hneq]
    have : neq = 0 := by omega
    subst this
    exact wpS_tailP (pz := pz) hO h0 hn (by omega) hm2 hB' hf' hd'.fall h
theorem wpS_countP {st : SortSt} {nrem : Nat} {Q : Option Nat → SortSt → Prop} (hO : κ.OneLt) (h0 : KeysOf κ a₀) (hn : nrem ≤ a₀.size) (h1 : 1 ≤ nrem) (hB : SBase a₀ st) (hf : FX pz (arrOf st) 1 a₀.size)
    (h : ∀ m st', SBase a₀ st' → 1 ≤ m → m ≤ nrem → FX pz (arrOf st') m a₀.size → SortP κ pz (arrOf st') m → Q (some m) st') :
    wpS (model prog w) A E s (countRun' 0 nrem) Q st := by
  rw [countRun0_eq]
  refine wpS_bind (wpS_ascP (pz := pz) hO h0 hn (Nat.le_refl 1) h1 hB hf (fun i j hij hj => by have : i = j := (by omega); subst this; exact KeyOrd.kle_refl _) fun n hn1 hn2 hfn hsn hor => ?_)
  dsimp only
  by_cases hnn : n = nrem
  · rw [if_pos (by simpa using hnn)]
    exact wpS_pure (h n st hB hn1 hn2 hfn hsn)
  · rw [if_neg (by simpa using hnn)]
    have hlt : κ.klt (KK κ (arrOf st) n) (KK κ (arrOf st) (n - 1)) := hor.resolve_left hnn
    have hsz : n ≤ (arrOf st).size := by rw [hB.size]; omega
    by_cases hgt : n > 1
    · rw [if_pos hgt]
      refine wpS_bind (wpS_ltKK hO hB h0 (by omega) (by omega) ?_)
      cases hrose : κ.blt (KK κ (arrOf st) 0) (KK κ (arrOf st) (n - 1))
      case true =>
        simp only [if_true]
        exact wpS_pure (h n st hB hn1 hn2 hfn hsn)
      case false =>
        simp only [Bool.false_eq_true, if_false]
        have hall : ∀ k, 0 ≤ k → k < n → KK κ (arrOf st) k = KK κ (arrOf st) (n - 1) := by
          intro k _ hk
          have a1 := kle_of_lexO (hsn 0 k (by omega) hk)
          have a2 := kle_of_lexO (hsn k (n - 1) (by omega) (by omega))
          exact KeyOrd.kle_antisymm (O := κ.toKeyOrd) a2 (KeyOrd.kle_trans (O := κ.toKeyOrd) hrose a1)
        have hfall : FallP κ pz (mirror (arrOf st) 0 n ((n - 0) / 2)) n := by
          intro i j hij hj
          rw [KP_mirror κ pz hsz, KP_mirror κ pz hsz, if_pos (by omega), if_pos (by omega)]
          exact hsn _ _ (by omega) (by omega)
        have ek := KK_of_mirror (κ := κ) hsz hall
        exact wpS_bind (wpS_reverse (wpS_descPartP (pz := pz) hO h0 hn (by omega) (hB.setArr (mirror_perm _ _ _ _)) ((hfn.mirror hsz (Nat.le_refl _)).up (by omega)) (hfall.next (by omega) (by rw [ek, ek]; exact hlt)) h))
    · rw [if_neg hgt]
      have hn1' : n = 1 := by omega
      subst hn1'
      refine wpS_descPartP (pz := pz) hO h0 hn (by omega) hB (hfn.up (by omega)) (FallP.next (fun i j hij hj => ?_) (Nat.le_refl _) hlt) h
      have : i = j := by omega
      subst this; exact KeyOrd.kle_refl _
noncomputable def SDoneP (κ : KeyKind) (pz : Keyed → Nat) (a₀ : Array Keyed) (st : SortSt) : Prop :=
  (arrOf st).Perm a₀ ∧ failedOf st = none ∧ pendingOf st = #[(0, a₀.size, 0)] ∧ SortP κ pz (arrOf st) a₀.size
theorem SBase.doneP {st : SortSt} (hB : SBase a₀ st) (hs : SortP κ pz (arrOf st) a₀.size) : SDoneP κ pz a₀ (setPending st ((pendingOf st).push (0, a₀.size, 0))) :=
  ⟨hB.perm, hB.failed, by show (pendingOf st).push _ = _; rw [hB.pend]; rfl, hs⟩
theorem wpS_sortP {st : SortSt} {Q : Unit → SortSt → Prop} (hO : κ.OneLt) (h0 : KeysOf κ a₀) (hB : SBase a₀ st) (hf : FX pz (arrOf st) 1 a₀.size) (h2 : 2 ≤ a₀.size) (h64 : a₀.size < 64)
    (h : ∀ st', (arrOf st').Perm a₀ → failedOf st' = none → SortP κ pz (arrOf st') a₀.size → Q () st') : wpS (model prog w) A E s sortRuns' Q st := by
  rw [sortRuns'_eq]
  refine wpS_bind (wpS_get ?_)
  dsimp only
  have hmr : minRun' a₀.size a₀.size 0 = a₀.size := by
    obtain ⟨f, hf⟩ : ∃ f, a₀.size = f + 1 := ⟨a₀.size - 1, by omega⟩
    have : minRun' (f + 1) a₀.size 0 = a₀.size := by rw [minRun'_succ, if_pos h64]; rfl
    rwa [← hf] at this
  simp only [hB.size, hmr]
  refine wpS_bind (wpS_mono (wpS_forRange
    (I := fun x c st' => (x = 0 ∧ c = (none, 0) ∧ SBase a₀ st' ∧ FX pz (arrOf st') 1 a₀.size) ∨ (1 ≤ x ∧ c = (none, a₀.size) ∧ SDoneP κ pz a₀ st'))
    (Q := fun c st' => c = (none, a₀.size) ∧ SDoneP κ pz a₀ st') ?step ?fin (.inl ⟨rfl, rfl, hB, hf⟩)) ?post)
  case fin =>
    rintro c st' (⟨hx, _, _⟩ | ⟨_, hc, hD⟩)
    · omega
    · exact ⟨hc, hD⟩
  case step =>
    rintro x c st' _ hx (⟨rfl, rfl, hB', hf'⟩ | ⟨hx1, rfl, hD⟩)
    · dsimp only
      rw [if_neg (by omega)]
      simp only [Nat.sub_zero, Nat.min_self, Nat.zero_add]
      refine wpS_bind (wpS_countP (pz := pz) hO h0 (Nat.le_refl _) (by omega) hB' hf' fun m st2 hB2 hm1 hm2 hf2 hs2 => ?_)
      dsimp only
      by_cases hlt : m < a₀.size
      · rw [if_pos hlt]
        refine wpS_bind (wpS_lift (wpAny_rule ⟨rfl, ?_⟩))
        refine wpS_bind (wpS_binP (pz := pz) hO h0 (Nat.le_refl _) hm1 hm2 hB2 hf2 hs2 fun st3 hB3 hs3 => ?_)
        simp only [Bool.not_true, Bool.false_eq_true, if_false]
        refine wpS_bind (wpS_get ?_)
        have hb : (pendingOf st3).back? = none := by rw [hB3.pend]; rfl
        rw [hb]
        dsimp only
        exact wpS_bind (wpS_modify (wpS_pure (.inr ⟨by omega, rfl, SBase.doneP hB3 hs3⟩)))
      · rw [if_neg hlt]
        have hm : m = a₀.size := by omega
        subst hm
        refine wpS_bind (wpS_get ?_)
        have hb : (pendingOf st2).back? = none := by rw [hB2.pend]; rfl
        rw [hb]
        dsimp only
        exact wpS_bind (wpS_modify (wpS_pure (.inr ⟨by omega, rfl, SBase.doneP hB2 hs2⟩)))
    · dsimp only
      rw [if_pos (Nat.le_refl _)]
      exact wpS_pure ⟨rfl, hD⟩
  case post =>
    rintro c st' ⟨rfl, hD⟩
    dsimp only
    refine wpS_bind (wpS_mono (wpS_forRange (I := fun _ c st'' => st'' = st' ∧ c = (none, ())) (Q := fun c st'' => st'' = st' ∧ c = (none, ())) ?_ (fun _ _ hh => hh) ⟨rfl, rfl⟩) ?_)
    · rintro x c st'' _ _ ⟨rfl, rfl⟩
      refine wpS_bind (wpS_get ?_)
      rw [if_pos (by rw [hD.2.2.1]; exact Nat.le_refl 1)]
      exact wpS_pure ⟨rfl, rfl⟩
    · rintro c st'' ⟨rfl, rfl⟩
      exact wpS_pure (h _ hD.1 hD.2.1 hD.2.2.2)
end
end Mine
end
section
open PySem PySem.W PyProof.Rows PySem.Calls
set_option maxRecDepth 100000
set_option maxHeartbeats 4000000
namespace Mine
/-- the place of the first item like it -/
noncomputable def placeOf (vs : List Value) (p : Keyed) : Nat := by
  classical
  exact if h : ∃ i, vs[i]? = some p.2 then Classical.choose h else 0
theorem placeOf_at {vs : List Value} (hn : vs.Nodup) {k : Value} {i : Nat} {v : Value} (e : vs[i]? = some v) : placeOf vs (k, v) = i := by
  have h : ∃ i, vs[i]? = some v := ⟨i, e⟩
  have e2 : placeOf vs (k, v) = Classical.choose h := by unfold placeOf; exact dif_pos h
  rw [e2]
  have hs := Classical.choose_spec h
  obtain ⟨h1, h1'⟩ := List.getElem?_eq_some_iff.mp hs
  obtain ⟨h2, h2'⟩ := List.getElem?_eq_some_iff.mp e
  rcases Nat.lt_trichotomy (Classical.choose h) i with q | q | q
  · exact absurd (h1'.trans h2'.symm) (List.pairwise_iff_getElem.mp hn _ _ h1 h2 q)
  · exact q
  · exact absurd (h2'.trans h1'.symm) (List.pairwise_iff_getElem.mp hn _ _ h2 h1 q)
noncomputable def KeysAre (κ : KeyKind) (keys : List Value) (ks : List κ.α) : Prop := keys.map κ.keyOf = ks.map some
/-- sorted by key, likes as they stood -/
noncomputable def OutK (κ : KeyKind) (ks : List κ.α) (vs out : List Value) : Prop :=
  ∃ tr : List ((κ.α × Nat) × Value), tr.Perm ((ks.zip (List.range ks.length)).zip vs) ∧ out = tr.map (·.2) ∧ tr.Pairwise (fun p q => (lexO κ).kle p.1 q.1)
noncomputable def EndK (κ : KeyKind) (h₀ : Heap) (L : Addr) (m : Str → Option Value) (need : List (Addr × Obj)) (k : κ.α) (s₁ : Shared) (v : Value) (s₂ : Shared) : Prop :=
  ∃ h' tk, s₂ = { s₁ with heap := h', toks := tk } ∧ κ.keyOf v = some k ∧ Fr h₀ L h' m ∧ News h₀ L h' need
theorem keysAre_length {κ : KeyKind} {keys : List Value} {ks : List κ.α} (h : KeysAre κ keys ks) : keys.length = ks.length := by
  have := congrArg List.length h
  simpa using this
theorem keysAre_at {κ : KeyKind} {keys : List Value} {ks : List κ.α} (h : KeysAre κ keys ks) {i : Nat} {x : Value} (e : keys[i]? = some x) : ∃ k, ks[i]? = some k ∧ κ.keyOf x = some k := by
  have h1 := congrArg (·[i]?) h
  simp only [List.getElem?_map, e, Option.map_some] at h1
  cases hk : ks[i]? with
  | none => rw [hk] at h1; cases h1
  | some k => rw [hk] at h1; exact ⟨k, rfl, Option.some.inj h1⟩
theorem outK {κ : KeyKind} {keys : Array Value} {vs : List Value} {ks : List κ.α} (hk : KeysAre κ keys.toList ks) (hlen : ks.length = vs.length) (hn : vs.Nodup) {xs : Array Keyed} (hp : xs.Perm (keys.zip vs.toArray))
    (hs : SortP κ (placeOf vs) xs xs.size) : OutK κ ks vs (xs.map (·.2)).toList := by
  have hl : xs.toList.Perm (keys.toList.zip vs) := by rw [← ksk_zip]; exact Array.perm_iff_toList_perm.mp hp
  refine ⟨xs.toList.map (fun p => (((κ.keyOf p.1).getD κ.dflt, placeOf vs p), p.2)), ?_, ?_, ?_⟩
  · have e2 : (keys.toList.zip vs).map (fun p : Keyed => (((κ.keyOf p.1).getD κ.dflt, placeOf vs p), p.2)) = (ks.zip (List.range ks.length)).zip vs := by
      apply List.ext_getElem?
      intro i
      rw [List.getElem?_map]
      cases hv : vs[i]? with
      | none =>
        have : vs.length ≤ i := List.getElem?_eq_none_iff.mp hv
        rw [List.getElem?_eq_none (by rw [List.length_zip]; omega), List.getElem?_eq_none (by rw [List.length_zip]; omega)]
        rfl
      | some v =>
        have hi : i < vs.length := (List.getElem?_eq_some_iff.mp hv).1
        have hkl := keysAre_length hk
        obtain ⟨x, hx⟩ : ∃ x, keys.toList[i]? = some x := ⟨_, List.getElem?_eq_getElem (by omega)⟩
        obtain ⟨k, e1, e3⟩ := keysAre_at hk hx
        have ez : (keys.toList.zip vs)[i]? = some (x, v) := List.getElem?_zip_eq_some.mpr ⟨hx, hv⟩
        have er : (ks.zip (List.range ks.length))[i]? = some (k, i) := List.getElem?_zip_eq_some.mpr ⟨e1, by rw [List.getElem?_range (by omega)]⟩
        have ez2 : ((ks.zip (List.range ks.length)).zip vs)[i]? = some ((k, i), v) := List.getElem?_zip_eq_some.mpr ⟨er, hv⟩
        rw [ez, ez2]
        simp only [Option.map_some, e3, Option.getD_some, placeOf_at hn hv]
    rw [← e2]
    exact hl.map _
  · rw [Array.toList_map, List.map_map]; rfl
  · rw [List.pairwise_iff_getElem]
    intro i j hi hj hij
    have hi' : i < xs.size := by simpa using hi
    have hj' : j < xs.size := by simpa using hj
    have q := hs i j (Nat.le_of_lt hij) hj'
    have e : ∀ {i : Nat} (hi' : i < xs.size), KP κ (placeOf vs) xs i = ((κ.keyOf xs[i].1).getD κ.dflt, placeOf vs xs[i]) := fun {i} hi' => by
      unfold KP KK PP; rw [getElem?_pos xs i hi']
    rw [e hi', e hj'] at q
    simpa using q
section
variable {prog : Program} {w : World} {A : Around} {E : Value → Shared → Prop} {s : Shared} {h₀ : Heap} {L : Addr} {m : Str → Option Value} {news : List (Addr × Obj)} {a kS : Addr} {vs : List Value} {κ : KeyKind} {ks : List κ.α} {keys : Array Value} {e e1 : Nat} {P : PySem.Fin → Shared → Prop}
theorem tailS {st : SortSt} (F : Fr h₀ L s.heap m) (N : News h₀ L s.heap (news ++ [(kS, seqObj "list" keys e), (a, seqObj "list" #[] e1)])) (hka : kS ≠ a) (hnk : ∀ p ∈ news, p.1 ≠ kS) (hna : ∀ p ∈ news, p.1 ≠ a)
    (hk : KeysAre κ keys.toList ks) (hlen : ks.length = vs.length) (hn : vs.Nodup) (h64 : vs.length < 64) (hp : (arrOf st).Perm (keys.zip vs.toArray)) (hs : SortP κ (placeOf vs) (arrOf st) (arrOf st).size) (hfl : failedOf st = none)
    (h : ∀ h' tk out c, Fr h₀ L h' m → News h₀ L h' ((a, seqObj "list" out c) :: news) → OutK κ ks vs out.toList → P (.done (.ret .none)) { s with heap := h', toks := tk }) :
    wpAny (model prog w) A (ksk_tail a false e1 (.ref kS) st) P E s := by
  have nk := N (kS, seqObj "list" keys e) (List.mem_append_right _ (.head _))
  have na := N (a, seqObj "list" #[] e1) (List.mem_append_right _ (.tail _ (.head _)))
  have Nn : News h₀ L s.heap news := fun p hp => N p (List.mem_append_left _ hp)
  have hsz : keys.size = vs.length := by
    have h1 := keysAre_length hk
    rw [Array.length_toList] at h1
    omega
  have hsz2 : (arrOf st).size = vs.length := by rw [hp.size_eq, Array.size_zip, hsz, List.size_toArray, Nat.min_self]
  have hout : ((arrOf st).map (·.2)).size = vs.length := by rw [Array.size_map]; exact hsz2
  have s1 := Heap.SameBut.update s.heap kS (Obj.mapSeq fun _ => (#[] : Array Value))
  have na1 : (s.heap.update kS (Obj.mapSeq fun _ => (#[] : Array Value))).get? a = some (seqObj "list" #[] e1) := (s1.2 a hka.symm).trans na.1
  have s2 := Heap.SameBut.update (s.heap.update kS (Obj.mapSeq fun _ => (#[] : Array Value))) a (Obj.mapSeq fun _ => (arrOf st).map (·.2))
  obtain ⟨c2, hc2⟩ : ∃ c2, ((s.heap.update kS (Obj.mapSeq fun _ => (#[] : Array Value))).update a (Obj.mapSeq fun _ => (arrOf st).map (·.2))).get? a = some (seqObj "list" ((arrOf st).map (·.2)) c2) :=
    ⟨_, get?_update_seq na1 fun _ => (arrOf st).map (·.2)⟩
  have N2 := ksk_news (ksk_news Nn s1 hnk) s2 hna
  unfold ksk_tail
  try dsimp only
  refine wpAny_bind (listUpdate_at nk.1 rfl ?_ (by rw [hsz, sizeLine_eq]; omega) (Nat.zero_le _))
  refine wpAny_bind (wpAny_letGo ?_)
  refine wpAny_bind (seqEpoch_at na1 rfl ?_)
  simp only [Bool.false_eq_true, if_false]
  refine wpAny_bind (listUpdate_at na1 rfl ?_ (Nat.zero_le _) (Nat.le_trans (Nat.le_of_eq hout) (by rw [sizeLine_eq]; omega)))
  rw [hfl]
  simp only [bne_self_eq_false, Bool.false_eq_true, if_false]
  refine wpAny_pure (h _ _ _ c2 (ksk_fr (ksk_fr F s1 nk.2.1 nk.2.2) s2 na.2.1 na.2.2) (fun p hp => ?_) (outK hk hlen hn hp hs))
  rcases List.mem_cons.mp hp with rfl | hp
  · exact ⟨hc2, na.2⟩
  · exact N2 p hp
theorem endS (hO : κ.OneLt) (hkind : ∀ keys : Array Value, KeysAre κ keys.toList ks → keyKind' keys = pure oneType') (F : Fr h₀ L s.heap m) (N : News h₀ L s.heap (news ++ [(kS, seqObj "list" keys e), (a, seqObj "list" #[] e1)])) (hka : kS ≠ a) (hnk : ∀ p ∈ news, p.1 ≠ kS) (hna : ∀ p ∈ news, p.1 ≠ a)
    (hk : KeysAre κ keys.toList ks) (hlen : ks.length = vs.length) (hn : vs.Nodup) (h2 : 2 ≤ vs.length) (h64 : vs.length < 64)
    (h : ∀ h' tk out c, Fr h₀ L h' m → News h₀ L h' ((a, seqObj "list" out c) :: news) → OutK κ ks vs out.toList → P (.done (.ret .none)) { s with heap := h', toks := tk }) :
    wpAny (model prog w) A (ksk_end a false vs.toArray e1 (.ref kS) keys) P E s := by
  have hsz : keys.size = vs.length := by
    have h1 := keysAre_length hk
    rw [Array.length_toList] at h1
    omega
  have hzs : (keys.zip vs.toArray).size = vs.length := by rw [Array.size_zip, hsz, List.size_toArray, Nat.min_self]
  have hat : ∀ {i : Nat}, i < vs.length → ∃ x v, (keys.zip vs.toArray)[i]? = some (x, v) ∧ keys.toList[i]? = some x ∧ vs[i]? = some v := fun {i} hi => by
    obtain ⟨x, hx⟩ : ∃ x, keys.toList[i]? = some x := ⟨_, List.getElem?_eq_getElem (by rw [Array.length_toList]; omega)⟩
    obtain ⟨v, hv⟩ : ∃ v, vs[i]? = some v := ⟨_, List.getElem?_eq_getElem hi⟩
    refine ⟨x, v, ?_, hx, hv⟩
    rw [← Array.getElem?_toList, ksk_zip]
    exact List.getElem?_zip_eq_some.mpr ⟨hx, hv⟩
  have hpp : ∀ {i : Nat}, i < vs.length → PP (placeOf vs) (keys.zip vs.toArray) i = i := fun {i} hi => by
    obtain ⟨x, v, e1, _, e3⟩ := hat hi
    unfold PP; rw [e1]; exact placeOf_at hn e3
  unfold ksk_end
  simp only [Bool.false_eq_true, if_false]
  rw [if_neg (by rw [List.size_toArray]; omega), if_neg (by rw [List.size_toArray]; omega)]
  rw [hkind keys hk]
  refine wpAny_bind (wpAny_pure ?_)
  refine wpAny_bind (wpAny_mono (wpS_sortP (a₀ := keys.zip vs.toArray) (pz := placeOf vs) (κ := κ) (st := SortSt.mk' oneType' (keys.zip vs.toArray) #[] 7 none)
    (Q := fun _ st' => (arrOf st').Perm (keys.zip vs.toArray) ∧ failedOf st' = none ∧ SortP κ (placeOf vs) (arrOf st') (keys.zip vs.toArray).size)
    hO (fun p hp => ?_) ⟨Array.Perm.refl _, rfl, rfl, rfl⟩ ⟨fun k _ hk2 => hpp (by omega), fun k hk1 => ?_⟩ (by rw [hzs]; omega) (by rw [hzs]; exact h64) fun st' a1 a2 a3 => ⟨a1, a2, a3⟩) ?_ fun _ _ e => e)
  · obtain ⟨x, y⟩ := p
    rw [ksk_zip] at hp
    obtain ⟨i, hi, hi'⟩ := List.getElem_of_mem (List.of_mem_zip hp).1
    obtain ⟨k, _, ek⟩ := keysAre_at hk (List.getElem?_eq_some_iff.mpr ⟨hi, hi'⟩)
    exact ⟨k, ek⟩
  · show PP (placeOf vs) (keys.zip vs.toArray) k < 1
    rw [hpp (by omega)]; exact hk1
  rintro ⟨⟨⟩, st'⟩ s' ⟨rfl, hp, hf, hs⟩
  try dsimp only
  exact tailS F N hka hnk hna hk hlen hn h64 hp (by rw [hp.size_eq]; exact hs) hf h
theorem restS {f : Value} (hO : κ.OneLt) (hkind : ∀ keys : Array Value, KeysAre κ keys.toList ks → keyKind' keys = pure oneType') (F : Fr h₀ L s.heap m) (N : News h₀ L s.heap (news ++ [(kS, seqObj "list" #[] 0), (a, seqObj "list" #[] e1)])) (hka : kS ≠ a) (hnk : ∀ p ∈ news, p.1 ≠ kS) (hna : ∀ p ∈ news, p.1 ≠ a)
    (hlen : ks.length = vs.length) (hn : vs.Nodup) (h2 : 2 ≤ vs.length) (h64 : vs.length < 64)
    (turn : ∀ (i : Nat) (v : Value) (k : κ.α), vs[i]? = some v → ks[i]? = some k → ∀ (h : Heap) (tk : Nat) (own : List (Addr × Obj)), Fr h₀ L h m → News h₀ L h (news ++ own) →
      wpAny (model prog w) A (call f [v]) (EndK κ h₀ L m (news ++ own) k { s with heap := h, toks := tk }) (fun _ _ => False) { s with heap := h, toks := tk })
    (h : ∀ h' tk out c, Fr h₀ L h' m → News h₀ L h' ((a, seqObj "list" out c) :: news) → OutK κ ks vs out.toList → P (.done (.ret .none)) { s with heap := h', toks := tk }) :
    wpAny (model prog w) A (ksk_rest a f false vs.toArray e1 (.ref kS)) P E s := by
  unfold ksk_rest
  refine wpAny_bind (wpAny_rule ?_)
  first
    | rw [List.forIn_toArray]
    | (rw [← Array.forIn_toList]; simp only [List.toList_toArray])
    | rw [← Array.forIn_toList]
  refine wpAny_bind (ksk_fold (fun i s' => ∃ h' tk kA e, s' = { s with heap := h', toks := tk } ∧ Fr h₀ L h' m ∧ News h₀ L h' (news ++ [(kS, seqObj "list" kA e), (a, seqObj "list" #[] e1)]) ∧ KeysAre κ kA.toList (ks.take i)) vs 0 s
    ⟨s.heap, s.toks, #[], 0, rfl, F, N, by simp [KeysAre]⟩ ?step ?done)
  case step =>
    rintro j x s' hx ⟨h', tk, kA, e, rfl, F', N', hk⟩
    simp only [Nat.zero_add] at hk ⊢
    have hj : j < vs.length := (List.getElem?_eq_some_iff.mp hx).1
    obtain ⟨k, hkj⟩ : ∃ k, ks[j]? = some k := ⟨_, List.getElem?_eq_getElem (by omega)⟩
    have hz : kA.size ≤ vs.length := by
      have h1 := keysAre_length hk
      rw [Array.length_toList, List.length_take] at h1
      omega
    refine wpAny_bind (wpAny_attempt (wpAny_mono (turn j x k hx hkj h' tk _ F' N') (fun v s'' he => ?_) fun _ _ hF => hF.elim))
    obtain ⟨g, tk2, rfl, hv, F2, N2⟩ := he
    try dsimp only
    have nk := N2 (kS, seqObj "list" kA e) (List.mem_append_right _ (.head _))
    have na := N2 (a, seqObj "list" #[] e1) (List.mem_append_right _ (.tail _ (.head _)))
    have s1 := Heap.SameBut.update g kS (Obj.mapSeq (·.push v))
    obtain ⟨c2, hc2⟩ : ∃ c2, (g.update kS (Obj.mapSeq (·.push v))).get? kS = some (seqObj "list" (kA.push v) c2) := ⟨_, get?_update_seq nk.1 (·.push v)⟩
    have ek : ks.take (j + 1) = ks.take j ++ [k] := by rw [List.take_add_one, hkj]; simp
    have ea : (kA.push v).toList = kA.toList ++ [v] := by simp
    refine wpAny_bind (listUpdate_at nk.1 rfl ?_ (by rw [sizeLine_eq]; omega) (Nat.le_trans (Nat.le_of_eq (Array.size_push ..)) (by rw [sizeLine_eq]; omega)))
    refine wpAny_pure ⟨rfl, _, _, kA.push v, c2, rfl, ksk_fr F2 s1 nk.2.1 nk.2.2, fun p hp => ?_, ?_⟩
    · rcases List.mem_append.mp hp with hp | hp
      · exact ksk_news (fun q hq => N2 q (List.mem_append_left _ hq)) s1 hnk p hp
      · rcases List.mem_cons.mp hp with rfl | hp
        · exact ⟨hc2, nk.2⟩
        · rw [List.mem_singleton.mp hp]
          exact ⟨(s1.2 a hka.symm).trans na.1, na.2⟩
    · rw [ea, ek]
      unfold KeysAre at *
      rw [List.map_append, List.map_append, hk]
      simp [hv]
  case done =>
    rintro s' ⟨h', tk, kA, e, rfl, F', N', hk⟩
    have hk' : KeysAre κ kA.toList ks := by
      have e3 : ks.take (0 + vs.length) = ks := List.take_of_length_le (by omega)
      rw [e3] at hk
      exact hk
    have nk := N' (kS, seqObj "list" kA e) (List.mem_append_right _ (.head _))
    try dsimp only
    refine wpAny_bind (listItems_at nk.1 rfl ?_)
    exact endS hO hkind F' N' hka hnk hna hk' hlen hn h2 h64 fun h3 tk3 out c F3 N3 k3 => h h3 tk3 out c F3 N3 k3
theorem sortS {f : Value} {n : Nat} (hO : κ.OneLt) (hkind : ∀ keys : Array Value, KeysAre κ keys.toList ks → keyKind' keys = pure oneType') (F : Fr h₀ L s.heap m) (N : News h₀ L s.heap news) (ho : s.heap.get? a = some (seqObj "list" vs.toArray n)) (haL : a ≠ L) (ha0 : h₀.get? a = none) (hna : ∀ p ∈ news, p.1 ≠ a)
    (hlen : ks.length = vs.length) (hn : vs.Nodup) (h2 : 2 ≤ vs.length) (h64 : vs.length < 64)
    (turn : ∀ (i : Nat) (v : Value) (k : κ.α), vs[i]? = some v → ks[i]? = some k → ∀ (h : Heap) (tk : Nat) (own : List (Addr × Obj)), Fr h₀ L h m → News h₀ L h (news ++ own) →
      wpAny (model prog w) A (call f [v]) (EndK κ h₀ L m (news ++ own) k { s with heap := h, toks := tk }) (fun _ _ => False) { s with heap := h, toks := tk })
    (h : ∀ h' tk out c, Fr h₀ L h' m → News h₀ L h' ((a, seqObj "list" out c) :: news) → OutK κ ks vs out.toList → P (.done (.ret .none)) { s with heap := h', toks := tk }) :
    wpAny (model prog w) A (ksk_tree a f false) P E s := by
  have ha : a < s.heap.objs.size := Heap.lt_size ho
  have s1 := Heap.SameBut.update s.heap a (Obj.mapSeq fun _ => (#[] : Array Value))
  obtain ⟨e1, ho1⟩ : ∃ e1, (s.heap.update a (Obj.mapSeq fun _ => (#[] : Array Value))).get? a = some (seqObj "list" #[] e1) := ⟨_, get?_update_seq ho fun _ => #[]⟩
  have F1 := ksk_fr F s1 haL ha0
  have N1 := ksk_news N s1 hna
  have hkS : ((s.heap.update a (Obj.mapSeq fun _ => (#[] : Array Value))).push (seqObj "tuple" vs.toArray 0)).objs.size = s.heap.objs.size + 1 := by rw [size_push', Heap.size_update]
  have hLk : L < ((s.heap.update a (Obj.mapSeq fun _ => (#[] : Array Value))).push (seqObj "tuple" vs.toArray 0)).objs.size := (F1.push _).ns.lt
  unfold ksk_tree
  refine wpAny_bind (listItems_at ho rfl ?_)
  refine wpAny_bind (listUpdate_at ho rfl ?_ (by rw [List.size_toArray, sizeLine_eq]; omega) (Nat.zero_le _))
  refine wpAny_bind (seqEpoch_at ho1 rfl ?_)
  refine wpAny_bind (wpAny_newTuple ?_ (by show vs.length ≤ _; rw [sizeLine_eq]; omega))
  refine wpAny_bind (wpAny_newList ?_ (Nat.zero_le _))
  refine wpAny_holding ?_
  refine restS (s := { s with heap := ((s.heap.update a (Obj.mapSeq fun _ => (#[] : Array Value))).push (seqObj "tuple" vs.toArray 0)).push (seqObj "list" #[] 0) }) (kS := ((s.heap.update a (Obj.mapSeq fun _ => (#[] : Array Value))).push (seqObj "tuple" vs.toArray 0)).objs.size)
    hO hkind ((F1.push _).push _) (fun p hp => ?_) (by rw [hkS]; exact Nat.ne_of_gt (Nat.lt_succ_of_lt ha)) (fun p hp => by rw [hkS]; exact Nat.ne_of_lt (Nat.lt_succ_of_lt (Heap.lt_size (N p hp).1))) hna hlen hn h2 h64 turn h
  rcases List.mem_append.mp hp with hp | hp
  · exact ⟨Heap.get?_push_of_some _ (Heap.get?_push_of_some _ (N1 p hp).1), (N1 p hp).2⟩
  · rcases List.mem_cons.mp hp with rfl | hp
    · exact ⟨Heap.get?_push_size _ rfl, Nat.ne_of_gt hLk, Heap.get?_none_of_le (Nat.le_trans F.above (Nat.le_of_lt hLk))⟩
    · rw [List.mem_singleton.mp hp]
      exact ⟨Heap.get?_push_of_some _ (Heap.get?_push_of_some _ ho1), haL, ha0⟩
theorem sortedS {l : Addr} {f : Value} {kw : List (Str × Value)} {Q : Value → Shared → Prop} (hO : κ.OneLt) (hkind : ∀ keys : Array Value, KeysAre κ keys.toList ks → keyKind' keys = pure oneType') (F : Fr h₀ L s.heap m) (N : News h₀ L s.heap news) (hl : s.heap.IsList l vs.toArray)
    (hlen : ks.length = vs.length) (hn : vs.Nodup) (h2 : 2 ≤ vs.length) (h64 : vs.length < 64)
    (ha1 : argsOk "sorted" ⟨[.ref l], kw⟩) (ha2 : ∀ x, argsOk "list.sort" ⟨[.ref x], kw⟩) (ht : ∀ x, Builtin.«list.sort» ⟨[.ref x], kw⟩ = ksk_tree x f false)
    (turn : ∀ (i : Nat) (v : Value) (k : κ.α), vs[i]? = some v → ks[i]? = some k → ∀ (h : Heap) (tk : Nat) (own : List (Addr × Obj)), Fr h₀ L h m → News h₀ L h (news ++ own) →
      wpAny (model prog w) A.in1.in1 (call f [v]) (EndK κ h₀ L m (news ++ own) k { s with heap := h, toks := tk }) (fun _ _ => False) { s with heap := h, toks := tk })
    (h : ∀ D h' tk out c, Fr h₀ L h' m → News h₀ L h' ((D, seqObj "list" out c) :: news) → (∀ q ∈ news, q.1 < D) → OutK κ ks vs out.toList → Q (.ref D) { s with heap := h', toks := tk }) :
    wpAny (model prog w) A (call (.builtin "sorted") [.ref l] kw) Q E s := by
  refine call_function_entry_kw kind_sorted plain_sorted entry_sorted ha1 ?_
  unfold Builtin.«sorted»
  refine wpAny_bind (m := checkCount "sorted" 1 1 _) (wpAny_pure ?_)
  refine wpAny_bind (collect_list hl ?_ (by rw [sizeLine_eq]; omega))
  refine wpAny_bind (wpAny_newList ?_ (by rw [sizeLine_eq]; omega))
  have hsz : ((s.heap.push (seqObj "list" #[] 0)).update s.heap.objs.size (Obj.mapSeq (· ++ vs.toArray))).objs.size = s.heap.objs.size + 1 := by
    rw [Heap.size_update, size_push']
  have hoL : (((s.heap.push (seqObj "list" #[] 0)).update s.heap.objs.size (Obj.mapSeq (· ++ vs.toArray))).push (seqObj "list" vs.toArray 0)).get? (s.heap.objs.size + 1) = some (seqObj "list" vs.toArray 0) := by
    rw [← hsz]; exact Heap.get?_push_size _ rfl
  have keep : ∀ b o, s.heap.get? b = some o → (((s.heap.push (seqObj "list" #[] 0)).update s.heap.objs.size (Obj.mapSeq (· ++ vs.toArray))).push (seqObj "list" vs.toArray 0)).get? b = some o := fun b o q => by
    have hlt : b < s.heap.objs.size := Heap.lt_size q
    rw [Heap.get?_push_ne _ _ _ (by rw [hsz]; exact Nat.ne_of_lt (Nat.lt_succ_of_lt hlt)), Heap.get?_update_ne _ _ _ _ (Nat.ne_of_lt hlt), Heap.get?_push_ne _ _ _ (Nat.ne_of_lt hlt)]
    exact q
  have hL : L < s.heap.objs.size := F.ns.lt
  show wpAny _ _ _ _ _ { s with heap := ((s.heap.push (seqObj "list" #[] 0)).update s.heap.objs.size (Obj.mapSeq (· ++ vs.toArray))).push (seqObj "list" vs.toArray 0) }
  rw [hsz]
  refine wpAny_bind (wpAny_holding (wpAny_call_entry_kw slot_list_sort ⟨_, hoL, rfl⟩ entry_list_sort ?body (ha2 _)))
  case body =>
    have ht' := ht (s.heap.objs.size + 1)
    show wpAny (model prog w) A.in1.in1 (Builtin.«list.sort» ⟨[.ref (s.heap.objs.size + 1)], kw⟩) _ _ _
    rw [ht']
    refine sortS (s := { s with heap := ((s.heap.push (seqObj "list" #[] 0)).update s.heap.objs.size (Obj.mapSeq (· ++ vs.toArray))).push (seqObj "list" vs.toArray 0) })
      hO hkind (F.kept keep) (N.grown keep) hoL (Nat.ne_of_gt (Nat.lt_succ_of_lt hL)) (Heap.get?_none_of_le (Nat.le_trans F.above (Nat.le_succ_of_le (Nat.le_of_lt hL))))
      (fun p hp => Nat.ne_of_lt (Nat.lt_succ_of_lt (Heap.lt_size (N p hp).1))) hlen hn h2 h64 turn fun h' tk out c F' N' k' => ⟨_, rfl, ?_⟩
    exact wpAny_pure ⟨_, rfl, h _ h' tk out c F' N' (fun q hq => Nat.lt_succ_of_lt (Heap.lt_size (N q hq).1)) k'⟩
end
end Mine
end
section
open PySem PySem.W PyProof.Rows PySem.Calls
set_option maxRecDepth 100000
namespace Mine
@[reducible] noncomputable def bytesKind : KeyKind where
  α := List UInt8
  blt := wlt
  irrefl := wlt_irrefl
  trans := wlt_trans
  negTrans := wlt_negTrans
  total := wlt_total
  keyOf v := match v with | .bytes x _ => some x.toList | _ => none
  dflt := []
@[reducible] noncomputable def intKind' : KeyKind where
  α := Int
  blt a b := decide (a < b)
  irrefl a := by simp
  trans a b c h1 h2 := by simp only [decide_eq_true_eq] at *; omega
  negTrans a b c h := by simp only [decide_eq_true_eq] at *; omega
  total a b h1 h2 := by simp only [decide_eq_false_iff_not] at *; omega
  keyOf v := match v with | .int x _ => some x | _ => none
  dflt := 0
theorem bytesKind_lt : bytesKind.OneLt := by
  intro prog w A E s x y a b Q ha hb h
  cases x <;> simp only [bytesKind, reduceCtorEq, Option.some.injEq] at ha
  cases y <;> simp only [bytesKind, reduceCtorEq, Option.some.injEq] at hb
  cases ha; cases hb
  exact oneLt_bytes h
theorem intKind_lt : intKind'.OneLt := by
  intro prog w A E s x y a b Q ha hb h
  cases x <;> simp only [intKind', reduceCtorEq, Option.some.injEq] at ha
  cases y <;> simp only [intKind', reduceCtorEq, Option.some.injEq] at hb
  cases ha; cases hb
  exact oneLt_int h
theorem kind_all {T : String} (keys : List Value) (hne : keys ≠ []) (h : ∀ v ∈ keys, firstOfTuple' v = pure none ∧ typeOf v = pure (.type T)) : keyKind' keys.toArray = pure oneType' := by
  have m1 : ∀ vs : List Value, (∀ v ∈ vs, v ∈ keys) → vs.mapM firstOfTuple' = pure (vs.map fun _ => none) := by
    intro vs
    induction vs with
    | nil => intro _; simp
    | cons v r ih => intro hv; rw [List.mapM_cons, (h v (hv v (.head _))).1, ih fun u hu => hv u (.tail _ hu)]; simp
  have m2 : ∀ vs : List Value, (∀ v ∈ vs, v ∈ keys) → vs.mapM typeOf = pure (vs.map fun _ => Value.type T) := by
    intro vs
    induction vs with
    | nil => intro _; simp
    | cons v r ih => intro hv; rw [List.mapM_cons, (h v (hv v (.head _))).2, ih fun u hu => hv u (.tail _ hu)]; simp
  obtain ⟨v, r, rfl⟩ : ∃ v r, keys = v :: r := by cases keys with
    | nil => exact absurd rfl hne
    | cons v r => exact ⟨v, r, rfl⟩
  rw [keyKind'_eq, List.mapM_toArray, m1 _ fun _ h => h]
  simp only [map_pure, pure_bind]
  rw [if_neg (by simp), if_neg (by simp)]
  rw [oneTypeOnly'_eq, List.mapM_toArray, m2 _ fun _ h => h]
  simp only [map_pure, pure_bind]
  have hall : ((List.map (fun _ => Value.type T) (v :: r)).toArray.all fun x => x == Value.type T) = true := by
    simp only [List.all_toArray, List.all_map, List.all_eq_true]
    intro _ _
    simp
  have h0 : (List.map (fun _ => Value.type T) (v :: r)).toArray[0]? = some (Value.type T) := by simp
  rw [h0]
  simp only [hall, if_true, pure_bind, Option.isSome_some]
theorem keys_of {κ : KeyKind} {keys : List Value} {ks : List κ.α} (h : KeysAre κ keys ks) {v : Value} (hv : v ∈ keys) : ∃ k, κ.keyOf v = some k := by
  obtain ⟨i, hi, e⟩ := List.getElem_of_mem hv
  obtain ⟨k, _, ek⟩ := keysAre_at h (List.getElem?_eq_some_iff.mpr ⟨hi, e⟩)
  exact ⟨k, ek⟩
theorem bytesKind_kind {ks : List (List UInt8)} (hne : ks ≠ []) (keys : Array Value) (h : KeysAre bytesKind keys.toList ks) : keyKind' keys = pure oneType' := by
  have := kind_all (T := "bytes") keys.toList (fun e => hne (by have := keysAre_length h; rw [e] at this; exact List.length_eq_zero_iff.mp this.symm)) fun v hv => by
    obtain ⟨k, ek⟩ := keys_of h hv
    cases v <;> simp only [bytesKind, reduceCtorEq] at ek
    exact ⟨rfl, rfl⟩
  rwa [Array.toArray_toList] at this
theorem intKind_kind {ks : List Int} (hne : ks ≠ []) (keys : Array Value) (h : KeysAre intKind' keys.toList ks) : keyKind' keys = pure oneType' := by
  have := kind_all (T := "int") keys.toList (fun e => hne (by have := keysAre_length h; rw [e] at this; exact List.length_eq_zero_iff.mp this.symm)) fun v hv => by
    obtain ⟨k, ek⟩ := keys_of h hv
    cases v <;> simp only [intKind', reduceCtorEq] at ek
    exact ⟨rfl, rfl⟩
  rwa [Array.toArray_toList] at this
section
variable {κ : KeyKind}
theorem enum_at {ks : List κ.α} {vs : List Value} {i : Nat} {t : (κ.α × Nat) × Value} (e : ((ks.zip (List.range ks.length)).zip vs)[i]? = some t) : t.1.2 = i ∧ ks[i]? = some t.1.1 ∧ vs[i]? = some t.2 := by
  obtain ⟨⟨k, j⟩, v⟩ := t
  obtain ⟨e1, e2⟩ := List.getElem?_zip_eq_some.mp e
  obtain ⟨e3, e4⟩ := List.getElem?_zip_eq_some.mp e1
  refine ⟨?_, e3, e2⟩
  have hi : i < ks.length := (List.getElem?_eq_some_iff.mp e3).1
  rw [List.getElem?_range hi] at e4
  exact (Option.some.inj e4).symm
theorem enum_inj {ks : List κ.α} {vs : List Value} {t u : (κ.α × Nat) × Value} (ht : t ∈ (ks.zip (List.range ks.length)).zip vs) (hu : u ∈ (ks.zip (List.range ks.length)).zip vs) (h1 : (lexO κ).kle t.1 u.1) (h2 : (lexO κ).kle u.1 t.1) : t = u := by
  have e : t.1 = u.1 := KeyOrd.kle_antisymm h1 h2
  obtain ⟨i, hi, ei⟩ := List.getElem_of_mem ht
  obtain ⟨j, hj, ej⟩ := List.getElem_of_mem hu
  have ei' := List.getElem?_eq_some_iff.mpr ⟨hi, ei⟩
  have ej' := List.getElem?_eq_some_iff.mpr ⟨hj, ej⟩
  have a := enum_at ei'
  have b := enum_at ej'
  have : i = j := by rw [← a.1, ← b.1, e]
  subst this
  rw [ei'] at ej'
  exact Option.some.inj ej'
/-- what is sorted stays as it is -/
theorem outK_sorted {ks : List κ.α} {vs out : List Value} (h : OutK κ ks vs out) (hlen : ks.length = vs.length) (hs : ∀ (i j : Nat) (a b : κ.α), i ≤ j → ks[i]? = some a → ks[j]? = some b → κ.kle a b) : out = vs := by
  obtain ⟨tr, hp, rfl, hw⟩ := h
  have e : tr = (ks.zip (List.range ks.length)).zip vs := by
    refine List.Perm.eq_of_pairwise (le := fun p q => (lexO κ).kle p.1 q.1) (fun a b ha hb h1 h2 => enum_inj (hp.mem_iff.mp ha) hb h1 h2) hw ?_ hp
    rw [List.pairwise_iff_getElem]
    intro i j hi hj hij
    have a := enum_at (List.getElem?_eq_some_iff.mpr ⟨hi, rfl⟩)
    have b := enum_at (List.getElem?_eq_some_iff.mpr ⟨hj, rfl⟩)
    have h1 := hs i j _ _ (Nat.le_of_lt hij) a.2.1 b.2.1
    show (κ.blt _ _ || (!κ.blt _ _ && decide _)) = false
    rw [show κ.blt _ _ = false from h1, a.1, b.1]
    simp
    intro _; omega
  rw [e, List.map_snd_zip (by rw [List.length_zip, List.length_range]; omega)]
end
/-- rows as sorted would lay them -/
noncomputable def sortR (ps : List Rw) : List Rw := ps.foldl (fun acc p => insR p acc) []
noncomputable def insE (x : Rw × Nat) : List (Rw × Nat) → List (Rw × Nat)
  | [] => [x]
  | q :: r => if wlt x.1.1 q.1.1 then x :: q :: r else q :: insE x r
theorem insE_fst (x : Rw × Nat) : ∀ l, (insE x l).map (·.1) = insR x.1 (l.map (·.1))
  | [] => rfl
  | q :: r => by
    rw [insE, List.map_cons, insR]
    split <;> simp [insE_fst x r]
theorem insE_perm (x : Rw × Nat) : ∀ l, (insE x l).Perm (x :: l)
  | [] => .refl _
  | q :: r => by
    rw [insE]
    split
    · exact .refl _
    · exact (List.Perm.cons q (insE_perm x r)).trans (List.Perm.swap x q r)
noncomputable def leE (p q : Rw × Nat) : Prop := (lexO bytesKind).kle (p.1.1, p.2) (q.1.1, q.2)
theorem insE_sorted (x : Rw × Nat) : ∀ l, (∀ q ∈ l, q.2 < x.2) → l.Pairwise leE → (insE x l).Pairwise leE
  | [], _, _ => List.pairwise_singleton _ _
  | q :: r, hx, hp => by
    rw [insE]
    have hq := hx q (.head _)
    obtain ⟨h1, h2⟩ := List.pairwise_cons.mp hp
    split
    · rename_i hc
      have hxq : leE x q := lexO_kle_of_klt (κ := bytesKind) hc
      refine List.pairwise_cons.mpr ⟨fun y hy => ?_, hp⟩
      rcases List.mem_cons.mp hy with rfl | hy
      · exact hxq
      · exact KeyOrd.kle_trans hxq (h1 y hy)
    · rename_i hc
      have hc' : wlt x.1.1 q.1.1 = false := by simpa using hc
      refine List.pairwise_cons.mpr ⟨fun y hy => ?_, insE_sorted x r (fun y hy => hx y (.tail _ hy)) h2⟩
      rcases List.mem_cons.mp ((insE_perm x r).mem_iff.mp hy) with rfl | hy
      · show (wlt y.1.1 q.1.1 || (!wlt q.1.1 y.1.1 && decide (y.2 < q.2))) = false
        rw [hc']; simp; intro _; omega
      · exact h1 y hy
theorem fold_insE : ∀ (l acc : List (Rw × Nat)), acc.Pairwise leE → (acc ++ l).Pairwise (fun p q => p.2 < q.2) ∨ (∀ p ∈ acc, ∀ q ∈ l, p.2 < q.2) ∧ l.Pairwise (fun p q => p.2 < q.2) →
    (l.foldl (fun a x => insE x a) acc).Pairwise leE ∧ (l.foldl (fun a x => insE x a) acc).Perm (acc ++ l) ∧ (l.foldl (fun a x => insE x a) acc).map (·.1) = (l.map (·.1)).foldl (fun a p => insR p a) (acc.map (·.1))
  | [], acc, h, _ => ⟨h, by simp, rfl⟩
  | x :: l, acc, h, hd => by
    have hd' : (∀ p ∈ acc, ∀ q ∈ x :: l, p.2 < q.2) ∧ (x :: l).Pairwise (fun p q => p.2 < q.2) := by
      rcases hd with hd | hd
      · exact ⟨fun p hp q hq => (List.pairwise_append.mp hd).2.2 p hp q hq, (List.pairwise_append.mp hd).2.1⟩
      · exact hd
    obtain ⟨d1, d2⟩ := hd'
    obtain ⟨d3, d4⟩ := List.pairwise_cons.mp d2
    obtain ⟨a1, a2, a3⟩ := fold_insE l (insE x acc) (insE_sorted x acc (fun q hq => d1 q hq x (.head _)) h) (.inr ⟨fun p hp q hq => by
      rcases List.mem_cons.mp ((insE_perm x acc).mem_iff.mp hp) with rfl | hp
      · exact d3 q hq
      · exact d1 p hp q (.tail _ hq), d4⟩)
    refine ⟨a1, a2.trans ?_, ?_⟩
    · refine ((insE_perm x acc).append_right l).trans ?_
      exact List.perm_middle.symm
    · rw [List.foldl_cons, a3, insE_fst]; rfl
/-- the stable sort of a row -/
theorem outK_rows {h : Heap} {vs out : List Value} {ps : List Rw} (hr : RowAt h vs ps) (ho : OutK bytesKind (ps.map (·.1)) vs out) : RowAt h out (sortR ps) := by
  obtain ⟨tr, hp, rfl, hw⟩ := ho
  have hlen := hr.length
  have hat : ∀ t ∈ tr, ∃ p, ps[t.1.2]? = some p ∧ vs[t.1.2]? = some t.2 ∧ t.1.1 = p.1 := fun t ht => by
    obtain ⟨i, hi, ei⟩ := List.getElem_of_mem (hp.mem_iff.mp ht)
    obtain ⟨a1, a2, a3⟩ := enum_at (κ := bytesKind) (List.getElem?_eq_some_iff.mpr ⟨hi, ei⟩)
    rw [List.getElem?_map] at a2
    obtain ⟨p, e1, e2⟩ := Option.map_eq_some_iff.mp a2
    exact ⟨p, by rw [a1]; exact e1, by rw [a1]; exact a3, e2.symm⟩
  let φ : ((bytesKind.α × Nat) × Value) → Rw × Nat := fun t => ((ps[t.1.2]?).getD ([], Str.ofString ""), t.1.2)
  have hφ : ∀ t ∈ tr, ∃ p, φ t = (p, t.1.2) ∧ ps[t.1.2]? = some p ∧ vs[t.1.2]? = some t.2 ∧ t.1.1 = p.1 := fun t ht => by
    obtain ⟨p, e1, e2, e3⟩ := hat t ht
    exact ⟨p, by show ((ps[t.1.2]?).getD _, _) = _; rw [e1]; rfl, e1, e2, e3⟩
  have hE : (((ps.map (·.1)).zip (List.range (ps.map (·.1)).length)).zip vs).map φ = ps.zip (List.range ps.length) := by
    apply List.ext_getElem?
    intro i
    rw [List.getElem?_map]
    cases hps : ps[i]? with
    | none =>
      have : ps.length ≤ i := List.getElem?_eq_none_iff.mp hps
      rw [List.getElem?_eq_none (by simp; omega), List.getElem?_eq_none (by simp; omega)]; rfl
    | some p =>
      have hi : i < ps.length := (List.getElem?_eq_some_iff.mp hps).1
      obtain ⟨v, hv⟩ : ∃ v, vs[i]? = some v := ⟨_, List.getElem?_eq_getElem (by omega)⟩
      have e1 : ((ps.map (·.1)).zip (List.range (ps.map (·.1)).length))[i]? = some (p.1, i) := List.getElem?_zip_eq_some.mpr ⟨by rw [List.getElem?_map, hps]; rfl, by rw [List.getElem?_range (by simpa using hi)]⟩
      have ez : (((ps.map (·.1)).zip (List.range (ps.map (·.1)).length)).zip vs)[i]? = some ((p.1, i), v) := List.getElem?_zip_eq_some.mpr ⟨e1, hv⟩
      have ey : (ps.zip (List.range ps.length))[i]? = some (p, i) := List.getElem?_zip_eq_some.mpr ⟨hps, by rw [List.getElem?_range hi]⟩
      rw [ez, ey]
      show some ((ps[i]?).getD _, i) = _
      rw [hps]; rfl
  have hidx : (ps.zip (List.range ps.length)).Pairwise (fun p q => p.2 < q.2) := by
    rw [List.pairwise_iff_getElem]
    intro i j hi hj hij
    simp
    exact hij
  obtain ⟨f1, f2, f3⟩ := fold_insE (ps.zip (List.range ps.length)) [] .nil (.inr ⟨fun p hp => (nomatch hp), hidx⟩)
  have e3 : tr.map φ = (ps.zip (List.range ps.length)).foldl (fun a x => insE x a) [] := by
    refine List.Perm.eq_of_pairwise (le := leE) (fun a b ha hb h1 h2 => ?_) ?_ f1 ((hE ▸ hp.map φ).trans f2.symm)
    · have e : (a.1.1, a.2) = (b.1.1, b.2) := KeyOrd.kle_antisymm (O := lexO bytesKind) h1 h2
      have e2 : a.2 = b.2 := (Prod.mk.inj (show ((a.1.1, a.2) : List UInt8 × Nat) = (b.1.1, b.2) from e)).2
      obtain ⟨t, ht, rfl⟩ := List.mem_map.mp ha
      obtain ⟨p, q1, q2, _⟩ := hφ t ht
      have hb' := f2.mem_iff.mp hb
      obtain ⟨j, hj, ej⟩ := List.getElem_of_mem hb'
      have ej' : (ps.zip (List.range ps.length))[j]? = some b := List.getElem?_eq_some_iff.mpr ⟨hj, ej⟩
      obtain ⟨b1, b2⟩ := List.getElem?_zip_eq_some.mp ej'
      have hj2 : j < ps.length := (List.getElem?_eq_some_iff.mp b1).1
      rw [List.getElem?_range hj2] at b2
      have : j = b.2 := Option.some.inj b2
      rw [q1] at e2 ⊢
      have e4 : t.1.2 = b.2 := e2
      rw [e4, ← this, b1] at q2
      exact Prod.ext (Option.some.inj q2).symm e2
    · rw [List.pairwise_map]
      refine hw.imp_of_mem fun {a b} ha hb hab => ?_
      obtain ⟨p, q1, _, _, q4⟩ := hφ a ha
      obtain ⟨p', r1, _, _, r4⟩ := hφ b hb
      show (lexO bytesKind).kle ((φ a).1.1, (φ a).2) ((φ b).1.1, (φ b).2)
      rw [q1, r1]
      show (lexO bytesKind).kle (p.1, a.1.2) (p'.1, b.1.2)
      rw [← q4, ← r4]
      exact hab
  have e4 : tr.map (fun t => (φ t).1) = sortR ps := by
    have := congrArg (List.map (·.1)) e3
    rw [List.map_map] at this
    rw [show (fun t => (φ t).1) = (·.1) ∘ φ from rfl, this, f3, List.map_fst_zip (by simp)]
    rfl
  rw [← e4]
  clear hw e3 e4 hp hat
  induction tr with
  | nil => exact .nil
  | cons t r ih =>
    refine .cons ?_ (ih fun u hu => hφ u (.tail _ hu))
    obtain ⟨p, q1, q2, q3, _⟩ := hφ t (.head _)
    have hi : t.1.2 < ps.length := (List.getElem?_eq_some_iff.mp q2).1
    obtain ⟨v, p2, g1, g2, g3⟩ := hr.get hi
    rw [q3] at g1; rw [q2] at g2
    cases g1; cases g2
    show PairAt h t.2 (φ t).1
    rw [q1]; exact g3
end Mine
end
section
open PySem PySem.W PyProof.Rows PySem.Calls
set_option maxRecDepth 100000
namespace Mine
theorem triples_snoc {a b : Int} {t u : Tok} {c : Value} : ∀ {l : List Value}, TriplesOk l → TriplesOk (l ++ [.int a t, .int b u, c])
  | [], _ => trivial
  | .int _ _ :: .int _ _ :: _ :: rest, h => triples_snoc (l := rest) h
theorem among_snoc {pos : Pos} {a b : Int} {t u : Tok} {c x : Value} : ∀ {l : List Value}, TriplesOk l → codeAmong pos (l ++ [.int a t, .int b u, c]) = some x → codeAmong pos l = some x ∨ x = c
  | [], _, h => by
    simp only [List.nil_append, codeAmong] at h
    split at h
    · exact .inr (Option.some.inj h).symm
    · cases h
  | .int l1 _ :: .int c1 _ :: v :: rest, ht, h => by
    simp only [List.cons_append, codeAmong] at h ⊢
    split at h
    · rename_i hc; rw [if_pos hc]; exact .inl h
    · rename_i hc; rw [if_neg hc]; exact among_snoc (l := rest) ht h
/-- the table of a function's own codes, all of one name -/
noncomputable def TabOk (h : Heap) (P : Addr) (qual : Str) : Prop :=
  ∃ ps, h.get? P = some (tabObj ps) ∧ TriplesOk ps.toList ∧ ∀ pos c, codeAmong pos ps.toList = some c → ∃ c', c = .ref c' ∧ h.CodeRec (.ref c') qual
theorem mut_tab {ps : Array Value} (h : TriplesOk ps.toList) : Mut (tabObj ps) := by
  refine ⟨fun e => absurd e (by show Value.none ≠ Value.type "tuple"; decide), fun _ e => (by cases e), fun f e q t hq => ?_⟩
  cases e
  rw [← Array.getElem?_toList] at hq
  revert h hq
  generalize ps.toList = l
  intro h hq
  match l, h with
  | .int _ _ :: .int _ _ :: _ :: rest, _ => simp at hq
theorem TabOk.mut {h : Heap} {P : Addr} {qual : Str} (x : TabOk h P qual) : ∃ o, h.get? P = some o ∧ Mut o := let ⟨_, e, t, _⟩ := x; ⟨_, e, mut_tab t⟩
theorem TabOk.ext {h h' : Heap} {P : Addr} {qual : Str} {S : List Addr} (x : TabOk h P qual) (k : Ext S h h') (hS : Muts h S) (hP : P ∉ S) : TabOk h' P qual := by
  obtain ⟨ps, e, t, c⟩ := x
  exact ⟨ps, k _ _ e hP, t, fun pos v hv => let ⟨c', e1, e2⟩ := c pos v hv; ⟨c', e1, codeRec_ext e2 k hS⟩⟩
theorem muts_app {h : Heap} {S T : List Addr} (x : Muts h S) (y : Muts h T) : Muts h (S ++ T) := fun a ha => (List.mem_append.mp ha).elim (x a) (y a)
theorem muts_cons {h : Heap} {a : Addr} {T : List Addr} (x : ∃ o, h.get? a = some o ∧ Mut o) (y : Muts h T) : Muts h (a :: T) := fun b hb => by
  rcases List.mem_cons.mp hb with rfl | hb
  · exact x
  · exact y b hb
section
variable {M : Model} {A : Around} {E : Value → Shared → Prop} {s : Shared} {qual : Str} {params : Arguments} {body : Expr} {scope : Scope} {env : Env} {c P L : Addr} {pos : Pos} {mg mb : Str → Option Value} {g : Heap} {m : Str → Option Value}
  {Q : Value → Shared → Prop} {p : Program} {loose : List Str} {mean : ExcName → Option Value}
theorem lamMake (hdef : defaultsOf params env = ([], [])) (hcl : closureFor scope env = pure []) (hge0 : env.globals = mainGlobals) (hcode : env.code = .ref c) (hq : env.qual ++ Str.ofString "<lambda>" = qual)
    (F : Fr g L s.heap m) (T : Top p loose mean mg mb g) (C : CodeHd g c P) (hPn : g.get? P = none) (hP : TabOk s.heap P qual)
    (h : ∀ f c' ctv pm h' tk, Ext [P] s.heap h' → s.heap.get? f = none → h'.get? f = some (kla_obj (Str.ofString "<lambda>") qual params body scope [] pm c' ctv) → h'.CodeRec (.ref c') qual → TabOk h' P qual → Q (.ref f) { s with heap := h', toks := tk }) :
    wpAny M A (eval (.Lambda params body scope pos) env) Q E s := by
  refine kla_eval hdef ?_
  show wpAny M A (makeFunction (Str.ofString "<lambda>") (env.qual ++ Str.ofString "<lambda>") params (.expr body) scope env [] [] [] pos pos.line) Q E s
  rw [hq]
  obtain ⟨ps, hps, ht, hc⟩ := hP
  have hgs := T.g.keeps F.keep
  obtain ⟨bm, ob, b1, b2, b3, b4, b5, b6⟩ := T.bmain
  have hgP : mainGlobals ≠ P := fun q => by
    obtain ⟨o, es, ep, e, hd, _⟩ := hgs
    rw [q, hps] at e; cases e; cases hd
  have hbP : bm ≠ P := fun q => by
    have e := F.keep _ _ b3
    rw [q, hps] at e; cases e; cases b4
  have hbG : bm ≠ mainGlobals := fun q => by
    obtain ⟨o, es, ep, e, hd, _⟩ := T.g
    rw [q, e] at b3; cases b3; rw [hd] at b6; cases b6
  have hfresh : ∀ {x : Heap}, x.get? x.objs.size = none := fun {x} => by
    cases q : x.get? x.objs.size with
    | none => rfl
    | some o => exact absurd (Heap.lt_size q) (Nat.lt_irrefl _)
  cases hf : codeAmong pos ps.toList with
  | some cv =>
    obtain ⟨c', rfl, hrec⟩ := hc pos cv hf
    refine kla_makeFunctionHit (mg := mg) hcl hge0 hgs hcode (C.keeps F.keep) hps ht hf ⟨bm, ob, b1, b2, hbG, hbP, F.keep _ _ b3, b4, b5, b6⟩ fun ctv h' tk hk hsz => ?_
    have hk' : ∀ b o, s.heap.get? b = some o → (h'.push (kla_obj (Str.ofString "<lambda>") qual params body scope [] ((mg "__name__").getD .none) c' ctv)).get? b = some o := fun b o e => Heap.get?_push_of_some _ (hk _ _ e)
    refine h _ c' ctv _ _ tk (fun b o e _ => hk' b o e) ?_ (Heap.get?_push_size _ rfl) (hrec.keeps hk') ⟨ps, hk' _ _ hps, ht, fun pos v hv => let ⟨c', e1, e2⟩ := hc pos v hv; ⟨c', e1, e2.keeps hk'⟩⟩
    exact Heap.get?_none_of_le hsz
  | none =>
    refine kla_makeFunction (mg := mg) hcl hge0 hgs hcode (C.keeps F.keep) hps ht hf hgP ⟨bm, ob, b1, b2, hbG, hbP, F.keep _ _ b3, b4, b5, b6⟩ fun c' ctv h' tk hx hge hlt hrec htb => ?_
    have up : ∀ b o, h'.get? b = some o → (h'.push (kla_obj (Str.ofString "<lambda>") qual params body scope [] ((mg "__name__").getD .none) c' ctv)).get? b = some o := fun b o e => Heap.get?_push_of_some _ e
    have hE : Ext [P] s.heap (h'.push (kla_obj (Str.ofString "<lambda>") qual params body scope [] ((mg "__name__").getD .none) c' ctv)) := fun b o e hb => up _ _ (hx b o (fun q => hb (by rw [q]; exact .head _)) e)
    have hrec' : (h'.push (kla_obj (Str.ofString "<lambda>") qual params body scope [] ((mg "__name__").getD .none) c' ctv)).CodeRec (.ref c') qual := hrec.keeps up
    have eps : (ps ++ #[rawInt pos.line, rawInt pos.col, Value.ref c']).toList = ps.toList ++ [rawInt pos.line, rawInt pos.col, Value.ref c'] := by simp
    refine h _ c' ctv _ _ tk hE ?_ (Heap.get?_push_size _ rfl) hrec' ⟨_, up _ _ htb, by rw [eps]; exact triples_snoc ht, fun pos' v hv => ?_⟩
    · exact Heap.get?_none_of_le (Nat.le_trans hge (Nat.le_of_lt hlt))
    · rw [eps] at hv
      rcases among_snoc ht hv with hv | rfl
      · obtain ⟨c2, e1, e2⟩ := hc pos' v hv
        exact ⟨c2, e1, codeRec_ext e2 hE (muts_one hps (mut_tab ht))⟩
      · exact ⟨c', rfl, hrec'⟩
end
end Mine
end
section
open PySem PySem.W PyProof.Rows PySem.Calls
set_option maxRecDepth 100000
namespace Mine
section
variable {w : World} {A : Around} {s : Shared} {env : Env}
/-- what a turn leaves -/
noncomputable def TurnEnd (J : Shared → Prop) (Q : Flow → Shared → Prop) (f : Flow) (s : Shared) : Prop := match f with
  | .next | .cont => J s
  | .brk => Q .next s
  | .ret v => Q (.ret v) s
noncomputable def ForAt (w : World) (A : Around) (env : Env) (x : Str) (body : List Stmt) (Q : Flow → Shared → Prop) (it : Value) (s₂ : Shared) : Prop :=
  ∃ (I : Addr) (fp wr : List Addr) (n : Nat) (P : Nat → Value → Prop) (St : Nat → Heap → Prop) (J : Nat → Shared → Prop), it = .ref I ∧ Walks PySem.Challenge.rw_uc0036_01.prog w A I fp wr n P St ∧ J 0 s₂ ∧ (∀ i s', J i s' → St i s'.heap) ∧
    (∀ i s' v h' tk, i < n → J i s' → P i v → St (i + 1) h' → Ext wr s'.heap h' →
      wpAny (MM w) A (storeName env x v) (fun _ s₃ => wpAny (MM w) A (execs body env) (TurnEnd (J (i + 1)) Q) (fun _ _ => False) s₃) (fun _ _ => False) { s' with heap := h', toks := tk }) ∧
    ∀ s' h' tk, J n s' → Ext wr s'.heap h' → Q .next { s' with heap := h', toks := tk }
theorem step_out {x : Str} {v : Value} {body : List Stmt} {J : Shared → Prop} {Q : Flow → Shared → Prop} {E : Value → Shared → Prop} (h : ∀ Q' : Flow → Shared → Prop, (∀ s, J s → Q' .next s) → (∀ v s, Q (.ret v) s → Q' (.ret v) s) → wpAny (MM w) A (storeName env x v) (fun _ s₃ => wpAny (MM w) A (execs body env) Q' E s₃) E s) :
    wpAny (MM w) A (storeName env x v) (fun _ s₃ => wpAny (MM w) A (execs body env) (TurnEnd J Q) E s₃) E s := h _ (fun _ x => x) fun _ _ x => x
theorem forW {x : Str} {px pos : Pos} {iter : Expr} {body : List Stmt} {Q : Flow → Shared → Prop} (hh : A.handled = none)
    (h : wpAny (MM w) A (eval iter env) (fun xv s₁ => wpAny (MM w) A (pyIter xv) (ForAt w A env x body Q) (fun _ _ => False) s₁) (fun _ _ => False) s)
    (hs : ∀ x, foldedSetIterable iter env x = pure x := by intro _; rfl) : wpAny (MM w) A (exec (.For (.Name x px) iter body [] pos) env) Q (fun _ _ => False) s := by
  refine wpAny_For (wpAny_mono h (fun xv s₁ h₁ => wpAny_mono h₁ (fun it s₂ h₂ => ?_) fun _ _ e => e.elim) fun _ _ e => e.elim) hs
  obtain ⟨I, fp, wr, n, P, St, J, rfl, W, j0, jst, step, fin⟩ := h₂
  refine codeAny_forLoop_any (fun k s' => ∃ i, i + k = n ∧ J i s') (fun k s' hI => ?_) n ⟨0, by omega, j0⟩
  obtain ⟨i, hik, hJ⟩ := hI
  by_cases hi : i < n
  · refine W.item i s' _ _ hi (jst i s' hJ) fun v h' tk hP hst hx => ?_
    dsimp only
    refine wpAny_pure ?_
    refine wpAny_assign_Name (wpAny_mono (step i s' v h' tk hi hJ hP hst (fun b o e hb => hx b o hb e)) (fun _ s₃ q => ?_) fun _ _ e => e.elim)
    refine wpAny_mono q (fun f s₄ q => ?_) fun _ _ e => e.elim
    cases f with
    | next => exact ⟨k - 1, by omega, i + 1, by omega, q⟩
    | cont => exact ⟨k - 1, by omega, i + 1, by omega, q⟩
    | brk => exact q
    | ret v => exact q
  · have : i = n := by omega
    subst this
    refine W.done s' _ _ (jst _ s' hJ) fun h' tk hx => ?_
    dsimp only
    exact wpAny_execs_nil (fin s' h' tk hJ fun b o e hb => hx b o hb e)
end
/-- all else that lies there -/
noncomputable def rest (g : Heap) (L : Addr) (h : Heap) (S : List Addr) : List (Addr × Obj) := by
  classical
  exact (List.range h.objs.size).filterMap fun b => if b ∈ S ∨ b = L ∨ (g.get? b).isSome = true then none else (h.get? b).map (b, ·)
theorem rest_mem {g h : Heap} {L b : Addr} {o : Obj} {S : List Addr} (e : h.get? b = some o) (hS : b ∉ S) (hL : b ≠ L) (hg : g.get? b = none) : (b, o) ∈ rest g L h S := by
  unfold rest
  refine List.mem_filterMap.mpr ⟨b, List.mem_range.mpr (Heap.lt_size e), ?_⟩
  rw [if_neg (fun q => q.elim hS (fun q => q.elim hL (fun q => by rw [hg] at q; cases q))), e]; rfl
theorem rest_of {g h : Heap} {L : Addr} {S : List Addr} {p : Addr × Obj} (hp : p ∈ rest g L h S) : h.get? p.1 = some p.2 ∧ p.1 ∉ S ∧ p.1 ≠ L ∧ g.get? p.1 = none := by
  unfold rest at hp
  obtain ⟨b, _, e⟩ := List.mem_filterMap.mp hp
  split at e
  · cases e
  · rename_i hc
    obtain ⟨o, e1, rfl⟩ := Option.map_eq_some_iff.mp e
    refine ⟨e1, fun q => hc (.inl q), fun q => hc (.inr (.inl q)), ?_⟩
    cases q : g.get? b with
    | none => rfl
    | some o => exact absurd (.inr (.inr (by rw [q]; rfl))) hc
theorem rest_news {g h : Heap} {L : Addr} {S : List Addr} : News g L h (rest g L h S) := fun _ hp => ⟨(rest_of hp).1, (rest_of hp).2.2.1, (rest_of hp).2.2.2⟩
theorem rest_off {g h : Heap} {L a : Addr} {S : List Addr} (ha : a ∈ S) : ∀ p ∈ rest g L h S, p.1 ≠ a := fun _ hp q => (rest_of hp).2.1 (q ▸ ha)
theorem ext_of_rest {g h h' : Heap} {L : Addr} {m m' : Str → Option Value} {S : List Addr} (F : Fr g L h m) (F' : Fr g L h' m') (N' : News g L h' (rest g L h S)) : Ext (L :: S) h h' := fun b o e hb => by
  cases q : g.get? b with
  | some o' =>
    have := F.keep _ _ q
    rw [e] at this; cases this
    exact F'.keep _ _ q
  | none => exact (N' _ (rest_mem e (fun q => hb (.tail _ q)) (fun q => hb (by rw [q]; exact .head _)) q)).1
theorem news_sub {g h : Heap} {L : Addr} {n n' : List (Addr × Obj)} (N : News g L h n) (k : ∀ p ∈ n', p ∈ n) : News g L h n' := fun p hp => N p (k p hp)
theorem mem_tail {p a : Addr × Obj} {l : List (Addr × Obj)} (h : p ∈ l) : p ∈ a :: l := .tail _ h
/-- the places of the names, told by a text or by a list -/
noncomputable def NamesAt (h : Heap) (nv : Value) (ns : List Nat) : Prop :=
  (∀ k ∈ ns, k < 6) ∧ ((∃ t, nv = .str ⟨(ns.map (97 + ·)).toArray⟩ t) ∨ ∃ a items, nv = .ref a ∧ h.IsList a (List.toArray items) ∧ StrsV items (ns.map nmA))
theorem StrsV.at {i : Nat} {v : Value} : ∀ {vs : List Value} {cs : List (Array Nat)} {i : Nat}, StrsV vs cs → vs[i]? = some v → ∃ c t, cs[i]? = some c ∧ v = .str ⟨c⟩ t
  | _, _, _, .nil, e => by simp at e
  | _, _, 0, .cons (c := c) (t := t) r, e => ⟨c, t, rfl, by simpa using e.symm⟩
  | _, _, i + 1, .cons r, e => by
    obtain ⟨c, t, h1, h2⟩ := r.at (i := i) (by simpa using e)
    exact ⟨c, t, by simpa using h1, h2⟩
section
variable {w : World} {A : Around} {s : Shared} {E : Value → Shared → Prop}
theorem iterNames {nv : Value} {ns : List Nat} {Q : Value → Shared → Prop} (hh : A.handled = none) (hn : NamesAt s.heap nv ns)
    (h : ∀ I fp wr P St h', Walks PySem.Challenge.rw_uc0036_01.prog w A I fp wr ns.length P St → (∀ i v, P i v → ∃ k t, ns[i]? = some k ∧ v = .str ⟨nmA k⟩ t) → St 0 h' → Ext [] s.heap h' → wr = [I] → s.heap.get? I = none →
      (∀ b ∈ fp, b = I ∨ nv = .ref b) → (∀ i h, St i h → Muts h [I]) → Q (.ref I) { s with heap := h' }) : wpAny (MM w) A (pyIter nv) Q E s := by
  have fresh : s.heap.get? s.heap.objs.size = none := Heap.get?_none_of_le (Nat.le_refl _)
  obtain ⟨h6, ⟨t, rfl⟩ | ⟨a, items, rfl, hl, hs⟩⟩ := hn
  · have ha : (⟨(ns.map (97 + ·)).toArray⟩ : Str).cps.all (· < 128) = true := by
      rw [Array.all_eq_true]
      intro i hi
      have hi' : i < (ns.map (97 + ·)).length := by simpa using hi
      have := h6 _ (List.getElem_mem (l := ns) (n := i) (by simpa using hi))
      simp
      omega
    refine wpAny_pyIter_ascii ha ?_
    have W := Walks.strAscii (prog := PySem.Challenge.rw_uc0036_01.prog) (w := w) hh s.heap.objs.size ⟨(ns.map (97 + ·)).toArray⟩ t
    have hsz : (⟨(ns.map (97 + ·)).toArray⟩ : Str).cps.size = ns.length := by simp
    rw [hsz] at W
    refine h _ _ _ _ _ _ W (fun i v hv => ?_) ⟨_, Heap.get?_push_size _ rfl, rfl, rfl⟩ (ext_of_keep fun b o e => Heap.get?_push_of_some _ e) rfl fresh (fun b hb => .inl (List.mem_singleton.mp hb)) fun i h st => ?_
    · obtain ⟨c, t', e1, e2⟩ := hv
      have e1' : (ns.map (97 + ·))[i]? = some c := by simpa using e1
      rw [List.getElem?_map] at e1'
      obtain ⟨k, ek, rfl⟩ := Option.map_eq_some_iff.mp e1'
      exact ⟨k, t', ek, e2⟩
    · obtain ⟨o, ho, hc, hd⟩ := st
      refine muts_one ho ⟨fun e => ?_, fun f e => ?_, fun f e q t hq => ?_⟩
      · rw [hc] at e; exact absurd e (by decide)
      · rw [hd] at e; cases e
      · rw [hd] at e; cases e; simp at hq
  · have hlt : a < s.heap.objs.size := by obtain ⟨_, e, _⟩ := hl; exact Heap.lt_size e
    refine wpAny_pyIter_list hl ?_
    have hsz : items.toArray.size = ns.length := by have := hs.length; simpa using this
    have W := Walks.list (prog := PySem.Challenge.rw_uc0036_01.prog) (w := w) hh s.heap.objs.size a (Nat.ne_of_lt hlt) items.toArray
    rw [hsz] at W
    refine h _ _ _ _ _ _ W (fun i v hv => ?_) ⟨⟨_, Heap.get?_push_size _ rfl, rfl, rfl⟩, hl.push _⟩ (ext_of_keep fun b o e => Heap.get?_push_of_some _ e) rfl fresh (fun b hb => ?_) fun i h st => ?_
    · obtain ⟨c, t, e1, e2⟩ := hs.at (v := v) (i := i) (by simpa using hv)
      rw [List.getElem?_map] at e1
      obtain ⟨k, ek, rfl⟩ := Option.map_eq_some_iff.mp e1
      exact ⟨k, t, ek, e2⟩
    · rcases List.mem_cons.mp hb with rfl | hb
      · exact .inl rfl
      · rw [List.mem_singleton.mp hb]; exact .inr rfl
    · obtain ⟨⟨o, ho, hc, hd⟩, _⟩ := st
      refine muts_one ho ⟨fun e => ?_, fun f e => ?_, fun f e q t hq => ?_⟩
      · rw [hc] at e; exact absurd e (by decide)
      · rw [hd] at e; cases e
      · rw [hd] at e; cases e; simp at hq
end
end Mine
end
section
open PySem PySem.W PyProof.Rows PySem.Calls PySem.Spec PyProof.V
set_option maxRecDepth 100000
namespace Mine
theorem fillDue : (∀ w : World, hd.heap_39 w.params = hd.heap_39 w.params) ∧ PySem.Challenge.rw_uc0036_01.foot = 6 := by
  k_fill
  w_top off
  exact ⟨fun _ => rfl, rfl⟩
/-- how much each guest still wishes for -/
noncomputable def LfAt (w : World) (h : Heap) (lf : Addr) (ns : List Nat) (LF : Nat → Int) : Prop :=
  ∃ kvs, h.DictOf (strKind PySem.Challenge.rw_uc0036_01.prog w) lf kvs ∧ kvs.length ≤ 100 ∧ ∀ i ∈ ns, ∃ t, valueAt kvs ⟨nmA i⟩ = some (.int (LF i) t)
theorem LfAt.ext {w : World} {h h' : Heap} {lf : Addr} {ns : List Nat} {LF : Nat → Int} {S : List Addr} (x : LfAt w h lf ns LF) (k : Ext S h h') (hS : lf ∉ S) : LfAt w h' lf ns LF := by
  obtain ⟨kvs, ⟨o, es, ep, ho, r⟩, h2⟩ := x
  exact ⟨kvs, ⟨o, es, ep, k _ _ ho hS, r⟩, h2⟩
theorem NamesAt.keeps {h h' : Heap} {nv : Value} {ns : List Nat} (x : NamesAt h nv ns) (k : ∀ b o, h.get? b = some o → h'.get? b = some o) : NamesAt h' nv ns :=
  ⟨x.1, x.2.imp id fun ⟨a, items, e, hl, hs⟩ => ⟨a, items, e, stays_list k hl, hs⟩⟩
theorem row_nodup {h : Heap} {vs : List Value} {ps : List Rw} (hr : RowAt h vs ps) (hp : ps.Nodup) : vs.Nodup := by
  rw [List.nodup_iff_pairwise_ne, List.pairwise_iff_getElem]
  intro i j hi hj hij e
  have hlen := hr.length
  obtain ⟨v, p, e1, e2, a, tw, tn, rfl, e3⟩ := hr.get (i := i) (by omega)
  obtain ⟨v', p', g1, g2, a', tw', tn', rfl, g3⟩ := hr.get (i := j) (by omega)
  rw [List.getElem?_eq_getElem hi] at e1
  rw [List.getElem?_eq_getElem hj] at g1
  rw [Option.some.inj e1, Option.some.inj g1] at e
  cases e
  rw [e3] at g3
  have q : #[Value.bytes p.1.toArray tw, Value.str p.2 tn] = #[Value.bytes p'.1.toArray tw', Value.str p'.2 tn'] := by injection g3 with q; injection q with _ _ q; injection q
  have q2 := congrArg Array.toList q
  simp at q2
  have hpp : p = p' := Prod.ext q2.1.1 q2.2.1
  subst hpp
  have := List.pairwise_iff_getElem.mp (List.nodup_iff_pairwise_ne.mp hp) i j (by omega) (by omega) hij
  rw [List.getElem?_eq_getElem (by omega)] at e2 g2
  exact this ((Option.some.inj e2).trans (Option.some.inj g2).symm)
noncomputable abbrev prOf (G : Gs) (LF : Nat → Nat) (k : Nat) : Rw := (wd (LF k) (G k).2, ⟨nmA k⟩)
theorem none_ne {h : Heap} {a b : Addr} {o : Obj} (e : h.get? a = none) (e' : h.get? b = some o) : b ≠ a := fun q => by rw [q, e] at e'; cases e'
theorem item_map {w : World} {A : Around} {E : Value → Shared → Prop} {s : Shared} {value slice : Expr} {d : Addr} {x : Str} {t : Tok} {kvs : List (Str × Value)} {v : Value} {Q : Value → Shared → Prop} (hd : s.heap.DictOf (strKind PySem.Challenge.rw_uc0036_01.prog w) d kvs) (hv : valueAt kvs x = some v)
    (h : Q v { s with toks := s.toks + 1 })
    (hs : subscripted slice false (.ref d) (.str x t) = operate [.ref d, .str x t] (getItem (.ref d) (.str x t)) := by with_unfolding_all rfl) (hg : ∀ r, letTemporaryGo value (.ref d) r = pure () := by intro _; with_unfolding_all rfl) :
    wpAny (MM w) A (subscriptTail value slice (.ref d) (.str x t)) Q E s :=
  subscriptTail_builtin hd.typeIs slot_dict_getitem.lookup (wpAny_getItem_of (strKind_is _ _ _ _) hd.mapOf hv h) hs hg
local macro_rules | `(tactic| k_all) => `(tactic| assumption)
local macro_rules | `(tactic| walk_at "eval Name") => `(tactic| (k_here; k_dflt (refine' nameX_L ?F ?v ?_ ?a ?b; (case F => k_asm); (case a => rfl); (case b => rfl); (case v => assumption); k_whole)))
local macro_rules | `(tactic| walk_at "call ref") => `(tactic| refine Mine.stop_in ?_)
local macro_rules | `(tactic| walk_at "exec For") => `(tactic| refine Mine.stop_in ?_)
local macro_rules | `(tactic| walk_at "eval Lambda") => `(tactic| refine Mine.stop_in ?_)
local macro_rules | `(tactic| walk_at "call builtin:ord") => `(tactic| (refine PyProof.P.ord_of_char ?_))
set_option maxHeartbeats 8000000 in
theorem due {w : World} {p : Program} {loose : List Str} {mean : ExcName → Option Value} {mg mb : Str → Option Value} {dp un : Nat} {fr : Option (List Env)} {gd : Option (List Code)} {s : Shared} {Q : Value → Shared → Prop}
   {ga lf : Addr} {nv : Value} {ns : List Nat} {G : Gs} {LF : Nat → Nat}
   (hdp : dp < 700) (hun : un < 4800) (hLF : ∀ k, LF k < 6) (hG2 : ∀ k, (G k).2 < 4096) (hn2 : 2 ≤ ns.length) (hn6 : ns.length < 60) (hnd : ns.Nodup)
   (X : (hd.heap_39 w.params).In (hideAll s.heap [238])) (T : Top p loose mean mg mb (hideAll s.heap [238]))
   (hT : TabOk s.heap 238 (Str.ofString "_law_due.<locals>.<lambda>"))
   (hG : GAt (hideAll s.heap [238]) ga G) (hlf : LfAt w (hideAll s.heap [238]) lf ns fun i => LF i) (hns : NamesAt (hideAll s.heap [238]) nv ns)
   (C : CodeHd (hideAll s.heap [238]) 242 238)
   (hQ : ∀ h' D out n tk, Ext [238] s.heap h' → TabOk h' 238 (Str.ofString "_law_due.<locals>.<lambda>") → s.heap.get? D = none → h'.get? D = some (lstO (List.toArray out) n) → RowAt h' out (sortR (ns.map (prOf G LF))) → Q (.ref D) { s with heap := h', toks := tk }) :
   wpAny (MM w) (AA dp un fr gd) (call (.ref 243) [.ref ga, .ref lf, nv]) Q (fun _ _ => False) s := by
  refine wpAny_call ?_
  have hT' := hT
  obtain ⟨ps, hps, hps2, hps3⟩ := hT'
  refine' enter (D := [(238, tabObj ps)]) ?_ X T ?ho ?hcd ?hroom (binds := [(Str.ofString "guests", .ref ga), (Str.ofString "left", .ref lf), (Str.ofString "names", nv)]) ?hbind ?hloc ?_ ?c1 ?c2 ?c3 ?c4
  case ho => k_is
  case hcd => k_is
  case hroom => (show dp < 1000; omega)
  case hbind => exact BindsTo.of_eq rfl
  case hloc => exact locs rfl
  case c1 => rfl
  case c2 => rfl
  case c3 => rfl
  case c4 => decide
  · exact all_c hps all_n
  intro g L h₁ hg F' N' X' T'
  replace hg : g = hideAll s.heap [238] := hg
  subst hg
  dsimp only
  k_steps
  rename Fr _ _ _ _ => F1
  rename News _ _ _ _ => N1
  rename_i dl _ hl1 hA
  refine Mine.stop_out ?_
  refine forW rfl (nameX_L F1 rfl ?_ rfl rfl)
  refine iterNames rfl (hns.keeps F1.keep) ?_
  intro I fp wr P St h2 W hP hst x2 hwr hI0 hfp hIm
  subst hwr
  have hgI : (hideAll s.heap [238]).get? I = none := by
    cases q : (hideAll s.heap [238]).get? I with
    | none => rfl
    | some o => have := F1.keep _ _ q; rw [hI0] at this; cases this
  have neL : L ≠ I := by obtain ⟨o, _, _, e, _⟩ := F1.ns; exact none_ne hI0 e
  have neD : dl ≠ I := none_ne hI0 (N1 _ (.head _)).1
  have neP : 238 ≠ I := none_ne hI0 (N1 (238, _) (.tail _ (.head _))).1
  have hL0 : (hideAll s.heap [238]).get? L = none := Heap.get?_none_of_le F1.above
  have hd0 := (N1 _ (.head _)).2
  have hfpn : ∀ b ∈ fp, b ∉ [L, dl, 238] := by
    intro b hb
    have no : ∀ {b : Nat}, b ≠ L → b ≠ dl → b ≠ 238 → b ∉ [L, dl, 238] := fun h1 h2 h3 q => by
      rcases List.mem_cons.mp q with q | q
      · exact h1 q
      rcases List.mem_cons.mp q with q | q
      · exact h2 q
      · exact h3 (List.mem_singleton.mp q)
    rcases hfp b hb with rfl | e
    · exact no (Ne.symm neL) (Ne.symm neD) (Ne.symm neP)
    · obtain ⟨_, ⟨t, e2⟩ | ⟨a, its, e2, ⟨o, ho, _⟩, _⟩⟩ := hns
      · rw [e] at e2; cases e2
      · rw [e] at e2; cases e2
        have n1 : b ≠ L := none_ne hL0 ho
        have n2 : b ≠ dl := none_ne hd0.2 ho
        have n3 : b ≠ 238 := none_ne (hideAll_none _ (.head _)) ho
        exact no n1 n2 n3
  refine ⟨I, fp, [I], ns.length, P, St, fun i s' => ∃ h tk m items n, s' = { s with heap := h, toks := tk } ∧ Fr (hideAll s.heap [238]) L h m ∧ News (hideAll s.heap [238]) L h [(dl, lstO (List.toArray items) n), (238, tabObj ps)] ∧
    RowAt h items ((ns.take i).map (prOf G LF)) ∧ St i h ∧ m (Str.ofString "guests") = some (.ref ga) ∧ m (Str.ofString "left") = some (.ref lf) ∧ m (Str.ofString "due") = some (.ref dl), rfl, W, ?j0, ?jst, ?step, ?fin⟩
  case j0 => exact ⟨_, _, _, [], _, rfl, fr_ext0 F1 x2, news_ext0 N1 x2, .nil, hst, rfl, rfl, rfl⟩
  case jst =>
    rintro i s' ⟨h, tk, m, items, n, rfl, _, _, _, hst, _⟩
    exact hst
  case step =>
    intro i s' v h' tk hi hJ hPv hst' x'
    refine step_out ?_
    intro Q' hQ' _
    obtain ⟨h, tk0, m, items, n, rfl, F2, N2, hr, hst2, m1, m2, m3⟩ := hJ
    dsimp only
    obtain ⟨k, t, ek, rfl⟩ := hP i v hPv
    have hkm := List.mem_of_getElem? ek
    have hk6 := hns.1 k hkm
    have F3 := fr_ext F2 x' (fun q => neL (List.mem_singleton.mp q)) (all_c hgI all_n)
    have N3 := news_ext N2 x' (all_c (fun q => neD (List.mem_singleton.mp q)) (all_c (fun q => neP (List.mem_singleton.mp q)) all_n))
    have hr3 := hr.ext x' (hIm i h hst2)
    have hlen := hr.length
    obtain ⟨cs, hcs⟩ : ∃ cs, cs = rest (hideAll s.heap [238]) L h' [dl, 238] := ⟨_, rfl⟩
    have hc1 : ∀ p ∈ cs, p.1 ≠ dl := hcs ▸ rest_off (at_ 0 rfl)
    have hc2 : ∀ p ∈ cs, p.1 ≠ 238 := hcs ▸ rest_off (at_ 1 rfl)
    have N4 : News (hideAll s.heap [238]) L h' ((dl, lstO (List.toArray items) n) :: (238, tabObj ps) :: cs) := all_c (N3 _ (.head _)) (all_c (N3 _ (.tail _ (.head _))) fun p hp => rest_news p (hcs ▸ hp))
    have F3' : True ∧ Fr _ _ _ _ := ⟨trivial, F3⟩
    have etk : (ns.take (i + 1)).map (prOf G LF) = (ns.take i).map (prOf G LF) ++ [prOf G LF k] := by rw [List.take_succ, ek]; simp
    have hdl := (N4 _ (.head _)).1
    have htb := (N4 (238, tabObj ps) (.tail _ (.head _))).1
    have hTm' : ∃ o, h'.get? 238 = some o ∧ Mut o := ⟨_, htb, mut_tab hps2⟩
    clear F1 N1 F2 N2 N3 hPv hst2 hr ek
    k_steps
    rename Fr _ _ _ _ => F5
    have hix : (((97 + k : Nat) : Int) - 97) = (k : Int) := by omega
    rw [hix]
    obtain ⟨gits, hgl, hg6, hgi⟩ := hG
    obtain ⟨ia, tw, tm, e1, e2⟩ := hgi k hk6
    have hi2 : gits.toArray[((k : Nat) : Int).toNat]? = some (Value.ref ia) := by simpa using e1
    refine item_list (stays_list F5.keep hgl) (Int.natCast_nonneg k) (by omega) hi2 ?_
    have e3 := F5.keep _ _ e2
    clear hi2 e1 hgi hgl
    k_steps
    refine item_tupleT (l := [.int (G k).1 tw, .int (G k).2 tm]) (j := 1) ⟨_, e3, rfl, _, rfl⟩ (by decide) (by decide) rfl rfl ?_
    clear e2 e3
    k_steps
    rename Fr _ _ _ _ => F6
    obtain ⟨kvs, hdo, _, hvs⟩ := hlf
    obtain ⟨tv, hv⟩ := hvs k hkm
    refine item_map (hdo.keep F6.keep) hv ?_
    clear hvs hv hdo
    k_steps
    rename Fr _ _ _ _ => F7
    rename News _ _ _ _ => N7
    have hL6 := hLF k
    have hG4 := hG2 k
    have a0 : (((G k).2 : Nat) : Int).fdiv 256 = (((G k).2 / 256 : Nat) : Int) := by rw [Int.fdiv_eq_ediv_of_nonneg _ (by decide)]; omega
    have a1 : ((((G k).2 : Nat) : Int).fdiv 16).fmod 16 = (((G k).2 / 16 % 16 : Nat) : Int) := by rw [Int.fdiv_eq_ediv_of_nonneg _ (by decide), Int.fmod_eq_emod_of_nonneg _ (by decide)]; omega
    have a2 : (((G k).2 : Nat) : Int).fmod 16 = (((G k).2 % 16 : Nat) : Int) := by rw [Int.fmod_eq_emod_of_nonneg _ (by decide)]; omega
    rw [a0, a1, a2] at N7
    refine bytes_K F7 N7 ⟨_, (N7 _ (.head _)).1, rfl, _, rfl⟩ (.cons _ _ (.cons _ _ (.cons _ _ (.cons _ _ .nil)))) ?_ (by show (4 : Nat) ≤ 16777216; omega) rfl ?_
    · intro n hn
      simp only [List.mem_cons, List.not_mem_nil, or_false] at hn
      rcases hn with rfl | rfl | rfl | rfl <;> omega
    intro h8 t8 k8 F8 N8 _
    have hbs : [66 + (LF k : Int), 65 + (((G k).2 / 256 : Nat) : Int), 65 + (((G k).2 / 16 % 16 : Nat) : Int), 65 + (((G k).2 % 16 : Nat) : Int)].map (fun n => n.toNat.toUInt8) = wd (LF k) (G k).2 := by
      rw [wd_eq hL6 hG4]
      simp only [List.map_cons, List.map_nil]
      rw [show (66 + (LF k : Int)).toNat = 66 + LF k by omega, show (65 + (((G k).2 / 256 : Nat) : Int)).toNat = 65 + (G k).2 / 256 by omega, show (65 + (((G k).2 / 16 % 16 : Nat) : Int)).toNat = 65 + (G k).2 / 16 % 16 by omega, show (65 + (((G k).2 % 16 : Nat) : Int)).toNat = 65 + (G k).2 % 16 by omega]
    rw [hbs]
    clear F7 N7
    k_steps
    rename Fr _ _ _ _ => F9
    rename News _ _ _ _ => N9
    have l9 := ‹_ < _ ∧ dl < _ ∧ 238 < _ ∧ AllLt _ cs›
    have l8 := ‹dl < _ ∧ 238 < _ ∧ AllLt _ cs›
    refine append_K F9 N9 (Upd.tail (by have := l9.2.1; show @Ne Nat _ _; omega) (Upd.tail (by have := l9.1; have := l9.2.1; show @Ne Nat _ _; omega) (Upd.head ?_))) ?_ ?_
    · intro p hp
      rcases List.mem_cons.mp hp with rfl | hp
      · show @Ne Nat _ _; omega
      · exact hc1 p hp
    · intro h10 F10 N10
      clear F9 N9
      k_steps
      have xE : Ext (L :: [dl, 238]) h' h10 := ext_of_rest F3'.2 F10 (news_sub N10 fun p hp => .tail _ (.tail _ (.tail _ (.tail _ (hcs ▸ hp)))))
      have hmu : Muts h' (L :: [dl, 238]) := muts_cons (mut_ns F3'.2.ns) (muts_cons ⟨_, hdl, mut_list _ _⟩ (muts_cons hTm' (muts_nil _)))
      have hd10 := (N10 (dl, lstO (items.toArray.push _) (n + 1)) (.tail _ (.tail _ (.head _)))).1
      rw [List.push_toArray] at hd10
      have hrow : RowAt h10 (items ++ [_]) ((ns.take i).map (prOf G LF) ++ [prOf G LF k]) := (hr3.ext xE hmu).append (.cons ⟨_, t8, t, rfl, (N10 _ (.head _)).1⟩ .nil)
      rw [← etk] at hrow
      refine hQ' _ ⟨_, _, _, _, n + 1, rfl, F10, ?news, hrow, W.frame _ _ _ hst' (fun b hb o e => xE b o e (hfpn b hb)), m1, m2, m3⟩
      · intro p hp
        rcases List.mem_cons.mp hp with rfl | hp
        · exact ⟨hd10, (N10 (dl, lstO (items.toArray.push _) (n + 1)) (.tail _ (.tail _ (.head _)))).2⟩
        · rw [List.mem_singleton] at hp
          subst hp
          exact N10 (238, tabObj ps) (.tail _ (.tail _ (.tail _ (.head _))))
    · show items.toArray.size ≤ 16777216
      rw [List.size_toArray]
      have := List.length_take_le i ns
      simp at hlen
      omega
  case fin =>
    rintro s' h' tk ⟨h, tk0, m, items, n, rfl, F2, N2, hr, hst2, m1, m2, m3⟩ x'
    rw [List.take_length] at hr
    have F3 := fr_ext F2 x' (fun q => neL (List.mem_singleton.mp q)) (all_c hgI all_n)
    have N3 := news_ext N2 x' (all_c (fun q => neD (List.mem_singleton.mp q)) (all_c (fun q => neP (List.mem_singleton.mp q)) all_n))
    have hr3 := hr.ext x' (hIm _ h hst2)
    clear F1 N1 F2 N2 hst2 hr
    obtain ⟨cs, hcs⟩ : ∃ cs, cs = rest (hideAll s.heap [238]) L h' [dl, 238] := ⟨_, rfl⟩
    have N4 : News (hideAll s.heap [238]) L h' ((dl, lstO (List.toArray items) n) :: (238, tabObj ps) :: cs) := all_c (N3 _ (.head _)) (all_c (N3 _ (.tail _ (.head _))) fun p hp => rest_news p (hcs ▸ hp))
    have F3' : True ∧ Fr _ _ _ _ := ⟨trivial, F3⟩
    have hdl := (N4 _ (.head _)).1
    have htb := (N4 (238, tabObj ps) (.tail _ (.head _))).1
    clear N3
    k_steps
    refine Mine.stop_out ?_
    have hM238 : Muts s.heap [238] := muts_one hps (mut_tab hps2)
    have hTc : TabOk h' 238 (Str.ofString "_law_due.<locals>.<lambda>") := ⟨ps, htb, hps2, fun pos c hc => let ⟨c', e1, e2⟩ := hps3 pos c hc; ⟨c', e1, (codeRec_ext e2 (ext_hide _ _) hM238).keeps F3'.2.keep⟩⟩
    refine lamMake (qual := Str.ofString "_law_due.<locals>.<lambda>") rfl rfl rfl rfl rfl F3'.2 T' C (hideAll_none _ (.head _)) hTc ?_
    intro f c' ctv pm h12 tk12 x12 hf0 hf1 hrec hT12
    have hr12 := hr3.ext x12 (muts_one htb (mut_tab hps2))
    have K12 : Lam0 h12 f := ⟨_, _, _, _, _, _, _, _, hf1, hrec⟩
    have neP2 : L ≠ 238 := by obtain ⟨o, _, _, e, hd, _⟩ := F3'.2.ns; intro q; rw [q, htb] at e; cases e; cases hd
    have hdl12 : h12.get? dl = some (lstO (List.toArray items) n) := x12 _ _ hdl (by have : dl ≠ 238 := Nat.ne_of_gt hl1; simpa using this)
    have F12 : Fr (hideAll s.heap [238]) L h12 m := fr_ext F3'.2 x12 (by simpa using neP2) (by intro a ha; exact hideAll_none _ ha)
    clear F3 N4 F3' hcs cs
    obtain ⟨cs, hcs⟩ : ∃ cs, cs = rest (hideAll s.heap [238]) L h12 [dl] := ⟨_, rfl⟩
    have N12 : News (hideAll s.heap [238]) L h12 ((dl, lstO (List.toArray items) n) :: cs) := fun p hp => by
      rcases List.mem_cons.mp hp with rfl | hp
      · exact ⟨hdl12, hd0⟩
      · exact rest_news p (hcs ▸ hp)
    have hmu12 : Muts h12 (L :: [dl]) := muts_cons (mut_ns F12.ns) (muts_one hdl12 (mut_list _ _))
    have F12' : True ∧ Fr _ _ _ _ := ⟨trivial, F12⟩
    have N12' : True ∧ News _ _ _ _ := ⟨trivial, N12⟩
    k_steps
    have hlen := hr3.length
    refine sortedS (κ := bytesKind) (ks := (ns.map (prOf G LF)).map (·.1)) (vs := items) bytesKind_lt (bytesKind_kind ?ne) F12'.2 N12'.2 ⟨_, hdl12, rfl, _, rfl⟩ ?len ?nod ?two ?six (ksk_s1 _ _) (fun x => ksk_l1 _ _) (fun x => ksk_t1 _ _) ?turn ?fin2
    case ne => intro e; have := congrArg List.length e; simp at this; rw [this] at hn2; simp at hn2
    case len => rw [List.length_map]; exact hlen.symm
    case nod =>
      refine row_nodup hr12 ?_
      rw [List.nodup_iff_pairwise_ne, List.pairwise_map]
      refine (List.nodup_iff_pairwise_ne.mp hnd).imp fun {a b} hab q => hab ?_
      have := congrArg (fun p : Rw => p.2.cps) q
      simpa using this
    case two => simp at hlen; omega
    case six => simp at hlen; omega
    case turn =>
      intro i v k hv hk h tk own F N
      have xx : Ext (L :: [dl]) h12 h := ext_of_rest F12'.2 F (news_sub N fun p hp => List.mem_append_left _ (.tail _ (hcs ▸ hp)))
      have hi : i < (ns.map (prOf G LF)).length := by rw [← hlen]; exact (List.getElem?_eq_some_iff.mp hv).1
      obtain ⟨v', p, e1, e2, hp⟩ := hr12.get hi
      rw [hv] at e1; cases e1
      rw [List.getElem?_map, e2] at hk
      cases hk
      obtain ⟨a, tw, tn, rfl, e3⟩ := hp.ext xx hmu12
      refine lam0_call (K12.ext xx hmu12) e3 (T'.nolimit.keeps F.keep) (by show dp + 1 < 900; omega) ?_
      intro h' tk' x
      exact ⟨h', tk', rfl, rfl, fr_ext0 F x, news_ext0 N x⟩
    case fin2 =>
      intro D h14 tk14 out c F14 N14 hlt14 hout
      k_steps
      have xx : Ext (L :: [dl]) h12 h14 := ext_of_rest F12'.2 F14 (news_sub N14 fun p hp => .tail _ (.tail _ (hcs ▸ hp)))
      have hDgt := hlt14 _ (.head _)
      refine hQ _ D out.toList c _ (ext_of_fr F14) (hT12.ext xx hmu12 ?_) (hide_none (N14 _ (.head _)).2.2 ?_) ?_ ((outK_rows hr12 hout).ext xx hmu12)
      · intro q
        rcases List.mem_cons.mp q with q | q
        · exact neP2 q.symm
        · exact Nat.ne_of_lt hl1 (List.mem_singleton.mp q)
      · rw [List.mem_singleton]
        exact Nat.ne_of_gt (Nat.lt_trans hl1 hDgt)
      · rw [Array.toArray_toList]; exact (N14 _ (.head _)).1
end Mine
end
section
open PySem PySem.W PyProof.Rows PySem.Calls PySem.SeqAt
set_option maxRecDepth 100000
namespace Mine
section
variable {A : Around} {s : Shared}
theorem all_range_true {n : Nat} {e : Nat → Bool} (h : ∀ i, i < n → e i = true) : (List.range n).all e = true := by
  rw [List.all_eq_true]; intro i hi; exact h i (List.mem_range.mp hi)
theorem eqAt_bytes (a : Array UInt8) (t u : Tok) : EqAt A s (.bytes a t) (.bytes a u) true := fun prog w E Q h => by
  unfold eqBool
  refine wpAny_holding ?_
  refine wpAny_ite_split (fun hab => ?_) (fun _ => ?_)
  · exact wpAny_bind (wpAny_rule (wpAny_pure h))
  · exact wpAny_bind (richCompare_gives (op := .Eq) (typeIs_bytes s a t) (typeIs_bytes s a u) FB.slot_bytes_eq FB.entry_bytes_eq (FB.args_bytes_eq_2 _ _) (gives_bytes_eq a a t u) (fun e => nomatch e) (wpAny_truthy_bool (by simpa using h)))
theorem eqAt_pair {a b : Addr} {p : Rw} (x : PairAt s.heap (.ref a) p) (y : PairAt s.heap (.ref b) p) (hu : A.units + 2 < cLine) : EqAt A s (.ref a) (.ref b) true := by
  obtain ⟨a', tw, tn, e1, ha⟩ := x
  obtain ⟨b', tw', tn', e2, hb⟩ := y
  cases e1; cases e2
  by_cases hab : a = b
  · subst hab; exact EqAt.same _
  · have := RcAt.tuples (A := A) (s := s) (l := a) (b := b) (items := #[.bytes p.1.toArray tw, .str p.2 tn]) (items2 := #[.bytes p.1.toArray tw', .str p.2 tn']) (e := fun _ => true) ⟨_, ha, rfl, _, rfl⟩ ⟨_, hb, rfl, _, rfl⟩ (by omega) (fun j h1 h2 => ?_)
    · exact EqAt.of_refs hab (show RcAt A s (.ref a) (.ref b) true from this)
    · match j, h1 with
      | 0, _ => exact eqAt_bytes _ _ _
      | 1, _ => have := EqAt.str_str (A := A.in1) (s := s) p.2 tn p.2 tn'; simpa using this
end
theorem eqRows {w : World} {A : Around} {E : Value → Shared → Prop} {s : Shared} {Q : Value → Shared → Prop} {a b : Addr} {xs ys : List Value} {ps : List Rw} (ha : s.heap.IsList a xs.toArray) (hb : s.heap.IsList b ys.toArray) (hx : RowAt s.heap xs ps) (hy : RowAt s.heap ys ps)
    (hu : A.units + 4 < cLine) (h : Q (.bool true) s) : wpAny (MM w) A (compareOp .Eq (.ref a) (.ref b)) Q E s := by
  have l1 := hx.length
  have l2 := hy.length
  refine eq_listAt (e := fun _ => true) ha hb (by simp; omega) (by omega) (fun j h1 h2 => ?_) (by rw [all_range_true fun _ _ => rfl]; exact h)
  simp only [List.size_toArray] at h1 h2
  obtain ⟨v, p, e1, e2, hp⟩ := hx.get (i := j) (by omega)
  obtain ⟨v', p', g1, g2, hp'⟩ := hy.get (i := j) (by omega)
  rw [e2] at g2; cases g2
  have q1 : xs.toArray[j] = v := by have := List.getElem?_eq_some_iff.mp e1; simpa using this.2
  have q2 : ys.toArray[j] = v' := by have := List.getElem?_eq_some_iff.mp g1; simpa using this.2
  rw [q1, q2]
  have hp2 := hp; have hp2' := hp'
  obtain ⟨c, tw, tn, rfl, hc⟩ := hp
  obtain ⟨c', tw', tn', rfl, hc'⟩ := hp'
  exact eqAt_pair hp2 hp2' (by show A.units + 1 + 2 < cLine; omega)
end Mine
end
section
open PySem PySem.W PyProof.Rows PySem.Calls PySem.Spec PyProof.V
set_option maxRecDepth 100000
namespace Mine
theorem fillRight : (∀ w : World, hd.heap_39 w.params = hd.heap_39 w.params) ∧ PySem.Challenge.rw_uc0036_01.foot = 6 := by
  k_fill
  w_top off
  exact ⟨fun _ => rfl, rfl⟩
local macro_rules | `(tactic| k_all) => `(tactic| assumption)
local macro_rules | `(tactic| walk_at "eval Name") => `(tactic| (k_here; k_dflt (refine' nameX_L ?F ?v ?_ ?a ?b; (case F => k_asm); (case a => rfl); (case b => rfl); (case v => assumption); k_whole)))
local macro_rules | `(tactic| walk_at "call ref") => `(tactic| refine Mine.stop_in ?_)
local macro_rules | `(tactic| walk_at "eval Lambda") => `(tactic| refine Mine.stop_in ?_)
local macro_rules | `(tactic| walk_at "eval ListComp") => `(tactic| refine Mine.stop_in ?_)
local macro_rules | `(tactic| walk_at "call builtin:sorted") => `(tactic| refine Mine.stop_in ?_)
local macro_rules | `(tactic| walk_at "compareOp Eq ref ref") => `(tactic| refine Mine.stop_in ?_)
local macro_rules | `(tactic| walk_at "CompSrcT") => `(tactic| refine Mine.stop_in ?_)
set_option maxHeartbeats 8000000 in
theorem right {w : World} {p : Program} {loose : List Str} {mean : ExcName → Option Value} {mg mb : Str → Option Value} {dp un : Nat} {fr : Option (List Env)} {gd : Option (List Code)} {s : Shared} {Q : Value → Shared → Prop}
   {rl dl : Addr} {items out : List Value} {ps : List Rw}
   (hdp : dp < 700) (hun : un < 4800) (hn2 : 2 ≤ ps.length) (hn6 : ps.length < 60) (hnd : ps.Nodup) (hsw : ∀ (i j : Nat) (p q : Rw), i ≤ j → ps[i]? = some p → ps[j]? = some q → ∃ b bs b' bs', p.1 = b :: bs ∧ q.1 = b' :: bs' ∧ b.toNat ≤ b'.toNat ∧ bs.length < 100)
   (X : (hd.heap_39 w.params).In (hideAll s.heap [245])) (T : Top p loose mean mg mb (hideAll s.heap [245]))
   (hT : TabOk s.heap 245 (Str.ofString "_law_right.<locals>.<lambda>")) (C : CodeHd (hideAll s.heap [245]) 247 245)
   (hl : (hideAll s.heap [245]).IsList rl items.toArray) (hd2 : (hideAll s.heap [245]).IsList dl out.toArray) (hr : RowAt (hideAll s.heap [245]) items ps) (hr2 : RowAt (hideAll s.heap [245]) out ps)
   (hQ : ∀ h' tk, Ext [245] s.heap h' → TabOk h' 245 (Str.ofString "_law_right.<locals>.<lambda>") → Q (.bool true) { s with heap := h', toks := tk }) :
   wpAny (MM w) (AA dp un fr gd) (call (.ref 248) [.ref rl, .ref dl]) Q (fun _ _ => False) s := by
  refine wpAny_call ?_
  have hT' := hT
  obtain ⟨ps0, hps, hps2, hps3⟩ := hT'
  refine' enter (D := [(245, tabObj ps0)]) ?_ X T ?ho ?hcd ?hroom (binds := [(Str.ofString "row", .ref rl), (Str.ofString "due", .ref dl)]) ?hbind ?hloc ?_ ?c1 ?c2 ?c3 ?c4
  case ho => k_is
  case hcd => k_is
  case hroom => (show dp < 1000; omega)
  case hbind => exact BindsTo.of_eq rfl
  case hloc => exact locs rfl
  case c1 => rfl
  case c2 => rfl
  case c3 => rfl
  case c4 => decide
  · intro q hq
    rw [List.mem_singleton] at hq; subst hq; exact hps
  intro g L h₁ hg F' N' X' T'
  replace hg : g = hideAll s.heap [245] := hg
  subst hg
  dsimp only
  have hlen := hr.length
  k_steps
  refine Mine.stop_out ?_
  k_dflt (refine LCt.ListComp_T (F₀ := by k_asm) (by with_unfolding_all rfl) (by decide) (by rfl) (by decide) (by rfl) ?_)
  k_steps
  rename Fr _ _ _ _ => F1
  rename News _ _ _ _ => N1
  refine Mine.stop_out ?_
  refine LCt.CompSrcT.base rfl F1 N1 hl (by show items.toArray.size ≤ 16777216; rw [List.size_toArray]; omega) ?_
  intro g'
  refine comp_T (items.toArray.size) (fun i ys => ys = []) ?_ ?_ _ 0 [] (by simp) rfl
  · intro i ys hi hys v I oI CC oC D m₂ h tk E' hv hC hx F3 N3 hoff hne
    subst hys
    rw [List.size_toArray] at hi
    obtain ⟨v', pr, e1, e2, ep⟩ := hr.get (i := i) (by omega)
    obtain rfl : v' = v := by simpa [e1] using hv
    obtain ⟨pa, tw, tn, rfl, ep⟩ := ep
    have ep3 := F3.keep _ _ ep
    clear hv e1 e2
    k_steps
    refine item_tupleT (l := [.bytes pr.1.toArray tw, .str pr.2 tn]) (j := 0) ⟨_, ep3, rfl, _, rfl⟩ (by decide) (by decide) rfl rfl ?_
    k_steps
    exact LCg.CompEnd.intro F3 N3 _ (fun q hq => hq) hoff (.inl hl) (by simp)
  · intro ys hys D h tk F3 N3 off
    subst hys
    dsimp only
    k_steps
    rename Fr _ _ _ _ => F4
    rename News _ _ _ _ => N4
    rename_i h4 _
    refine Mine.stop_out ?_
    have hM245 : Muts s.heap [245] := muts_one hps (mut_tab hps2)
    have N5 := N4 (245, tabObj ps0) (by k_mem)
    have hTc : TabOk h4 245 (Str.ofString "_law_right.<locals>.<lambda>") := ⟨ps0, N5.1, hps2, fun pos c hc => let ⟨c', e1, e2⟩ := hps3 pos c hc; ⟨c', e1, (codeRec_ext e2 (ext_hide _ _) hM245).keeps F4.keep⟩⟩
    refine lamMake (qual := Str.ofString "_law_right.<locals>.<lambda>") rfl rfl rfl rfl rfl F4 T' C (hideAll_none _ (.head _)) hTc ?_
    intro f c' ctv pm h12 tk12 x12 hf0 hf1 hrec hT12
    have K12 : Lam00 h12 f := ⟨_, _, _, _, _, _, _, _, _, _, hf1, hrec⟩
    have neP2 : L ≠ 245 := by obtain ⟨o, _, _, e, hd, _⟩ := F4.ns; intro q; rw [q, N5.1] at e; cases e; cases hd
    have F12 := fr_ext F4 x12 (by simpa using neP2) (by intro a ha; exact hideAll_none _ ha)
    clear F4 N4 N5
    obtain ⟨cs, hcs⟩ : ∃ cs, cs = rest (hideAll s.heap [245]) L h12 [] := ⟨_, rfl⟩
    have N12 : News (hideAll s.heap [245]) L h12 cs := fun p hp => rest_news p (hcs ▸ hp)
    have F12' : True ∧ Fr _ _ _ _ := ⟨trivial, F12⟩
    have N12' : True ∧ News _ _ _ _ := ⟨trivial, N12⟩
    have hmu12 : Muts h12 [L] := muts_cons (mut_ns F12.ns) (muts_nil _)
    k_steps
    refine Mine.stop_out ?_
    have hr12 := hr.keeps F12'.2.keep
    have hl12 := stays_list F12'.2.keep hl
    refine sortedS (κ := intKind') (ks := ps.map fun p => ((p.1.headD 0).toNat : Int)) (vs := items) intKind_lt (intKind_kind ?ne) F12'.2 N12'.2 hl12 ?len ?nod ?two ?six (ksk_s1 _ _) (fun x => ksk_l1 _ _) (fun x => ksk_t1 _ _) ?turn ?fin2
    case ne => intro e; have := congrArg List.length e; simp at this; rw [this] at hn2; simp at hn2
    case len => rw [List.length_map]; exact hlen.symm
    case nod => exact row_nodup hr12 hnd
    case two => omega
    case six => omega
    case turn =>
      intro i v k hv hk h tk own F N
      have xx : Ext (L :: []) h12 h := ext_of_rest F12'.2 F (news_sub N fun p hp => List.mem_append_left _ (hcs ▸ hp))
      have hi : i < ps.length := by rw [← hlen]; exact (List.getElem?_eq_some_iff.mp hv).1
      obtain ⟨v', pr, e1, e2, hp⟩ := hr12.get hi
      rw [hv] at e1; cases e1
      rw [List.getElem?_map, e2] at hk
      cases hk
      obtain ⟨b, bs, _, _, q1, _, _, q2⟩ := hsw i i pr pr (Nat.le_refl _) e2 e2
      obtain ⟨a, tw, tn, rfl, e3⟩ := hp.ext xx hmu12
      rw [q1] at e3
      refine lam00_call (K12.ext xx hmu12) e3 (T'.nolimit.keeps F.keep) (by show dp + 1 < 900; omega) (by omega) ?_
      intro h' t' tk' x
      refine ⟨h', tk', rfl, ?_, fr_ext0 F x, news_ext0 N x⟩
      show some ((b.toNat : Nat) : Int) = some (((pr.1.headD 0).toNat : Nat) : Int)
      rw [q1]; rfl
    case fin2 =>
      intro D h14 tk14 out2 c F14 N14 hlt14 hout
      have hsame : out2.toList = items := outK_sorted hout (by rw [List.length_map]; exact hlen.symm) (fun i j a b hij ha hb => by
        rw [List.getElem?_map] at ha hb
        obtain ⟨p1, g1, rfl⟩ := Option.map_eq_some_iff.mp ha
        obtain ⟨p2, g2, rfl⟩ := Option.map_eq_some_iff.mp hb
        obtain ⟨b, bs, b', bs', q1, q2, q3, _⟩ := hsw i j p1 p2 hij g1 g2
        show decide (((p2.1.headD 0).toNat : Int) < ((p1.1.headD 0).toNat : Int)) = false
        rw [q1, q2]
        simp only [List.headD_cons]
        exact decide_eq_false (by omega))
      have xx : Ext (L :: []) h12 h14 := ext_of_rest F12'.2 F14 (news_sub N14 fun p hp => .tail _ (hcs ▸ hp))
      have hT14 : TabOk h14 245 (Str.ofString "_law_right.<locals>.<lambda>") := hT12.ext xx hmu12 (by simpa using Ne.symm neP2)
      have hD14 : h14.IsList D items.toArray := ⟨_, (N14 _ (.head _)).1, rfl, _, by rw [← hsame, Array.toArray_toList]⟩
      have hr14 := hr.keeps F14.keep
      have hr24 := hr2.keeps F14.keep
      have hl24 := stays_list F14.keep hd2
      k_steps
      refine Mine.stop_out ?_
      refine eqRows hD14 hl24 hr14 hr24 (show un + 3 + 4 < 9900 by omega) ?_
      exact hQ _ _ (ext_of_fr F14) hT14
end Mine
end
section
open PySem
set_option maxRecDepth 100000
namespace Mine
/-- the words do not fall, said by pairs -/
noncomputable def SW (ps : List Rw) : Prop := ps.Pairwise fun p q => wlt q.1 p.1 = false
theorem insR_perm (p : Rw) : ∀ l, (insR p l).Perm (p :: l)
  | [] => .refl _
  | q :: r => by
    rw [insR]
    split
    · exact .refl _
    · exact (List.Perm.cons q (insR_perm p r)).trans (List.Perm.swap p q r)
theorem insL_perm (p : Rw) : ∀ l, (insL p l).Perm (p :: l)
  | [] => .refl _
  | q :: r => by
    rw [insL]
    split
    · exact (List.Perm.cons q (insL_perm p r)).trans (List.Perm.swap p q r)
    · exact .refl _
theorem wle_trans {a b c : List UInt8} (h1 : wlt b a = false) (h2 : wlt c b = false) : wlt c a = false := by
  cases h : wlt c a with
  | false => rfl
  | true =>
    rcases wlt_negTrans c b a h with h3 | h3
    · rw [h2] at h3; cases h3
    · rw [h1] at h3; cases h3
theorem insR_sw (p : Rw) : ∀ l, SW l → SW (insR p l)
  | [], _ => List.pairwise_singleton _ _
  | q :: r, h => by
    obtain ⟨h1, h2⟩ := List.pairwise_cons.mp h
    rw [insR]
    split
    · rename_i hc
      refine List.pairwise_cons.mpr ⟨fun y hy => ?_, h⟩
      rcases List.mem_cons.mp hy with rfl | hy
      · exact wlt_asymm hc
      · exact wle_trans (wlt_asymm hc) (h1 y hy)
    · rename_i hc
      refine List.pairwise_cons.mpr ⟨fun y hy => ?_, insR_sw p r h2⟩
      rcases List.mem_cons.mp ((insR_perm p r).mem_iff.mp hy) with rfl | hy
      · simpa using hc
      · exact h1 y hy
theorem insL_sw (p : Rw) : ∀ l, SW l → SW (insL p l)
  | [], _ => List.pairwise_singleton _ _
  | q :: r, h => by
    obtain ⟨h1, h2⟩ := List.pairwise_cons.mp h
    rw [insL]
    split
    · rename_i hc
      refine List.pairwise_cons.mpr ⟨fun y hy => ?_, insL_sw p r h2⟩
      rcases List.mem_cons.mp ((insL_perm p r).mem_iff.mp hy) with rfl | hy
      · exact wlt_asymm hc
      · exact h1 y hy
    · rename_i hc
      have hc' : wlt q.1 p.1 = false := by simpa using hc
      refine List.pairwise_cons.mpr ⟨fun y hy => ?_, h⟩
      rcases List.mem_cons.mp hy with rfl | hy
      · exact hc'
      · exact wle_trans hc' (h1 y hy)
/-- one laid behind its likes and one ahead do not meet -/
theorem ins_comm (p c : Rw) : ∀ l, SW l → insR p (insL c l) = insL c (insR p l)
  | [], _ => by
    simp only [insL, insR]
    try (split <;> rename_i h <;> simp [insL, h, insR])
  | q :: r, hs => by
    obtain ⟨h1, h2⟩ := List.pairwise_cons.mp hs
    have ih := ins_comm p c r h2
    cases hqc : wlt q.1 c.1 with
    | true =>
      cases hpq : wlt p.1 q.1 with
      | true => 
        have hpc : wlt p.1 c.1 = true := wlt_trans _ _ _ hpq hqc
        simp [insL, insR, hqc, hpq, hpc]
      | false => simp [insL, insR, hqc, hpq, ih]
    | false =>
      cases hpc : wlt p.1 c.1 with
      | true =>
        have hpq : wlt p.1 q.1 = true := by
          rcases wlt_negTrans p.1 q.1 c.1 hpc with h | h
          · exact h
          · rw [hqc] at h; cases h
        simp [insL, insR, hqc, hpc, hpq]
      | false =>
        cases hpq : wlt p.1 q.1 with
        | true => simp [insL, insR, hqc, hpc, hpq]
        | false => simp [insL, insR, hqc, hpc, hpq]
theorem fold_sw : ∀ (ps l : List Rw), SW l → SW (ps.foldl (fun a p => insR p a) l)
  | [], _, h => h
  | p :: ps, l, h => fold_sw ps _ (insR_sw p l h)
theorem fold_perm : ∀ (ps l : List Rw), (ps.foldl (fun a p => insR p a) l).Perm (l ++ ps)
  | [], l => by simp
  | p :: ps, l => by
    refine (fold_perm ps (insR p l)).trans ?_
    refine ((insR_perm p l).append_right ps).trans ?_
    exact List.perm_middle.symm
theorem fold_insL (c : Rw) : ∀ (ps l : List Rw), SW l → ps.foldl (fun a p => insR p a) (insL c l) = insL c (ps.foldl (fun a p => insR p a) l)
  | [], _, _ => rfl
  | p :: ps, l, h => by
    rw [List.foldl_cons, List.foldl_cons, ins_comm p c l h]
    exact fold_insL c ps _ (insR_sw p l h)
theorem insR_last (p : Rw) : ∀ l, (∀ q ∈ l, wlt p.1 q.1 = false) → insR p l = l ++ [p]
  | [], _ => rfl
  | q :: r, h => by rw [insR, if_neg (by rw [h q (.head _)]; simp), insR_last p r fun y hy => h y (.tail _ hy)]; rfl
theorem fold_sorted : ∀ (ps l : List Rw), SW (l ++ ps) → ps.foldl (fun a p => insR p a) l = l ++ ps
  | [], l, _ => by simp
  | p :: ps, l, h => by
    have e : insR p l = l ++ [p] := insR_last p l fun q hq => (List.pairwise_append.mp h).2.2 q hq p (.head _)
    rw [List.foldl_cons, e, fold_sorted ps (l ++ [p]) (by simpa using h)]; simp
theorem sortR_sorted {ps : List Rw} (h : SW ps) : sortR ps = ps := by
  have := fold_sorted ps [] (by simpa using h)
  simpa [sortR] using this
theorem sortR_turn (c : Rw) (kept taken : List Rw) (h : SW kept) : sortR (c :: (kept ++ taken)) = insL c (taken.foldl (fun a p => insR p a) kept) := by
  unfold sortR
  rw [List.foldl_cons, show insR c [] = insL c [] from rfl, fold_insL c _ [] List.Pairwise.nil, List.foldl_append]
  have := fold_sorted kept [] (by simpa using h)
  rw [this]; rfl
end Mine
end
section
set_option maxRecDepth 100000
namespace Mine
noncomputable def insN (x : Nat) : List Nat → List Nat
  | [] => [x]
  | y :: r => if y ≤ x then x :: y :: r else y :: insN x r
/-- sorted, the greatest first -/
noncomputable def srtN : List Nat → List Nat
  | [] => []
  | x :: r => insN x (srtN r)
theorem insN_perm (x : Nat) : ∀ l, (insN x l).Perm (x :: l)
  | [] => .refl _
  | y :: r => by
    rw [insN]
    split
    · exact .refl _
    · exact (List.Perm.cons y (insN_perm x r)).trans (List.Perm.swap x y r)
theorem srtN_perm : ∀ l, (srtN l).Perm l
  | [] => .refl _
  | x :: r => (insN_perm x _).trans (List.Perm.cons x (srtN_perm r))
theorem insN_desc (x : Nat) : ∀ l, l.Pairwise (fun a b => b ≤ a) → (insN x l).Pairwise (fun a b => b ≤ a)
  | [], _ => List.pairwise_singleton _ _
  | y :: r, h => by
    obtain ⟨h1, h2⟩ := List.pairwise_cons.mp h
    rw [insN]
    split
    · rename_i hc
      refine List.pairwise_cons.mpr ⟨fun z hz => ?_, h⟩
      rcases List.mem_cons.mp hz with rfl | hz
      · exact hc
      · exact Nat.le_trans (h1 z hz) hc
    · rename_i hc
      refine List.pairwise_cons.mpr ⟨fun z hz => ?_, insN_desc x r h2⟩
      rcases List.mem_cons.mp ((insN_perm x r).mem_iff.mp hz) with rfl | hz
      · omega
      · exact h1 z hz
theorem srtN_desc : ∀ l, (srtN l).Pairwise (fun a b => b ≤ a)
  | [] => .nil
  | x :: r => insN_desc x _ (srtN_desc r)
theorem desc_unique {l m : List Nat} (h : l.Perm m) (hl : l.Pairwise (fun a b => b ≤ a)) (hm : m.Pairwise (fun a b => b ≤ a)) : l = m :=
  List.Perm.eq_of_pairwise (le := fun a b => b ≤ a) (fun a b _ _ h1 h2 => Nat.le_antisymm h2 h1) hl hm h
/-- Erdos and Gallai's test of a falling row -/
noncomputable def egD (row : List Nat) : Bool := [1, 2, 3, 4, 5, 6].all (fun k => decide ((row.take k).sum ≤ k * (k - 1) + ((row.drop k).map (min · k)).sum)) && row.sum % 2 == 0
noncomputable def EG (l : List Nat) : Bool := egD (srtN l)
theorem EG_perm {l m : List Nat} (h : l.Perm m) : EG l = EG m := by
  unfold EG
  rw [desc_unique (((srtN_perm l).trans h).trans (srtN_perm m).symm) (srtN_desc l) (srtN_desc m)]
noncomputable def allAsc : Nat → Nat → List (List Nat)
  | 0, _ => [[]]
  | n + 1, lo => ((List.range 6).filter (lo ≤ ·)).flatMap fun x => (allAsc n x).map (x :: ·)
theorem mem_allAsc : ∀ (n lo : Nat) (d : List Nat), d.length = n → (∀ x ∈ d, lo ≤ x ∧ x < 6) → d.Pairwise (· ≤ ·) → d ∈ allAsc n lo
  | 0, _, [], _, _, _ => by simp [allAsc]
  | n + 1, lo, x :: r, hl, hx, hp => by
    obtain ⟨h1, h2⟩ := List.pairwise_cons.mp hp
    rw [allAsc, List.mem_flatMap]
    refine ⟨x, ?_, List.mem_map.mpr ⟨r, mem_allAsc n x r (by simpa using hl) (fun y hy => ⟨h1 y hy, (hx y (.tail _ hy)).2⟩) h2, rfl⟩⟩
    rw [List.mem_filter, List.mem_range]
    exact ⟨(hx x (.head _)).2, by simpa using (hx x (.head _)).1⟩
noncomputable def stepOk (d : List Nat) (w : Nat) : Bool :=
  if (d.getD (5 - w) 0) = 0 then EG (w :: d) == false
  else EG (w :: d) == EG (0 :: (d.take (5 - w) ++ (d.drop (5 - w)).map (· - 1)))
theorem step_all : (allAsc 5 0).all (fun d => [1, 2, 3, 4, 5].all (stepOk d)) = true := by decide +kernel
theorem eg_step {d : List Nat} {w : Nat} (hl : d.length = 5) (hx : ∀ x ∈ d, x < 6) (hp : d.Pairwise (· ≤ ·)) (h1 : 1 ≤ w) (h5 : w ≤ 5) : stepOk d w = true := by
  have h := List.all_eq_true.mp step_all d (mem_allAsc 5 0 d hl (fun x hx' => ⟨Nat.zero_le _, hx x hx'⟩) hp)
  refine List.all_eq_true.mp h w ?_
  have : w = 1 ∨ w = 2 ∨ w = 3 ∨ w = 4 ∨ w = 5 := by omega
  rcases this with rfl | rfl | rfl | rfl | rfl <;> simp
theorem eg_zero : EG [0, 0, 0, 0, 0, 0] = true := by decide +kernel
end Mine
end
section
open PySem
set_option maxRecDepth 100000
namespace Mine
noncomputable abbrev R6 : List Nat := [0, 1, 2, 3, 4, 5]
theorem perm_map_ex {α β : Type} {f : α → β} {l m : List β} (h : l.Perm m) : ∀ ks, m = ks.map f → ∃ ks2 : List α, ks2.Perm ks ∧ l = ks2.map f := by
  induction h with
  | nil => intro ks e; exact ⟨ks, .refl _, e⟩
  | cons x _ ih =>
    intro ks e
    match ks, e with
    | k :: ks, e =>
      rw [List.map_cons, List.cons.injEq] at e
      obtain ⟨ks2, h1, h2⟩ := ih ks e.2
      exact ⟨k :: ks2, h1.cons k, by rw [h2, e.1]; rfl⟩
  | swap x y l =>
    intro ks e
    match ks, e with
    | a :: b :: ks, e =>
      simp only [List.map_cons, List.cons.injEq] at e
      exact ⟨b :: a :: ks, List.Perm.swap _ _ _, by simp [e]⟩
  | trans _ _ ih1 ih2 =>
    intro ks e
    obtain ⟨k2, h1, h2⟩ := ih2 ks e
    obtain ⟨k3, h3, h4⟩ := ih1 k2 h2
    exact ⟨k3, h3.trans h1, h4⟩
theorem wd_head {l m : Nat} (hl : l < 6) (hm : m < 4096) : ∃ bs, wd l m = (66 + l).toUInt8 :: bs ∧ bs.length = 3 := ⟨_, wd_eq hl hm, rfl⟩
theorem toU_nat {l : Nat} (hl : l < 6) : ((66 + l).toUInt8).toNat = 66 + l := by rcases lt6 hl with rfl | rfl | rfl | rfl | rfl | rfl <;> rfl
theorem toU_lt {l l' : Nat} (hl : l < 6) (hl' : l' < 6) : ((66 + l).toUInt8 < (66 + l').toUInt8) ↔ l < l' := by
  rw [UInt8.lt_iff_toNat_lt, toU_nat hl, toU_nat hl']; omega
theorem toU_eq {l l' : Nat} (hl : l < 6) (hl' : l' < 6) : ((66 + l).toUInt8 = (66 + l').toUInt8) ↔ l = l' := by
  constructor
  · intro e; have := congrArg UInt8.toNat e; rw [toU_nat hl, toU_nat hl'] at this; omega
  · rintro rfl; rfl
theorem wd_le {l l' m m' : Nat} (hl : l < 6) (hl' : l' < 6) (hm : m < 4096) (hm' : m' < 4096) (h : wlt (wd l' m') (wd l m) = false) : l ≤ l' := by
  obtain ⟨bs, e, _⟩ := wd_head hl hm
  obtain ⟨bs', e', _⟩ := wd_head hl' hm'
  rw [e, e', wlt_cons] at h
  simp only [Bool.or_eq_false_iff, decide_eq_false_iff_not] at h
  rw [toU_lt hl' hl] at h
  omega
theorem wd_C {l m : Nat} (hl : l < 6) (hm : m < 4096) : wlt (wd l m) [67] = decide (l = 0) := by
  rw [wd_eq hl hm]
  rcases lt6 hl with rfl | rfl | rfl | rfl | rfl | rfl <;> rw [wlt_cons] <;> simp <;> first | decide | rfl | (simp [Builtin.Bytes.order])
variable {G : Gs} {LF : Nat → Nat}
noncomputable def zer (LF : Nat → Nat) : Nat := (R6.filter fun k => LF k == 0).length
theorem kk_map {ks : List Nat} {i k : Nat} (e : ks[i]? = some k) : kk (ks.map (prOf G LF)) i = wd (LF k) (G k).2 := by
  refine kk_of (p := prOf G LF k) ?_
  rw [List.getElem?_map, e]; rfl
theorem filter_split (p : Nat → Bool) : ∀ (ks : List Nat) (lo : Nat), lo ≤ ks.length → (∀ i k, ks[i]? = some k → i < lo → p k = true) → (∀ i k, ks[i]? = some k → lo ≤ i → p k = false) → (ks.filter p).length = lo
  | [], lo, h, _, _ => by simp at h; simp [h]
  | k :: r, 0, _, _, h2 => by
    rw [List.filter_eq_nil_iff.mpr, List.length_nil]
    intro a ha
    obtain ⟨i, hi⟩ := List.getElem?_of_mem ha
    rw [h2 i a hi (Nat.zero_le _)]; simp
  | k :: r, lo + 1, h, h1, h2 => by
    rw [List.filter_cons, if_pos (h1 0 k rfl (by omega)), List.length_cons, filter_split p r lo (by simpa using h) (fun i a ha hi => h1 (i + 1) a (by simpa using ha) (by omega)) (fun i a ha hi => h2 (i + 1) a (by simpa using ha) (by omega))]
/-- the place tells how many wishes are met -/
theorem lo_zer {ks : List Nat} {lo : Nat} (hp : ks.Perm R6) (hL : ∀ k, LF k < 6) (hG : ∀ k, (G k).2 < 4096) (hlo : lo ≤ (ks.map (prOf G LF)).length)
    (h1 : ∀ i, i < lo → wlt (kk (ks.map (prOf G LF)) i) [67] = true) (h2 : ∀ i, lo ≤ i → i < (ks.map (prOf G LF)).length → wlt (kk (ks.map (prOf G LF)) i) [67] = false) :
    lo = zer LF ∧ ∀ i k, ks[i]? = some k → (LF k = 0 ↔ i < lo) := by
  rw [List.length_map] at hlo h2
  have key : ∀ i k, ks[i]? = some k → (LF k = 0 ↔ i < lo) := by
    intro i k e
    have hi : i < ks.length := (List.getElem?_eq_some_iff.mp e).1
    rcases Nat.lt_or_ge i lo with q | q
    · have := h1 i q; rw [kk_map e, wd_C (hL k) (hG k)] at this; simp at this; simp [this, q]
    · have := h2 i q hi; rw [kk_map e, wd_C (hL k) (hG k)] at this; simp at this; simp [this]; omega
  refine ⟨?_, key⟩
  unfold zer
  rw [← (hp.filter _).length_eq]
  refine (filter_split _ ks lo hlo (fun i k e q => ?_) fun i k e q => ?_).symm
  · simpa using (key i k e).mpr q
  · have : ¬ LF k = 0 := fun z => by have := (key i k e).mp z; omega
    simpa using this
theorem zer_le (LF : Nat → Nat) : zer LF ≤ 6 := List.length_filter_le _ _
theorem zer_all (h : zer LF = 6) : ∀ k, k < 6 → LF k = 0 := by
  intro k hk
  have h2 : (R6.filter fun k => LF k == 0) = R6 := List.filter_sublist.eq_of_length (by rw [show (R6.filter fun k => LF k == 0).length = 6 from h]; rfl)
  have : k ∈ R6.filter fun k => LF k == 0 := by rw [h2]; rcases lt6 hk with rfl | rfl | rfl | rfl | rfl | rfl <;> simp
  simpa using (List.mem_filter.mp this).2
theorem eg_all (h : zer LF = 6) : EG (R6.map LF) = true := by
  have z := zer_all h
  have : R6.map LF = [0, 0, 0, 0, 0, 0] := by simp [z 0 (by decide), z 1 (by decide), z 2 (by decide), z 3 (by decide), z 4 (by decide), z 5 (by decide)]
  rw [this]; exact eg_zero
noncomputable def setF (LF : Nat → Nat) (i v : Nat) : Nat → Nat := fun k => if k = i then v else LF k
/-- what is left after i of the taken -/
noncomputable def LFi (LF : Nat → Nat) (c : Nat) (ts : List Nat) (i : Nat) : Nat → Nat := fun k => if k = c then LF c - i else if k ∈ ts.take i then LF k - 1 else LF k
theorem LFi_zero (c : Nat) (ts : List Nat) : LFi LF c ts 0 = LF := by
  funext k; unfold LFi; split
  · rename_i h; rw [h]; rfl
  · simp
theorem LFi_lt (hL : ∀ k, LF k < 6) (c : Nat) (ts : List Nat) (i : Nat) : ∀ k, LFi LF c ts i k < 6 := by
  intro k; unfold LFi; have := hL k; have := hL c; split
  · omega
  · split <;> omega
theorem LFi_succ {c o i : Nat} {ts : List Nat} (hc : c ∉ ts) (hnd : ts.Nodup) (e : ts[i]? = some o) :
    LFi LF c ts (i + 1) = setF (setF (LFi LF c ts i) c (LFi LF c ts i c - 1)) o (LFi LF c ts i o - 1) := by
  have hoc : o ≠ c := fun q => hc (q ▸ List.mem_of_getElem? e)
  have hoi : o ∉ ts.take i := by
    intro h
    obtain ⟨j, hj⟩ := List.getElem?_of_mem h
    rw [List.getElem?_take] at hj
    split at hj
    · rename_i hji
      obtain ⟨hj', ej⟩ := List.getElem?_eq_some_iff.mp hj
      obtain ⟨hi', ei⟩ := List.getElem?_eq_some_iff.mp e
      have := (List.pairwise_iff_getElem.mp (List.nodup_iff_pairwise_ne.mp hnd)) j i hj' hi' hji
      exact this (ej.trans ei.symm)
    · cases hj
  funext k
  unfold setF LFi
  rw [List.take_succ, e]
  by_cases h1 : k = o
  · subst h1; simp [hoc, hoi]
  · by_cases h2 : k = c
    · subst h2; simp [h1]; omega
    · simp [h1, h2]
end Mine
end
section
open PySem PySem.W PyProof.Rows PySem.Calls PySem.Spec PyProof.V
set_option maxRecDepth 100000
namespace Mine
theorem LnAt.ext {h h' : Heap} {v : Value} {p : Ln} {S : List Addr} (x : LnAt h v p) (k : Ext S h h') (hS : Muts h S) : LnAt h' v p := by
  obtain ⟨a, t, u, e, r⟩ := x
  refine ⟨a, t, u, e, k _ _ r fun q => ?_⟩
  obtain ⟨o, ho, hc, _⟩ := hS _ q
  rw [r] at ho; cases ho; exact hc rfl _ _ rfl
theorem LnsAt.ext {h h' : Heap} {S : List Addr} (k : Ext S h h') (hS : Muts h S) : ∀ {vs : List Value} {ps : List Ln}, LnsAt h vs ps → LnsAt h' vs ps
  | _, _, .nil => .nil
  | _, _, .cons x r => .cons (x.ext k hS) (r.ext k hS)
theorem LnsAt.append {h : Heap} : ∀ {vs : List Value} {ps : List Ln} {vs' : List Value} {ps' : List Ln}, LnsAt h vs ps → LnsAt h vs' ps' → LnsAt h (vs ++ vs') (ps ++ ps')
  | _, _, _, _, .nil, y => y
  | _, _, _, _, .cons x r, y => .cons x (r.append y)
/-- how much each one of dom still wishes for -/
noncomputable def LfB (w : World) (h : Heap) (lf : Addr) (dom : List Nat) (LF : Nat → Nat) (b : Nat) : Prop :=
  ∃ kvs, h.DictOf (strKind PySem.Challenge.rw_uc0036_01.prog w) lf kvs ∧ kvs.length ≤ b ∧ ∀ i ∈ dom, ∃ t, valueAt kvs ⟨nmA i⟩ = some (.int (LF i) t)
theorem LfB.ext {w : World} {h h' : Heap} {lf : Addr} {dom : List Nat} {LF : Nat → Nat} {b : Nat} {S : List Addr} (x : LfB w h lf dom LF b) (k : Ext S h h') (hS : lf ∉ S) : LfB w h' lf dom LF b := by
  obtain ⟨kvs, ⟨o, es, ep, ho, r⟩, h2⟩ := x
  exact ⟨kvs, ⟨o, es, ep, k _ _ ho hS, r⟩, h2⟩
theorem LfB.at' {w : World} {h : Heap} {lf : Addr} {dom : List Nat} {LF : Nat → Nat} {b : Nat} (x : LfB w h lf dom LF b) (hb : b ≤ 100) : LfAt w h lf dom fun i => LF i :=
  let ⟨kvs, h1, h2, h3⟩ := x; ⟨kvs, h1, by omega, h3⟩
theorem LfB.sub {w : World} {h : Heap} {lf : Addr} {dom dom' : List Nat} {LF : Nat → Nat} {b : Nat} (x : LfB w h lf dom LF b) (hd : ∀ i ∈ dom', i ∈ dom) : LfB w h lf dom' LF b :=
  let ⟨kvs, h1, h2, h3⟩ := x; ⟨kvs, h1, h2, fun i hi => h3 i (hd i hi)⟩
theorem LfB.mut {w : World} {h : Heap} {lf : Addr} {dom : List Nat} {LF : Nat → Nat} {b : Nat} (x : LfB w h lf dom LF b) : ∃ o, h.get? lf = some o ∧ Mut o :=
  let ⟨_, ⟨o, _, _, ho, _, hd, _⟩, _⟩ := x; ⟨o, ho, mut_dict hd⟩
theorem find_put (k : Str) (v : Value) (x : Str) (hx : ¬ x = k) : ∀ kvs : List (Str × Value), ((kvs.map fun kv => if kv.1 = k then (kv.1, v) else kv).find? fun kv => decide (kv.1 = x)).map (·.2) = (kvs.find? fun kv => decide (kv.1 = x)).map (·.2)
  | [] => rfl
  | a :: r => by
    have ih := find_put k v x hx r
    rw [List.map_cons, List.find?_cons, List.find?_cons]
    by_cases h1 : a.1 = k
    · have h2 : ¬ a.1 = x := fun e => hx (e.symm.trans h1)
      rw [if_pos h1]
      simp only [h2, decide_false]
      exact ih
    · rw [if_neg h1]
      by_cases h3 : a.1 = x
      · simp only [h3, decide_true]
      · simp only [h3, decide_false]
        exact ih
theorem find_put_same (v : Value) (x : Str) : ∀ kvs : List (Str × Value), kvs.any (fun kv => decide (kv.1 = x)) = true → ((kvs.map fun kv => if kv.1 = x then (kv.1, v) else kv).find? fun kv => decide (kv.1 = x)).map (·.2) = some v
  | [], h => by simp at h
  | a :: r, h => by
    rw [List.map_cons, List.find?_cons]
    by_cases h1 : a.1 = x
    · rw [if_pos h1]; simp only [h1, decide_true]; rfl
    · rw [if_neg h1]
      simp only [h1, decide_false]
      exact find_put_same v x r (by simpa [h1] using h)
theorem valueAt_stored (kvs : List (Str × Value)) (k : Str) (v : Value) (x : Str) : valueAt (stored kvs k v) x = if x = k then some v else valueAt kvs x := by
  unfold stored valueAt
  split
  · rename_i hany
    by_cases h2 : x = k
    · subst h2; rw [if_pos rfl]; exact find_put_same v x kvs hany
    · rw [if_neg h2]; exact find_put k v x h2 kvs
  · rename_i hany
    rw [List.find?_append]
    by_cases h2 : x = k
    · subst h2
      have : kvs.find? (fun kv => decide (kv.1 = x)) = none := by
        rw [List.find?_eq_none]; intro y hy e; exact hany (List.any_eq_true.mpr ⟨y, hy, e⟩)
      rw [this]; simp
    · rw [if_neg h2]
      have h3 : ¬ k = x := fun e => h2 e.symm
      have : [(k, v)].find? (fun kv => decide (kv.1 = x)) = none := by simp [h3]
      rw [this, Option.or_none]
theorem stored_length (kvs : List (Str × Value)) (k : Str) (v v' : Value) (h : valueAt kvs k = some v') : (stored kvs k v).length = kvs.length := by
  unfold stored
  rw [if_pos]
  · simp
  · unfold valueAt at h
    obtain ⟨p, hp, _⟩ := Option.map_eq_some_iff.mp h
    have h2 := List.find?_some hp
    exact List.any_eq_true.mpr ⟨p, List.mem_of_find?_eq_some hp, h2⟩
theorem nm_inj {i k : Nat} : ((⟨nmA k⟩ : Str) = ⟨nmA i⟩) ↔ k = i := by
  constructor
  · intro e
    have := congrArg Str.cps e
    simp only [nmA] at this
    have := congrArg Array.toList this
    simpa using this
  · rintro rfl; rfl
theorem ext_same_but {h h' : Heap} {a : Addr} (x : Heap.SameBut a h h') : Ext [a] h h' := fun b o e hb => x.extBut b o (by simpa using hb) e
theorem lf_set_new {w : World} {A : Around} {E : Value → Shared → Prop} {s : Shared} {lf : Addr} {dom : List Nat} {LF : Nat → Nat} {b i v : Nat} {t u : Tok} {Q : Unit → Shared → Prop} (x : LfB w s.heap lf dom LF b) (hb : b < 100)
    (hQ : ∀ h' tk, Ext [lf] s.heap h' → LfB w h' lf (i :: dom) (setF LF i v) (b + 1) → Q () { s with heap := h', toks := tk }) : wpAny (MM w) A (setItem (.ref lf) (.str ⟨nmA i⟩ t) (.int (v : Int) u)) Q E s := by
  obtain ⟨kvs, hd, hl, hv⟩ := x
  refine wpAny_setItem_pairs (strKind_is _ _ _ _) hd (fun h' hd' hs => hQ h' _ (ext_same_but hs) ⟨_, hd', ?_, fun k hk => ?_⟩) (by show kvs.length ≤ 16777216; omega)
  · have := stored_length_le kvs ⟨nmA i⟩ (.int (v : Int) u); omega
  · rw [valueAt_stored]
    unfold setF
    by_cases e : k = i
    · subst e; exact ⟨u, by rw [if_pos rfl, if_pos rfl]⟩
    · rw [if_neg (fun q => e (nm_inj.mp q)), if_neg e]
      rcases List.mem_cons.mp hk with rfl | hk
      · exact absurd rfl e
      · exact hv k hk
theorem lf_set {w : World} {A : Around} {E : Value → Shared → Prop} {s : Shared} {lf : Addr} {dom : List Nat} {LF : Nat → Nat} {b i v : Nat} {t u : Tok} {Q : Unit → Shared → Prop} (x : LfB w s.heap lf dom LF b) (hb : b ≤ 100) (hi : i ∈ dom)
    (hQ : ∀ h' tk, Ext [lf] s.heap h' → LfB w h' lf dom (setF LF i v) b → Q () { s with heap := h', toks := tk }) : wpAny (MM w) A (setItem (.ref lf) (.str ⟨nmA i⟩ t) (.int (v : Int) u)) Q E s := by
  obtain ⟨kvs, hd, hl, hv⟩ := x
  obtain ⟨t', hv'⟩ := hv i hi
  refine wpAny_setItem_pairs (strKind_is _ _ _ _) hd (fun h' hd' hs => hQ h' _ (ext_same_but hs) ⟨_, hd', ?_, fun k hk => ?_⟩) (by show kvs.length ≤ 16777216; omega)
  · rw [stored_length _ _ _ _ hv']; exact hl
  · rw [valueAt_stored]
    unfold setF
    by_cases e : k = i
    · subst e; exact ⟨u, by rw [if_pos rfl, if_pos rfl]⟩
    · rw [if_neg (fun q => e (nm_inj.mp q)), if_neg e]
      exact hv k hk
theorem lf_get {w : World} {A : Around} {E : Value → Shared → Prop} {s : Shared} {value slice : Expr} {lf : Addr} {dom : List Nat} {LF : Nat → Nat} {b i : Nat} {t : Tok} {Q : Value → Shared → Prop} (x : LfB w s.heap lf dom LF b) (hi : i ∈ dom)
    (hQ : ∀ u, Q (.int (LF i : Int) u) { s with toks := s.toks + 1 })
    (hs : subscripted slice false (.ref lf) (.str ⟨nmA i⟩ t) = operate [.ref lf, .str ⟨nmA i⟩ t] (getItem (.ref lf) (.str ⟨nmA i⟩ t)) := by with_unfolding_all rfl) (hg : ∀ r, letTemporaryGo value (.ref lf) r = pure () := by intro _; with_unfolding_all rfl) :
    wpAny (MM w) A (subscriptTail value slice (.ref lf) (.str ⟨nmA i⟩ t)) Q E s := by
  obtain ⟨kvs, hd, hl, hv⟩ := x
  obtain ⟨u, hu⟩ := hv i hi
  exact item_map hd hu (hQ u) hs hg
/-- the places -/
structure Ad where
  tb : Addr
  dx : Addr
  hl : Addr
  ld : Addr
  lf : Addr
  fl : Nat → Addr
noncomputable abbrev Ad.sup0 (z : Ad) : List Addr := [z.tb, z.dx, z.hl, z.ld, 238, 245, 250, z.fl 0, z.fl 1, z.fl 2, z.fl 3, z.fl 4, z.fl 5]
noncomputable abbrev Ad.sup (z : Ad) : List Addr := z.lf :: z.sup0
noncomputable abbrev dueQ : Str := Str.ofString "_law_due.<locals>.<lambda>"
noncomputable abbrev rightQ : Str := Str.ofString "_law_right.<locals>.<lambda>"
noncomputable abbrev chQ : Str := Str.ofString "_law_choices.<locals>.<lambda>"
structure Tabs (h : Heap) : Prop where
  t1 : TabOk h 238 dueQ
  t2 : TabOk h 245 rightQ
  t3 : TabOk h 250 chQ
theorem Tabs.ext {h h' : Heap} {S : List Addr} (x : Tabs h) (k : Ext S h h') (hS : Muts h S) (d1 : 238 ∉ S) (d2 : 245 ∉ S) (d3 : 250 ∉ S) : Tabs h' := ⟨x.t1.ext k hS d1, x.t2.ext k hS d2, x.t3.ext k hS d3⟩
/-- what the table, the list of what was laid and the lists of what was found hold -/
structure Ws (h : Heap) (z : Ad) (H Hl : List Ln) (f : Nat → List (Array Nat)) : Prop where
  tb : h.get? z.tb = some (instObj 182 z.dx)
  dx : ∃ hs n1 k1, h.get? z.dx = some (hdrD hs n1 k1 z.hl)
  hl : ∃ items n, h.get? z.hl = some (lstO (List.toArray items) n) ∧ LnsAt h items H
  ld : ∃ items n, h.get? z.ld = some (lstO (List.toArray items) n) ∧ LnsAt h items Hl
  fl : ∀ k, k < 6 → ∃ ys n, h.get? (z.fl k) = some (lstO (List.toArray ys) n) ∧ StrsV ys (f k)
theorem mut_inst (C d : Addr) : Mut (instObj C d) := ⟨fun e => (by cases e), fun _ e => (by cases e), fun _ e => (by cases e)⟩
theorem Ws.mhl {h : Heap} {z : Ad} {H Hl : List Ln} {f : Nat → List (Array Nat)} (x : Ws h z H Hl f) : Muts h [z.tb, z.dx, z.hl] := by
  obtain ⟨hs, n1, k1, e⟩ := x.dx
  obtain ⟨i, n, e2, _⟩ := x.hl
  exact muts_cons ⟨_, x.tb, mut_inst _ _⟩ (muts_cons ⟨_, e, mut_dict rfl⟩ (muts_one e2 (mut_list _ _)))
theorem fl_at (z : Ad) {k : Nat} (hk : k < 6) : z.sup0[7 + k]? = some (z.fl k) := by rcases lt6 hk with rfl | rfl | rfl | rfl | rfl | rfl <;> rfl
theorem fl_mem (z : Ad) {k : Nat} (hk : k < 6) : z.fl k ∈ z.sup0 := List.mem_of_getElem? (fl_at z hk)
theorem Ws.ext {h h' : Heap} {z : Ad} {H Hl : List Ln} {f : Nat → List (Array Nat)} {S : List Addr} (x : Ws h z H Hl f) (k : Ext S h h') (hS : Muts h S) (d : ∀ a ∈ z.sup0, a ∉ S) : Ws h' z H Hl f := by
  obtain ⟨a1, ⟨hs, n1, k1, a2⟩, ⟨i3, n3, a3, b3⟩, ⟨i4, n4, a4, b4⟩, a5⟩ := x
  exact ⟨k _ _ a1 (d _ (at_ 0 rfl)), ⟨hs, n1, k1, k _ _ a2 (d _ (at_ 1 rfl))⟩, ⟨i3, n3, k _ _ a3 (d _ (at_ 2 rfl)), b3.ext k hS⟩, ⟨i4, n4, k _ _ a4 (d _ (at_ 3 rfl)), b4.ext k hS⟩,
    fun j hj => let ⟨ys, n, e1, e2⟩ := a5 j hj; ⟨ys, n, k _ _ e1 (d _ (fl_mem z hj)), e2⟩⟩
theorem ne_of_nodup {l : List Addr} (h : l.Nodup) {i j : Nat} {a b : Addr} (ei : l[i]? = some a) (ej : l[j]? = some b) (hij : i ≠ j) : a ≠ b := by
  intro e; subst e
  obtain ⟨hi, e1⟩ := List.getElem?_eq_some_iff.mp ei
  obtain ⟨hj, e2⟩ := List.getElem?_eq_some_iff.mp ej
  have := (List.nodup_iff_pairwise_ne.mp h)
  rw [List.pairwise_iff_getElem] at this
  rcases Nat.lt_or_gt_of_ne hij with q | q
  · exact this i j hi hj q (e1.trans e2.symm)
  · exact this j i hj hi q (e2.trans e1.symm)
/-- a line more in the table -/
theorem Ws.addHl {h h' : Heap} {z : Ad} {H Hl : List Ln} {f : Nat → List (Array Nat)} {p : Ln} {items : List Value} {d n n' : _} (x : Ws h z H Hl f) (hz : z.sup0.Nodup) (e0 : h.get? z.hl = some (lstO (List.toArray items) n)) (b0 : LnsAt h items H)
    (k : Ext [z.hl] h h') (e : h'.get? z.hl = some (lstO (items ++ [Value.ref d]).toArray n')) (q : LnAt h' (.ref d) p) : Ws h' z (H ++ [p]) Hl f := by
  obtain ⟨a1, ⟨hs, n1, k1, a2⟩, _, ⟨i4, n4, a4, b4⟩, a5⟩ := x
  have hS : Muts h [z.hl] := muts_one e0 (mut_list _ _)
  have ne : ∀ {i : Nat} {a : Addr}, z.sup0[i]? = some a → i ≠ 2 → a ∉ [z.hl] := fun ei hi => by simpa using ne_of_nodup hz ei (show z.sup0[2]? = some z.hl from rfl) hi
  exact ⟨k _ _ a1 (ne (i := 0) rfl (by decide)), ⟨hs, n1, k1, k _ _ a2 (ne (i := 1) rfl (by decide))⟩, ⟨_, _, e, (b0.ext k hS).append (.cons q .nil)⟩, ⟨i4, n4, k _ _ a4 (ne (i := 3) rfl (by decide)), b4.ext k hS⟩,
    fun j hj => let ⟨ys, n, e1, e2⟩ := a5 j hj; ⟨ys, n, k _ _ e1 (ne (i := 7 + j) (fl_at z hj) (by omega)), e2⟩⟩
/-- changes of the list of what was laid and of two lists of what was found -/
theorem Ws.three {h h' : Heap} {z : Ad} {H Hl Hl' : List Ln} {f f' : Nat → List (Array Nat)} {S : List Addr} {a b : Nat} {ya yb : List Value} {na nb : Nat} (x : Ws h z H Hl f) (hz : z.sup0.Nodup) (ha : a < 6) (hb : b < 6)
    (k : Ext S h h') (hS : Muts h S) (hd : ∀ y ∈ z.sup0, y ∈ S → y = z.ld ∨ y = z.fl a ∨ y = z.fl b) (e : ∃ items n, h'.get? z.ld = some (lstO (List.toArray items) n) ∧ LnsAt h' items Hl')
    (ea : h'.get? (z.fl a) = some (lstO (List.toArray ya) na)) (qa : StrsV ya (f' a)) (eb : h'.get? (z.fl b) = some (lstO (List.toArray yb) nb)) (qb : StrsV yb (f' b)) (hf : ∀ k, k ≠ a → k ≠ b → f' k = f k) : Ws h' z H Hl' f' := by
  obtain ⟨a1, ⟨hs, n1, k1, a2⟩, ⟨i3, n3, a3, b3⟩, _, a5⟩ := x
  have ne : ∀ {i : Nat} {y : Addr}, z.sup0[i]? = some y → i ≠ 3 → i ≠ 7 + a → i ≠ 7 + b → y ∉ S := fun ei h1 h2 h3 hy => by
    rcases hd _ (List.mem_of_getElem? ei) hy with e | e | e
    · exact ne_of_nodup hz ei (show z.sup0[3]? = some z.ld from rfl) h1 e
    · exact ne_of_nodup hz ei (fl_at z ha) h2 e
    · exact ne_of_nodup hz ei (fl_at z hb) h3 e
  refine ⟨k _ _ a1 (ne (i := 0) rfl (by omega) (by omega) (by omega)), ⟨hs, n1, k1, k _ _ a2 (ne (i := 1) rfl (by omega) (by omega) (by omega))⟩, ⟨i3, n3, k _ _ a3 (ne (i := 2) rfl (by omega) (by omega) (by omega)), b3.ext k hS⟩, e, fun j hj => ?_⟩
  by_cases h1 : j = a
  · subst h1; exact ⟨_, _, ea, qa⟩
  · by_cases h2 : j = b
    · subst h2; exact ⟨_, _, eb, qb⟩
    · obtain ⟨ys, n, e1, e2⟩ := a5 j hj
      exact ⟨ys, n, k _ _ e1 (ne (i := 7 + j) (fl_at z hj) (by omega) (by omega) (by omega)), by rw [hf j h1 h2]; exact e2⟩
theorem Ws.there {h : Heap} {z : Ad} {H Hl : List Ln} {f : Nat → List (Array Nat)} (x : Ws h z H Hl f) (t : Tabs h) : ∀ a ∈ z.sup0, ∃ o, h.get? a = some o := by
  obtain ⟨a1, ⟨hs, n1, k1, a2⟩, ⟨i3, n3, a3, b3⟩, ⟨i4, n4, a4, b4⟩, a5⟩ := x
  obtain ⟨⟨_, t1, _⟩, ⟨_, t2, _⟩, ⟨_, t3, _⟩⟩ := t
  have f' : ∀ k, k < 6 → ∃ o, h.get? (z.fl k) = some o := fun k hk => let ⟨_, _, e, _⟩ := a5 k hk; ⟨_, e⟩
  exact all_c ⟨_, a1⟩ (all_c ⟨_, a2⟩ (all_c ⟨_, a3⟩ (all_c ⟨_, a4⟩ (all_c ⟨_, t1⟩ (all_c ⟨_, t2⟩ (all_c ⟨_, t3⟩ (all_c (f' 0 (by decide)) (all_c (f' 1 (by decide)) (all_c (f' 2 (by decide)) (all_c (f' 3 (by decide)) (all_c (f' 4 (by decide)) (all_c (f' 5 (by decide)) all_n))))))))))))
end Mine
end
section
open PySem PySem.W PyProof.Rows PySem.Calls PySem.Spec PyProof.V
set_option maxRecDepth 100000
namespace Mine
noncomputable def bodyAt (w : World) (a : Addr) : List Stmt := match (hd.heap_39 w.params).lookup a with
  | some ⟨_, _, .func fd, _⟩ => (match fd.body with | .stmts b => b | _ => [])
  | _ => []
noncomputable def scopeAt (w : World) (a : Addr) : Scope := match (hd.heap_39 w.params).lookup a with
  | some ⟨_, _, .func fd, _⟩ => fd.scope
  | _ => default
noncomputable def forOf : Stmt → List Stmt
  | .For _ _ b _ _ => b
  | _ => []
noncomputable def chStmt (w : World) (i : Nat) : Stmt := (bodyAt w 253).getD i (.Pass default)
noncomputable def chInit (w : World) : List Stmt := forOf (chStmt w 2)
noncomputable def chTurn (w : World) : List Stmt := forOf (chStmt w 4)
noncomputable def chInner (w : World) : List Stmt := forOf ((chTurn w).getD 10 (.Pass default))
noncomputable abbrev chEnv (w : World) (L : Addr) : Env := envOfC (Str.ofString "_law_choices") (scopeAt w 253) L 253 (.ref 252)
noncomputable abbrev Ad.all (z : Ad) (L rl : Addr) : List Addr := L :: (L + 1) :: rl :: z.sup
noncomputable def RlAt (h : Heap) (rl : Addr) (ps : List Rw) : Prop := ∃ items n, h.get? rl = some (lstO (List.toArray items) n) ∧ RowAt h items ps
theorem RlAt.ext {h h' : Heap} {rl : Addr} {ps : List Rw} {S : List Addr} (x : RlAt h rl ps) (k : Ext S h h') (hM : Muts h S) (hr : rl ∉ S) : RlAt h' rl ps :=
  let ⟨i, n, e, r⟩ := x; ⟨i, n, k _ _ e hr, r.ext k hM⟩
/-- all that the walk of _law_choices knows of the heap -/
structure Bag (w : World) (g : Heap) (L : Addr) (oc : Obj) (z : Ad) (rl : Addr) (h : Heap) (m : Str → Option Value) (H Hl : List Ln) (f : Nat → List (Array Nat)) (dom : List Nat) (LF : Nat → Nat) (b : Nat) (ps : List Rw) : Prop where
  F : Fr g L h m
  N : News g L h [(L + 1, oc)]
  W : Ws h z H Hl f
  T : Tabs h
  D : LfB w h z.lf dom LF b
  R : RlAt h rl ps
section
variable {w : World} {g h h' : Heap} {L : Addr} {oc : Obj} {z : Ad} {rl : Addr} {m m' : Str → Option Value} {H Hl : List Ln} {f : Nat → List (Array Nat)} {dom : List Nat} {LF : Nat → Nat} {b : Nat} {ps : List Rw} {S : List Addr}
theorem Bag.sup0_there (x : Bag w g L oc z rl h m H Hl f dom LF b ps) : ∀ a ∈ z.all L rl, ∃ o, h.get? a = some o := by
  intro a ha
  rcases List.mem_cons.mp ha with rfl | ha
  · obtain ⟨o, _, _, e, _⟩ := x.F.ns; exact ⟨o, e⟩
  rcases List.mem_cons.mp ha with rfl | ha
  · exact ⟨_, (x.N _ (.head _)).1⟩
  rcases List.mem_cons.mp ha with rfl | ha
  · obtain ⟨_, _, e, _⟩ := x.R; exact ⟨_, e⟩
  rcases List.mem_cons.mp ha with rfl | ha
  · obtain ⟨o, e, _⟩ := x.D.mut; exact ⟨o, e⟩
  · exact x.W.there x.T a ha
theorem sup0_in {a : Addr} (h : a ∈ z.sup0) : a ∈ z.all L rl := .tail _ (.tail _ (.tail _ (.tail _ h)))
theorem fl_all (z : Ad) {L rl : Addr} {k : Nat} (hk : k < 6) : (z.all L rl)[11 + k]? = some (z.fl k) := by rcases lt6 hk with rfl | rfl | rfl | rfl | rfl | rfl <;> rfl
theorem lf_in : z.lf ∈ z.all L rl := .tail _ (.tail _ (.tail _ (.head _)))
theorem rl_in : rl ∈ z.all L rl := .tail _ (.tail _ (.head _))
theorem tab_in {a : Addr} (h : a = 238 ∨ a = 245 ∨ a = 250) : a ∈ z.sup0 := by
  rcases h with rfl | rfl | rfl
  · exact at_ 4 rfl
  · exact at_ 5 rfl
  · exact at_ 6 rfl
/-- a change elsewhere -/
theorem Bag.other (x : Bag w g L oc z rl h m H Hl f dom LF b ps) (k : Ext S h h') (hM : Muts h S) (d : ∀ a ∈ z.all L rl, a ∉ S) (hS : ∀ a ∈ S, g.get? a = none) : Bag w g L oc z rl h' m H Hl f dom LF b ps where
  F := fr_ext x.F k (d _ (.head _)) hS
  N := news_ext x.N k (all_c (d (L + 1) (.tail _ (.head _))) all_n)
  W := x.W.ext k hM fun a ha => d _ (sup0_in ha)
  T := x.T.ext k hM (d _ (sup0_in (tab_in (.inl rfl)))) (d _ (sup0_in (tab_in (.inr (.inl rfl))))) (d _ (sup0_in (tab_in (.inr (.inr rfl)))))
  D := x.D.ext k (d _ lf_in)
  R := x.R.ext k hM (d _ rl_in)
theorem Bag.same (x : Bag w g L oc z rl h m H Hl f dom LF b ps) (k : Ext [] h h') : Bag w g L oc z rl h' m H Hl f dom LF b ps := x.other k (muts_nil _) (fun _ _ => List.not_mem_nil) all_n
/-- a stretch of the walk -/
theorem Bag.walk (x : Bag w g L oc z rl h m H Hl f dom LF b ps) (hz : (z.all L rl).Nodup) (hoc : oc.data = .cell (some (.ref z.lf))) (F : Fr g L h' m') {news : List (Addr × Obj)} (N : News g L h' news) (hs : ∀ p ∈ (L + 1, oc) :: rest g L h [L + 1], p ∈ news) :
    Ext [L, L + 1] h h' ∧ Bag w g L oc z rl h' m' H Hl f dom LF b ps := by
  have k : Ext [L, L + 1] h h' := ext_of_rest x.F F (news_sub N fun p hp => hs p (.tail _ hp))
  have n1 := List.nodup_cons.mp hz
  have n2 := List.nodup_cons.mp n1.2
  have hM : Muts h [L, L + 1] := muts_cons (mut_ns x.F.ns) (muts_one (x.N _ (.head _)).1 ⟨fun _ _ _ q => (by rw [hoc] at q; cases q), fun _ q => (by rw [hoc] at q; cases q), fun _ q => (by rw [hoc] at q; cases q)⟩)
  have d : ∀ a ∈ rl :: z.sup, a ∉ [L, L + 1] := fun a ha q => by
    rcases List.mem_cons.mp q with rfl | q
    · exact n1.1 (.tail _ ha)
    · rw [List.mem_singleton] at q; subst q; exact n2.1 ha
  refine ⟨k, F, news_sub N fun p hp => hs p (by rw [List.mem_singleton] at hp; subst hp; exact .head _), x.W.ext k hM fun a ha => d _ (.tail _ (.tail _ ha)), x.T.ext k hM ?_ ?_ ?_, x.D.ext k (d _ (.tail _ (.head _))), x.R.ext k hM (d _ (.head _))⟩
  · exact d _ (.tail _ (.tail _ (tab_in (.inl rfl))))
  · exact d _ (.tail _ (.tail _ (tab_in (.inr (.inl rfl)))))
  · exact d _ (.tail _ (.tail _ (tab_in (.inr (.inr rfl)))))
theorem ne_all (hz : (z.all L rl).Nodup) {a : Addr} (i : Nat) (e : (z.all L rl)[i]? = some a) : ∀ y j, (z.all L rl)[j]? = some y → j ≠ i → y ∉ [a] := fun y j ej hij => by
  have := ne_of_nodup hz ej e hij
  simpa using this
theorem Bag.setLf (x : Bag w g L oc z rl h m H Hl f dom LF b ps) (hz : (z.all L rl).Nodup) (hg : ∀ a ∈ z.all L rl, g.get? a = none) (k : Ext [z.lf] h h') {dom' : List Nat} {LF' : Nat → Nat} {b' : Nat} (e : LfB w h' z.lf dom' LF' b') : Bag w g L oc z rl h' m H Hl f dom' LF' b' ps := by
  have hM : Muts h [z.lf] := by obtain ⟨o, e, q⟩ := x.D.mut; exact muts_one e q
  have ne := ne_all hz 3 rfl
  have d0 : ∀ a ∈ z.sup0, a ∉ [z.lf] := fun a ha => by
    obtain ⟨j, ej⟩ := List.getElem?_of_mem ha
    exact ne a (j + 4) (by simpa using ej) (by omega)
  refine ⟨fr_ext x.F k (ne _ 0 rfl (by decide)) (all_c (hg _ lf_in) all_n), news_ext x.N k (all_c (ne (L + 1) 1 rfl (by decide)) all_n), x.W.ext k hM d0, x.T.ext k hM (d0 _ (tab_in (.inl rfl))) (d0 _ (tab_in (.inr (.inl rfl)))) (d0 _ (tab_in (.inr (.inr rfl)))), e, x.R.ext k hM (ne _ 2 rfl (by decide))⟩
theorem Bag.setRl (x : Bag w g L oc z rl h m H Hl f dom LF b ps) (hz : (z.all L rl).Nodup) (hg : ∀ a ∈ z.all L rl, g.get? a = none) (k : Ext [rl] h h') {ps' : List Rw} (e : RlAt h' rl ps') : Bag w g L oc z rl h' m H Hl f dom LF b ps' := by
  have hM : Muts h [rl] := by obtain ⟨_, _, e, _⟩ := x.R; exact muts_one e (mut_list _ _)
  have ne := ne_all hz 2 rfl
  have d0 : ∀ a ∈ z.sup0, a ∉ [rl] := fun a ha => by
    obtain ⟨j, ej⟩ := List.getElem?_of_mem ha
    exact ne a (j + 4) (by simpa using ej) (by omega)
  refine ⟨fr_ext x.F k (ne _ 0 rfl (by decide)) (all_c (hg _ rl_in) all_n), news_ext x.N k (all_c (ne (L + 1) 1 rfl (by decide)) all_n), x.W.ext k hM d0, x.T.ext k hM (d0 _ (tab_in (.inl rfl))) (d0 _ (tab_in (.inr (.inl rfl)))) (d0 _ (tab_in (.inr (.inr rfl)))), x.D.ext k (ne _ 3 rfl (by decide)), e⟩
/-- one of the tables -/
theorem Bag.setTab (x : Bag w g L oc z rl h m H Hl f dom LF b ps) (hz : (z.all L rl).Nodup) (hg : ∀ a ∈ z.all L rl, g.get? a = none) {P : Addr} {qual : Str} (hP : (P = 238 ∧ qual = dueQ) ∨ (P = 245 ∧ qual = rightQ) ∨ (P = 250 ∧ qual = chQ)) (k : Ext [P] h h') (e : TabOk h' P qual) : Bag w g L oc z rl h' m H Hl f dom LF b ps := by
  have hPn : ∃ j, (z.all L rl)[j]? = some P ∧ (j = 8 ∨ j = 9 ∨ j = 10) := by
    rcases hP with ⟨rfl, _⟩ | ⟨rfl, _⟩ | ⟨rfl, _⟩
    · exact ⟨8, rfl, by decide⟩
    · exact ⟨9, rfl, by decide⟩
    · exact ⟨10, rfl, by decide⟩
  obtain ⟨j, hj, hj3⟩ := hPn
  have ne := ne_all hz j hj
  have hM : Muts h [P] := by
    have : ∃ o, h.get? P = some o ∧ Mut o := by
      rcases hP with ⟨rfl, _⟩ | ⟨rfl, _⟩ | ⟨rfl, _⟩
      · exact x.T.t1.mut
      · exact x.T.t2.mut
      · exact x.T.t3.mut
    obtain ⟨o, e, q⟩ := this; exact muts_one e q
  have hW : Ws h' z H Hl f := by
    obtain ⟨a1, ⟨hs, n1, k1, a2⟩, ⟨i3, n3, a3, b3⟩, ⟨i4, n4, a4, b4⟩, a5⟩ := x.W
    refine ⟨k _ _ a1 (ne _ 4 rfl (by omega)), ⟨hs, n1, k1, k _ _ a2 (ne _ 5 rfl (by omega))⟩, ⟨i3, n3, k _ _ a3 (ne _ 6 rfl (by omega)), b3.ext k hM⟩, ⟨i4, n4, k _ _ a4 (ne _ 7 rfl (by omega)), b4.ext k hM⟩, fun i hi => ?_⟩
    obtain ⟨ys, n, e1, e2⟩ := a5 i hi
    exact ⟨ys, n, k _ _ e1 (ne _ (11 + i) (fl_all z hi) (by omega)), e2⟩
  have hT : Tabs h' := by
    obtain ⟨t1, t2, t3⟩ := x.T
    rcases hP with ⟨rfl, rfl⟩ | ⟨rfl, rfl⟩ | ⟨rfl, rfl⟩
    · exact ⟨e, t2.ext k hM (by decide), t3.ext k hM (by decide)⟩
    · exact ⟨t1.ext k hM (by decide), e, t3.ext k hM (by decide)⟩
    · exact ⟨t1.ext k hM (by decide), t2.ext k hM (by decide), e⟩
  exact ⟨fr_ext x.F k (ne _ 0 rfl (by omega)) (by rw [List.forall_mem_singleton]; exact hg _ (List.mem_of_getElem? hj)), news_ext x.N k (all_c (ne (L + 1) 1 rfl (by omega)) all_n), hW, hT, x.D.ext k (ne _ 3 rfl (by omega)), x.R.ext k hM (ne _ 2 rfl (by omega))⟩
theorem Bag.setW (x : Bag w g L oc z rl h m H Hl f dom LF b ps) (hz : (z.all L rl).Nodup) (hg : ∀ a ∈ z.all L rl, g.get? a = none) (hS : ∀ a ∈ S, a = z.hl ∨ a = z.ld ∨ ∃ k, k < 6 ∧ a = z.fl k) (k : Ext S h h') (hM : Muts h S) {H' Hl' : List Ln} {f' : Nat → List (Array Nat)} (e : Ws h' z H' Hl' f') : Bag w g L oc z rl h' m H' Hl' f' dom LF b ps := by
  have pl : ∀ a ∈ S, ∃ j, (z.all L rl)[j]? = some a ∧ (j = 6 ∨ j = 7 ∨ 11 ≤ j) := fun a ha => by
    rcases hS a ha with rfl | rfl | ⟨i, hi, rfl⟩
    · exact ⟨6, rfl, by decide⟩
    · exact ⟨7, rfl, by decide⟩
    · exact ⟨11 + i, fl_all z hi, by omega⟩
  have ne : ∀ y j, (z.all L rl)[j]? = some y → j ≠ 6 → j ≠ 7 → j < 11 → y ∉ S := fun y j ej h1 h2 h3 hy => by
    obtain ⟨i, ei, hi⟩ := pl y hy
    exact ne_of_nodup hz ej ei (by omega) rfl
  refine ⟨fr_ext x.F k (ne _ 0 rfl (by decide) (by decide) (by decide)) (fun a ha => let ⟨j, ej, _⟩ := pl a ha; hg _ (List.mem_of_getElem? ej)), news_ext x.N k (all_c (ne (L + 1) 1 rfl (by decide) (by decide) (by decide)) all_n), e, x.T.ext k hM (ne _ 8 rfl (by decide) (by decide) (by decide)) (ne _ 9 rfl (by decide) (by decide) (by decide)) (ne _ 10 rfl (by decide) (by decide) (by decide)),
    x.D.ext k (ne _ 3 rfl (by decide) (by decide) (by decide)), x.R.ext k hM (ne _ 2 rfl (by decide) (by decide) (by decide))⟩
theorem Bag.ledger (x : Bag w g L oc z rl h m H Hl f dom LF b ps) : News g L h ((L + 1, oc) :: Mine.rest g L h [L + 1]) := fun p hp => by
  rcases List.mem_cons.mp hp with rfl | hp
  · exact x.N _ (.head _)
  · exact rest_news p hp
theorem Bag.hide (x : Bag w g L oc z rl h m H Hl f dom LF b ps) (hg : ∀ a ∈ z.all L rl, g.get? a = none) (hS : ∀ a ∈ S, a ∈ z.all L rl) : ∀ b o, g.get? b = some o → (hideAll h S).get? b = some o := hide_keeps x.F fun a ha => hg a (hS a ha)
end
end Mine
end
section
open PySem PySem.W PyProof.Rows PySem.Calls PySem.Spec PyProof.V
set_option maxRecDepth 100000
namespace Mine
theorem fillCh1 : (∀ w : World, hd.heap_39 w.params = hd.heap_39 w.params) ∧ PySem.Challenge.rw_uc0036_01.foot = 6 := by
  k_fill
  w_top off
  exact ⟨fun _ => rfl, rfl⟩
local macro_rules | `(tactic| k_all) => `(tactic| assumption)
local macro_rules | `(tactic| walk_at "eval Name") => `(tactic| (k_here; k_dflt (refine' nameX_L ?F ?v ?_ ?a ?b; (case F => k_asm); (case a => rfl); (case b => rfl); (case v => assumption); k_whole)))
local macro_rules | `(tactic| walk_at "call ref") => `(tactic| refine Mine.stop_in ?_)
local macro_rules | `(tactic| walk_at "eval Lambda") => `(tactic| refine Mine.stop_in ?_)
local macro_rules | `(tactic| walk_at "call builtin:ord") => `(tactic| (refine PyProof.P.ord_of_char ?_))
set_option maxHeartbeats 8000000 in
theorem chInitTurn {w : World} {p : Program} {loose : List Str} {mean : ExcName → Option Value} {mg mb : Str → Option Value} {dp un : Nat} {fr : Option (List Env)} {gd : Option (List Code)} {s : Shared} {B : List Stmt} (hB : B = chInit w)
   {g : Heap} {L : Addr} {oc : Obj} {m : Str → Option Value} {z : Ad} {H Hl : List Ln} {f : Nat → List (Array Nat)} {dom : List Nat} {LF : Nat → Nat} {b k : Nat} {ga rl : Addr} {ps : List Rw} {G : Gs} {t : Tok}
   (hdp : dp < 600) (hun : un < 4700) (hk : k < 6) (hG1 : ∀ k, (G k).1 < 6) (hG2 : ∀ k, (G k).2 < 4096) (hH : ∀ q ∈ H, q.1 ∈ texts) (hsz : H.length ≤ 1000) (hcnt : gets H (nmA k) = [])
   (X : (hd.heap_39 w.params).In g) (T : Top p loose mean mg mb g) (C : CodeHd g 252 250) (hG : GAt g ga G)
   (hz : (z.all L rl).Nodup) (hg0 : ∀ a ∈ z.all L rl, g.get? a = none) (hoc : oc.data = .cell (some (.ref z.lf)))
   (B0 : Bag w g L oc z rl s.heap m H Hl f dom LF b ps) (hb : b < 50) (hsw : SortedW ps) (hps : ps.length ≤ 99)
   (m1 : m (Str.ofString "guests") = some (.ref ga)) (m2 : m (Str.ofString "table") = some (.ref z.tb)) (m3 : m (Str.ofString "row") = some (.ref rl)) (m4 : m (Str.ofString "name") = some (.str ⟨nmA k⟩ t)) :
   wpAny (MM w) (AA dp un fr gd) (execs B (chEnv w L)) (fun fl s' => Stop (fl = .next ∧ ∃ h' tk, s' = { s with heap := h', toks := tk } ∧ Ext (z.all L rl) s.heap h' ∧
     Bag w g L oc z rl h' m H Hl f (k :: dom) (setF LF k (G k).1) (b + 1) (insR (wd (G k).1 (G k).2, ⟨nmA k⟩) ps))) (fun _ _ => False) s := by
  subst hB
  conv in chInit w => whnf
  dsimp only [chEnv]
  conv in scopeAt w 253 => whnf
  refine post_out ?_
  intro Q hQ
  have F0 := B0.F
  obtain ⟨cs, hcs⟩ : ∃ cs, cs = rest g L s.heap [L + 1] := ⟨_, rfl⟩
  have N0 := hcs ▸ B0.ledger
  have hcc : ∀ p ∈ cs, p.1 ≠ L + 1 := hcs ▸ rest_off (.head _)
  k_steps
  have hix : (((97 + k : Nat) : Int) - 97) = (k : Int) := by omega
  rw [hix]
  have hG' := hG
  obtain ⟨gits, hgl, hg6, hgi⟩ := hG'
  obtain ⟨ia, tw, tm, e1, e2⟩ := hgi k hk
  have hi2 : gits.toArray[((k : Nat) : Int).toNat]? = some (Value.ref ia) := by simpa using e1
  refine item_list (stays_list F0.keep hgl) (Int.natCast_nonneg k) (by omega) hi2 ?_
  have e3 := F0.keep _ _ e2
  clear hi2 e1 hgi hgl hg6
  k_steps
  refine item_tupleT (l := [.int (G k).1 tw, .int (G k).2 tm]) (j := 0) ⟨_, e3, rfl, _, rfl⟩ (by decide) (by decide) rfl rfl ?_
  clear e2 e3
  k_steps
  refine lf_set_new B0.D (by omega) ?_
  intro h2 tk2 x2 L2
  have B2 := B0.setLf hz hg0 x2 L2
  clear F0 N0 hcc hcs cs L2
  have F2 := B2.F
  have N2 := B2.ledger
  obtain ⟨cs, hcs⟩ : ∃ cs, cs = rest g L h2 [L + 1] := ⟨_, rfl⟩
  rw [← hcs] at N2
  have hcc : ∀ p ∈ cs, p.1 ≠ L + 1 := hcs ▸ rest_off (.head _)
  k_steps
  refine Mine.stop_out ?_
  have kp := B2.hide (S := [z.tb, z.dx, z.hl]) hg0 (all_c (sup0_in (at_ 0 rfl)) (all_c (sup0_in (at_ 1 rfl)) (all_c (sup0_in (at_ 2 rfl)) all_n)))
  obtain ⟨hs, n1, k1, edx⟩ := B2.W.dx
  obtain ⟨hi, hn, ehl, hln⟩ := B2.W.hl
  refine lawWord (H := H) (i := k) (G := G) (show dp < 700 by omega) (show un < 4800 by omega) hk hH hsz (X.keeps kp) (T.keeps kp) B2.W.tb edx ehl (hln.ext (ext_hide _ _) B2.W.mhl) (hG.keeps kp) (hG1 k) (hG2 k) (by rw [hcnt]; exact Nat.zero_le _) ?_
  intro h3 t3 tk3 x3
  rw [hcnt]
  have B3 := B2.same x3
  clear F2 N2 hcc hcs cs kp edx ehl hln
  have F3 := B3.F
  have N3 := B3.ledger
  obtain ⟨cs, hcs⟩ : ∃ cs, cs = rest g L h3 [L + 1] := ⟨_, rfl⟩
  rw [← hcs] at N3
  have hcc : ∀ p ∈ cs, p.1 ≠ L + 1 := hcs ▸ rest_off (.head _)
  k_steps
  rename Fr _ _ _ _ => F4
  rename News _ _ _ _ => N4
  refine Mine.stop_out ?_
  obtain ⟨x4, B4⟩ := B3.walk hz hoc F4 N4 (fun p hp => .tail _ (hcs ▸ hp))
  have P4 : PairAt _ (.ref _) (wd ((G k).1 - 0) (G k).2, ⟨nmA k⟩) := ⟨_, _, _, rfl, (N4 _ (.head _)).1⟩
  have M4 : Muts _ [250] := let ⟨_, e, q⟩ := B4.T.t3.mut; muts_one e q
  refine lamMake (qual := chQ) rfl rfl rfl rfl rfl B4.F T C (hg0 250 (sup0_in (tab_in (.inr (.inr rfl))))) B4.T.t3 ?_
  intro fn c' ctv pm h5 tk5 x5 hf0 hf1 hrec hT5
  have K5 : Lam0 h5 fn := ⟨_, _, _, _, _, _, _, _, hf1, hrec⟩
  have P5 := P4.ext x5 M4
  have B5 := B4.setTab hz hg0 (.inr (.inr ⟨rfl, rfl⟩)) x5 hT5
  clear F4 N4 hcc hcs hf0 hf1 hrec hT5 P4
  have F5 := B5.F
  have N5 := B5.ledger
  obtain ⟨cs, hcs⟩ : ∃ cs, cs = rest g L h5 [L + 1] := ⟨_, rfl⟩
  rw [← hcs] at N5
  have hcc : ∀ p ∈ cs, p.1 ≠ L + 1 := hcs ▸ rest_off (.head _)
  k_steps
  refine Mine.stop_out ?_
  obtain ⟨its, n5, e5, r5⟩ := B5.R
  have kp := B5.hide (S := [rl]) hg0 (fun a ha => by rw [List.mem_singleton] at ha; subst ha; exact rl_in)
  refine insRight (n := n5) (show dp < 700 by omega) (show un < 4900 by omega) (X.keeps kp) (T.keeps kp) e5 r5 P5 K5 hps hsw ?_
  intro h6 items6 n6 tk6 x6 e6 r6
  have B6 := B5.setRl hz hg0 x6 ⟨_, _, e6, r6⟩
  clear F5 N5 hcc hcs e5 r5 P5 K5 e6 r6 kp
  have F6 := B6.F
  have N6 := B6.N
  k_steps
  refine hQ _ _ ⟨rfl, _, _, rfl, ?_, B6⟩
  exact ((((x2.m1 (at_ 3 rfl)).trans x3.m0).trans (x4.m2 (at_ 0 rfl) (at_ 1 rfl))).trans (x5.m1 (at_ 10 rfl))).trans (x6.m1 (at_ 2 rfl))
end Mine
end
section
open PySem PySem.W PyProof.Rows PySem.Calls PySem.Spec PyProof.V
set_option maxRecDepth 100000
namespace Mine
local macro_rules | `(tactic| walk_at "nothing 0") => `(tactic| skip)
theorem fillCh2 : (∀ w : World, hd.heap_39 w.params = hd.heap_39 w.params) ∧ PySem.Challenge.rw_uc0036_01.foot = 6 := by
  k_fill
  w_top off
  exact ⟨fun _ => rfl, rfl⟩
/-- the dict of the lists of what was found -/
noncomputable def FdAt (w : World) (h : Heap) (fd : Addr) (fl : Nat → Addr) : Prop := ∃ kvs, h.DictOf (strKind PySem.Challenge.rw_uc0036_01.prog w) fd kvs ∧ ∀ k, k < 6 → valueAt kvs ⟨nmA k⟩ = some (.ref (fl k))
noncomputable abbrev Hp (H : List Ln) (c o : Nat) : List Ln := H ++ [(nmA c, nmA o)] ++ [(upA o, nmA c)]
section
variable {w : World} {g h h' : Heap} {L : Addr} {oc : Obj} {z : Ad} {rl : Addr} {m m' : Str → Option Value} {H Hl : List Ln} {f : Nat → List (Array Nat)} {dom : List Nat} {LF : Nat → Nat} {b : Nat} {ps : List Rw} {S : List Addr}
theorem gets_le (H : List Ln) (c : Array Nat) : (gets H c).length ≤ H.length := by
  unfold gets; rw [List.length_map]; exact List.length_filter_le _ _
theorem nm_beq (i k : Nat) : (nmA i == nmA k) = decide (k = i) := by
  by_cases h : k = i
  · subst h; simp
  · have h' : ¬ i = k := fun e => h e.symm
    simp [h, h']
theorem gets_Hp (H : List Ln) {c o : Nat} (k : Nat) (hc : c < 6) (ho : o < 6) : gets (Hp H c o) (nmA k) = gets H (nmA k) ++ (if k = c then [nmA o] else []) ++ (if k = o then [nmA c] else []) := by
  unfold gets Hp
  rw [List.filter_append, List.filter_append, List.map_append, List.map_append]
  congr 1
  · congr 1
    rw [List.filter_cons]
    simp only [low_nm hc, nm_beq]
    by_cases h : k = c <;> simp [h]
  · rw [List.filter_cons]
    simp only [low_up ho, nm_beq]
    by_cases h : k = o <;> simp [h]
theorem mut_cell {oc : Obj} {v : Option Value} (hoc : oc.data = .cell v) : Mut oc := ⟨fun _ _ _ q => (by rw [hoc] at q; cases q), fun _ q => (by rw [hoc] at q; cases q), fun _ q => (by rw [hoc] at q; cases q)⟩
theorem R6_mem {k : Nat} (h : k < 6) : k ∈ R6 := by rcases lt6 h with rfl | rfl | rfl | rfl | rfl | rfl <;> decide
theorem all_sup0 (hz : (z.all L rl).Nodup) : z.sup0.Nodup := (List.nodup_cons.mp (List.nodup_cons.mp (List.nodup_cons.mp (List.nodup_cons.mp hz).2).2).2).2
theorem all_neL (hz : (z.all L rl).Nodup) {a : Addr} (ha : a ∈ z.sup0) : a ≠ L := fun e => (List.nodup_cons.mp hz).1 (e ▸ .tail _ (.tail _ (.tail _ ha)))
theorem all_neC (hz : (z.all L rl).Nodup) {a : Addr} (ha : a ∈ z.sup0) : a ≠ L + 1 := fun e => (List.nodup_cons.mp (List.nodup_cons.mp hz).2).1 (e ▸ .tail _ (.tail _ ha))
theorem Bag.ledgerT (x : Bag w g L oc z rl h m H Hl f dom LF b ps) (hz : (z.all L rl).Nodup) (hg0 : ∀ a ∈ z.all L rl, g.get? a = none) {o : Obj} (edx : h.get? z.dx = some o) : News g L h ((z.tb, instObj 182 z.dx) :: (z.dx, o) :: (L + 1, oc) :: rest g L h [L + 1]) :=
  news_cons (news_cons x.ledger edx (all_neL hz (at_ 1 rfl)) (hg0 _ (sup0_in (at_ 1 rfl)))) x.W.tb (all_neL hz (at_ 0 rfl)) (hg0 _ (sup0_in (at_ 0 rfl)))
theorem Bag.hideT (x : Bag w g L oc z rl h m H Hl f dom LF b ps) (hg0 : ∀ a ∈ z.all L rl, g.get? a = none) : ∀ b o, g.get? b = some o → (hideAll h [z.tb, z.dx, z.hl]).get? b = some o :=
  x.hide hg0 (all_c (sup0_in (at_ 0 rfl)) (all_c (sup0_in (at_ 1 rfl)) (all_c (sup0_in (at_ 2 rfl)) all_n)))
end
local macro_rules | `(tactic| k_all) => `(tactic| assumption)
local macro_rules | `(tactic| walk_at "eval Name") => `(tactic| (k_here; k_dflt (refine' nameX_L ?F ?v ?_ ?a ?b; (case F => k_asm); (case a => rfl); (case b => rfl); (case v => assumption); k_whole)))
local macro_rules | `(tactic| walk_at "call ref") => `(tactic| refine Mine.stop_in ?_)
local macro_rules | `(tactic| walk_at "eval Lambda") => `(tactic| refine Mine.stop_in ?_)
local macro_rules | `(tactic| walk_at "call builtin:str.upper") => `(tactic| (refine Mine.upperT (by assumption) ?_; intro _ _))
set_option maxHeartbeats 8000000 in
theorem chInnerTurn {w : World} {p : Program} {loose : List Str} {mean : ExcName → Option Value} {mg mb : Str → Option Value} {dp un : Nat} {fr : Option (List Env)} {gd : Option (List Code)} {s : Shared} {B : List Stmt} (hB : B = chInner w)
   {g : Heap} {L : Addr} {oc : Obj} {m : Str → Option Value} {z : Ad} {H : List Ln} {f : Nat → List (Array Nat)} {LF : Nat → Nat} {c o : Nat} {ga fd rl : Addr} {ps : List Rw} {G : Gs} {t u : Tok}
   (hdp : dp < 600) (hun : un < 4700) (hc : c < 6) (ho : o < 6) (hco : o ≠ c) (hG1 : ∀ k, (G k).1 < 6) (hG2 : ∀ k, (G k).2 < 4096) (hH : ∀ q ∈ H, q.1 ∈ texts) (hsz : H.length ≤ 900) (hLc : 1 ≤ LF c) (hLo : 1 ≤ LF o)
   (hcnt : (gets H (nmA o)).length + LF o = (G o).1) (hf : ∀ k, f k = gets H (nmA k))
   (X : (hd.heap_39 w.params).In g) (T : Top p loose mean mg mb g) (C : CodeHd g 252 250) (hG : GAt g ga G) (hfd : FdAt w g fd z.fl)
   (hz : (z.all L rl).Nodup) (hg0 : ∀ a ∈ z.all L rl, g.get? a = none) (hoc : oc.data = .cell (some (.ref z.lf)))
   (B0 : Bag w g L oc z rl s.heap m H H f R6 LF 50 ps) (hsw : SortedW ps) (hps : ps.length ≤ 99)
   (m1 : m (Str.ofString "guests") = some (.ref ga)) (m2 : m (Str.ofString "table") = some (.ref z.tb)) (m3 : m (Str.ofString "row") = some (.ref rl)) (m4 : m (Str.ofString "name") = some (.str ⟨nmA c⟩ t))
   (m5 : m (Str.ofString "other") = some (.str ⟨nmA o⟩ u)) (m6 : m (Str.ofString "laid") = some (.ref z.ld)) (m7 : m (Str.ofString "found") = some (.ref fd)) :
   wpAny (MM w) (AA dp un fr gd) (execs B (chEnv w L)) (fun fl s' => Stop (fl = .next ∧ ∃ h' tk, s' = { s with heap := h', toks := tk } ∧ Ext (z.all L rl) s.heap h' ∧
     Bag w g L oc z rl h' m (Hp H c o) (Hp H c o) (fun k => gets (Hp H c o) (nmA k)) R6 (setF (setF LF c (LF c - 1)) o (LF o - 1)) 50 (insR (wd (LF o - 1) (G o).2, ⟨nmA o⟩) ps))) (fun _ _ => False) s := by
  subst hB
  conv in chInner w => whnf
  dsimp only [chEnv]
  conv in scopeAt w 253 => whnf
  refine post_out ?_
  intro Q hQ
  have F0 := B0.F
  obtain ⟨hs, n1, k1, edx⟩ := B0.W.dx
  obtain ⟨cs, hcs⟩ : ∃ cs, cs = rest g L s.heap [L + 1] := ⟨_, rfl⟩
  have N0 := B0.ledgerT hz hg0 edx
  rw [← hcs] at N0
  k_steps
  refine Mine.stop_out ?_
  obtain ⟨hi, hn, ehl, hln⟩ := B0.W.hl
  have kp := B0.hideT hg0
  have hlen := hln.length
  refine addHdr (nm := nmA c) (vl := nmA o) (show dp < 800 by omega) (show un < 4900 by omega) (nm_texts hc) (nm_texts ho) (by omega) (X.keeps kp) (T.keeps kp) B0.W.tb edx ehl ?_
  intro h2 d2 tk2 x2 e2 q2
  have M2 : Muts s.heap [z.hl] := muts_one ehl (mut_list _ _)
  have B2 := B0.setW hz hg0 (all_c (.inl rfl) all_n) x2 M2 (B0.W.addHl (all_sup0 hz) ehl hln x2 e2 q2)
  clear F0 N0 hcs ehl hln kp e2 q2 edx
  have F2 := B2.F
  obtain ⟨hs2, n2, k2, edx⟩ := B2.W.dx
  obtain ⟨cs2, hcs⟩ : ∃ cs, cs = rest g L h2 [L + 1] := ⟨_, rfl⟩
  have N2 := B2.ledgerT hz hg0 edx
  rw [← hcs] at N2
  k_steps
  refine Mine.stop_out ?_
  obtain ⟨hi2, hn2, ehl, hln⟩ := B2.W.hl
  have kp := B2.hideT hg0
  have hlen2 := hln.length
  simp only [List.length_append, List.length_singleton] at hlen2
  refine addHdr (nm := upA o) (vl := nmA c) (show dp < 800 by omega) (show un < 4900 by omega) (up_texts ho) (nm_texts hc) (by omega) (X.keeps kp) (T.keeps kp) B2.W.tb edx ehl ?_
  intro h3 d3 tk3 x3 e3 q3
  have M3 : Muts h2 [z.hl] := muts_one ehl (mut_list _ _)
  have B3 := B2.setW hz hg0 (all_c (.inl rfl) all_n) x3 M3 (B2.W.addHl (all_sup0 hz) ehl hln x3 e3 q3)
  clear F2 N2 hcs ehl hln kp e3 q3 edx
  have F3 := B3.F
  obtain ⟨li, ln, eld, hld⟩ := B3.W.ld
  obtain ⟨ya, na, efa, hfa⟩ := B3.W.fl c hc
  obtain ⟨yb, nb, efb, hfb⟩ := B3.W.fl o ho
  obtain ⟨cs3, hcs⟩ : ∃ cs, cs = rest g L h3 [L + 1, z.ld, z.fl c, z.fl o] := ⟨_, rfl⟩
  have N3 : News g L h3 ((z.ld, lstO (List.toArray li) ln) :: (z.fl c, lstO (List.toArray ya) na) :: (z.fl o, lstO (List.toArray yb) nb) :: (L + 1, oc) :: cs3) := by
    refine news_cons (news_cons (news_cons ?_ efb (all_neL hz (fl_mem z ho)) (hg0 _ (sup0_in (fl_mem z ho)))) efa (all_neL hz (fl_mem z hc)) (hg0 _ (sup0_in (fl_mem z hc)))) eld (all_neL hz (at_ 3 rfl)) (hg0 _ (sup0_in (at_ 3 rfl)))
    intro p hp
    rcases List.mem_cons.mp hp with rfl | hp
    · exact B3.N _ (.head _)
    · exact rest_news p (hcs ▸ hp)
  have d1 : @Ne Nat z.ld (z.fl c) := ne_of_nodup (all_sup0 hz) (i := 3) rfl (fl_at z hc) (by omega)
  have d2' : @Ne Nat z.ld (z.fl o) := ne_of_nodup (all_sup0 hz) (i := 3) rfl (fl_at z ho) (by omega)
  have d3' : @Ne Nat (z.fl c) (z.fl o) := ne_of_nodup (all_sup0 hz) (fl_at z hc) (fl_at z ho) (by omega)
  have d4 : @Ne Nat z.ld (L + 1) := all_neC hz (at_ 3 rfl)
  have d5 : @Ne Nat (z.fl c) (L + 1) := all_neC hz (fl_mem z hc)
  have d6 : @Ne Nat (z.fl o) (L + 1) := all_neC hz (fl_mem z ho)
  have c1 : ∀ p ∈ cs3, p.1 ≠ z.ld := hcs ▸ rest_off (at_ 1 rfl)
  have c2 : ∀ p ∈ cs3, p.1 ≠ z.fl c := hcs ▸ rest_off (at_ 2 rfl)
  have c3 : ∀ p ∈ cs3, p.1 ≠ z.fl o := hcs ▸ rest_off (at_ 3 rfl)
  have c4 : ∀ p ∈ cs3, p.1 ≠ L + 1 := hcs ▸ rest_off (at_ 0 rfl)
  k_steps
  rename Fr _ _ _ _ => F4
  rename News _ _ _ _ => N4
  have la := ‹z.ld < _ ∧ z.fl c < _ ∧ z.fl o < _ ∧ L + 1 < _ ∧ AllLt _ cs3›
  have lb := ‹_ < _ ∧ z.ld < _ ∧ z.fl c < _ ∧ z.fl o < _ ∧ L + 1 < _ ∧ AllLt _ cs3›
  have lc := ‹_ < _ ∧ _ < _ ∧ z.ld < _ ∧ z.fl c < _ ∧ z.fl o < _ ∧ L + 1 < _ ∧ AllLt _ cs3›
  have hlen3 := hld.length
  refine kl_extend (l := li ++ [.ref _, .ref _]) F4 N4 (.head _) rfl (by simp) (Upd.tail (Nat.ne_of_gt lc.2.2.1) (Upd.tail (Nat.ne_of_gt lb.2.1) (Upd.tail (Nat.ne_of_gt la.1) (Upd.head ?_)))) ?_ (by show li.toArray.toList.length ≤ 16777216; rw [List.toList_toArray]; omega) (by show li.toArray.size + 2 ≤ 16777216 + 1; rw [List.size_toArray]; omega) ?_
  · intro p hp
    rcases List.mem_cons.mp hp with rfl | hp
    · exact Ne.symm d1
    · rcases List.mem_cons.mp hp with rfl | hp
      · exact Ne.symm d2'
      · rcases List.mem_cons.mp hp with rfl | hp
        · exact Ne.symm d4
        · exact c1 p hp
  · intro q
    rw [Bool.and_eq_true] at q
    have q2 : li.toArray.size + 2 > 16777216 := of_decide_eq_true q.2
    rw [List.size_toArray] at q2
    omega
  intro h5 F5 N5
  try dsimp only at N5
  clear F4 N4
  k_steps
  obtain ⟨kvs, hdf, hkv⟩ := hfd
  have hkc := hkv c hc
  have hko := hkv o ho
  clear hkv
  refine item_map (hdf.keep F5.keep) hkc ?_
  k_steps
  have hlena := hfa.length
  have hlenb := hfb.length
  rw [hf] at hlena hlenb
  have hga := gets_le H (nmA c)
  have hgb := gets_le H (nmA o)
  refine append_K F5 N5 (Upd.tail (Nat.ne_of_gt lc.2.2.2.1) (Upd.tail (Nat.ne_of_gt lb.2.2.1) (Upd.tail (Nat.ne_of_gt la.2.1) (Upd.tail d1 (Upd.head ?_))))) ?_ (by show ya.toArray.size ≤ 16777216; rw [List.size_toArray]; omega)
  · intro p hp
    rcases List.mem_cons.mp hp with rfl | hp
    · exact Ne.symm d3'
    · rcases List.mem_cons.mp hp with rfl | hp
      · exact Ne.symm d5
      · exact c2 p hp
  intro h6 F6 N6
  try dsimp only at N6
  clear F5 N5
  k_steps
  refine item_map (hdf.keep F6.keep) hko ?_
  k_steps
  rename Fr _ _ _ _ => F7
  rename News _ _ _ _ => N7
  rename Heap => h7
  have x7 : Ext (L :: [L + 1, z.ld, z.fl c, z.fl o]) h3 h7 := ext_of_rest B3.F F7 (news_sub N7 fun p hp => .tail _ (.tail _ (.tail _ (.tail _ (.tail _ (.tail _ (.tail _ (hcs ▸ hp))))))))
  have M7 : Muts h3 (L :: [L + 1, z.ld, z.fl c, z.fl o]) := muts_cons (mut_ns B3.F.ns) (muts_cons ⟨_, (B3.N _ (.head _)).1, mut_cell hoc⟩ (muts_cons ⟨_, eld, mut_list _ _⟩ (muts_cons ⟨_, efa, mut_list _ _⟩ (muts_one efb (mut_list _ _)))))
  have dj : ∀ (y : Addr) (j : Nat), (z.all L rl)[j]? = some y → 2 ≤ j → j ≠ 7 → j < 11 → y ∉ [L, L + 1, z.ld, z.fl c, z.fl o] := by
    intro y j ej h1 h2 h3 hy
    refine all_c (P := fun x => y = x → False) (fun e => ne_of_nodup hz ej (i := j) (j := 0) rfl (by omega) e) (all_c (fun e => ne_of_nodup hz ej (i := j) (j := 1) rfl (by omega) e) (all_c (fun e => ne_of_nodup hz ej (i := j) (j := 7) rfl h2 e)
      (all_c (fun e => ne_of_nodup hz ej (i := j) (j := 11 + c) (fl_all z hc) (by omega) e) (all_c (fun e => ne_of_nodup hz ej (i := j) (j := 11 + o) (fl_all z ho) (by omega) e) all_n)))) y hy rfl
  have eHp : H ++ [(nmA c, nmA o), (upA o, nmA c)] = Hp H c o := (List.append_assoc H [(nmA c, nmA o)] [(upA o, nmA c)]).symm
  have W7 : Ws h7 z (Hp H c o) (Hp H c o) (fun k => gets (Hp H c o) (nmA k)) := by
    refine B3.W.three (all_sup0 hz) hc ho x7 M7 ?_ ⟨_, _, (N7 _ (.tail _ (.tail _ (.tail _ (.head _))))).1, ?_⟩ (N7 _ (.tail _ (.tail _ (.tail _ (.tail _ (.head _)))))).1 ?_ (N7 _ (.tail _ (.tail _ (.tail _ (.tail _ (.tail _ (.head _))))))).1 ?_ ?_
    · intro y hy hy2
      exact all_c (P := fun x => y = x → _) (fun e => absurd e (all_neL hz hy)) (all_c (fun e => absurd e (all_neC hz hy)) (all_c .inl (all_c (fun e => .inr (.inl e)) (all_c (fun e => .inr (.inr e)) all_n)))) y hy2 rfl
    · rw [← eHp]
      exact (hld.ext x7 M7).append (.cons ⟨_, _, _, rfl, (N7 _ (.tail _ (.tail _ (.head _)))).1⟩ (.cons ⟨_, _, _, rfl, (N7 _ (.tail _ (.head _))).1⟩ .nil))
    · show StrsV _ (gets (Hp H c o) (nmA c))
      rw [gets_Hp H c hc ho, if_pos rfl, if_neg (Ne.symm hco), List.append_nil, ← hf]
      exact hfa.snoc
    · show StrsV _ (gets (Hp H c o) (nmA o))
      rw [gets_Hp H o hc ho, if_pos rfl, if_neg hco, List.append_nil, ← hf]
      exact hfb.snoc
    · intro k h1 h2
      show gets (Hp H c o) (nmA k) = f k
      rw [gets_Hp H k hc ho, if_neg h1, if_neg h2, List.append_nil, List.append_nil, hf]
  have B7 : Bag w g L oc z rl h7 m (Hp H c o) (Hp H c o) (fun k => gets (Hp H c o) (nmA k)) R6 LF 50 ps := ⟨F7, news_sub N7 (fun p hp => by rw [List.mem_singleton] at hp; subst hp; exact .tail _ (.tail _ (.tail _ (.tail _ (.tail _ (.tail _ (.head _))))))), W7,
    B3.T.ext x7 M7 (dj _ 8 rfl (by decide) (by decide) (by decide)) (dj _ 9 rfl (by decide) (by decide) (by decide)) (dj _ 10 rfl (by decide) (by decide) (by decide)), B3.D.ext x7 (dj _ 3 rfl (by decide) (by decide) (by decide)), B3.R.ext x7 M7 (dj _ 2 rfl (by decide) (by decide) (by decide))⟩
  clear N7 W7 dj M7 hld hfa hfb hcs eld efa efb la lb lc c1 c2 c3 c4 d1 d2' d3' d4 d5 d6
  have y7 : Ext (z.all L rl) s.heap h7 := ((x2.m1 (at_ 6 rfl)).trans (x3.m1 (at_ 6 rfl))).trans (x7.mono (all_c (at_ 0 rfl) (all_c (at_ 1 rfl) (all_c (at_ 7 rfl) (all_c (sup0_in (fl_mem z hc)) (all_c (sup0_in (fl_mem z ho)) all_n))))))
  clear x2 x3 x7 hdf hkc hko B0 B2 B3 M2 M3
  refine lf_get B7.D (R6_mem hc) ?_
  intro u7
  clear F7
  have F7 := B7.F
  obtain ⟨cs7, hcs⟩ : ∃ cs, cs = rest g L h7 [L + 1] := ⟨_, rfl⟩
  have N7 := B7.ledger
  rw [← hcs] at N7
  k_steps
  have ec : ((LF c : Int) - 1) = ((LF c - 1 : Nat) : Int) := by omega
  rw [ec]
  refine lf_set B7.D (by omega) (R6_mem hc) ?_
  intro h8 tk8 x8 L8
  have B8 := B7.setLf hz hg0 x8 L8
  clear F7 N7 hcs L8 B7
  have F8 := B8.F
  obtain ⟨cs8, hcs⟩ : ∃ cs, cs = rest g L h8 [L + 1] := ⟨_, rfl⟩
  have N8 := B8.ledger
  rw [← hcs] at N8
  k_steps
  refine lf_get B8.D (R6_mem ho) ?_
  intro u8
  have eo : ((setF LF c (LF c - 1) o : Nat) : Int) = (LF o : Int) := congrArg Nat.cast (if_neg hco)
  rw [eo]
  k_steps
  have eo2 : ((LF o : Int) - 1) = ((LF o - 1 : Nat) : Int) := by omega
  rw [eo2]
  refine lf_set B8.D (by omega) (R6_mem ho) ?_
  intro h9 tk9 x9 L9
  have B9 := B8.setLf hz hg0 x9 L9
  clear F8 N8 hcs L9 B8
  have F9 := B9.F
  obtain ⟨cs9, hcs⟩ : ∃ cs, cs = rest g L h9 [L + 1] := ⟨_, rfl⟩
  have N9 := B9.ledger
  rw [← hcs] at N9
  k_steps
  refine Mine.stop_out ?_
  have kp := B9.hideT hg0
  obtain ⟨hs9, n9, k9, edx⟩ := B9.W.dx
  obtain ⟨hi9, hn9, ehl, hln⟩ := B9.W.hl
  have hcn : (gets (Hp H c o) (nmA o)).length = (gets H (nmA o)).length + 1 := by rw [gets_Hp H o hc ho, if_pos rfl, if_neg hco, List.append_nil]; simp
  refine lawWord (H := Hp H c o) (i := o) (G := G) (show dp < 700 by omega) (show un < 4800 by omega) ho ?hHp (by simp; omega) (X.keeps kp) (T.keeps kp) B9.W.tb edx ehl (hln.ext (ext_hide _ _) B9.W.mhl) (hG.keeps kp) (hG1 o) (hG2 o) (by rw [hcn]; omega) ?_
  case hHp =>
    intro q hq
    simp only [List.mem_append, List.mem_singleton] at hq
    rcases hq with (hq | rfl) | rfl
    · exact hH q hq
    · exact nm_texts hc
    · exact up_texts ho
  intro h10 t10 tk10 x10
  rw [hcn, show (G o).1 - ((gets H (nmA o)).length + 1) = LF o - 1 by omega]
  have B10 := B9.same x10
  clear F9 N9 hcs kp edx ehl hln hcn B9
  have F10 := B10.F
  obtain ⟨cs10, hcs⟩ : ∃ cs, cs = rest g L h10 [L + 1] := ⟨_, rfl⟩
  have N10 := B10.ledger
  rw [← hcs] at N10
  k_steps
  rename Fr _ _ _ _ => F11
  rename News _ _ _ _ => N11
  refine Mine.stop_out ?_
  obtain ⟨x11, B11⟩ := B10.walk hz hoc F11 N11 (fun p hp => .tail _ (hcs ▸ hp))
  have P11 : PairAt _ (.ref _) (wd (LF o - 1) (G o).2, ⟨nmA o⟩) := ⟨_, _, _, rfl, (N11 _ (.head _)).1⟩
  have M11 : Muts _ [250] := let ⟨_, e, q⟩ := B11.T.t3.mut; muts_one e q
  refine lamMake (qual := chQ) rfl rfl rfl rfl rfl B11.F T C (hg0 250 (sup0_in (tab_in (.inr (.inr rfl))))) B11.T.t3 ?_
  intro fn c' ctv pm h12 tk12 x12 hf0 hf1 hrec hT12
  have K12 : Lam0 h12 fn := ⟨_, _, _, _, _, _, _, _, hf1, hrec⟩
  have P12 := P11.ext x12 M11
  have B12 := B11.setTab hz hg0 (.inr (.inr ⟨rfl, rfl⟩)) x12 hT12
  clear F11 N11 hcs hf0 hf1 hrec hT12 P11 B10 B11 M11
  have F12 := B12.F
  obtain ⟨cs12, hcs⟩ : ∃ cs, cs = rest g L h12 [L + 1] := ⟨_, rfl⟩
  have N12 := B12.ledger
  rw [← hcs] at N12
  k_steps
  refine Mine.stop_out ?_
  obtain ⟨its, n12, e12, r12⟩ := B12.R
  have kp := B12.hide (S := [rl]) hg0 (fun a ha => by rw [List.mem_singleton] at ha; subst ha; exact rl_in)
  refine insRight (n := n12) (show dp < 700 by omega) (show un < 4900 by omega) (X.keeps kp) (T.keeps kp) e12 r12 P12 K12 hps hsw ?_
  intro h13 items13 n13 tk13 x13 e13 r13
  have B13 := B12.setRl hz hg0 x13 ⟨_, _, e13, r13⟩
  clear F12 N12 hcs e12 r12 P12 K12 e13 r13 kp B12
  have F13 := B13.F
  have N13 := B13.N
  k_steps
  refine hQ _ _ ⟨rfl, _, _, rfl, ?_, B13⟩
  exact (((((y7.trans (x8.m1 (at_ 3 rfl))).trans (x9.m1 (at_ 3 rfl))).trans x10.m0).trans (x11.m2 (at_ 0 rfl) (at_ 1 rfl))).trans (x12.m1 (at_ 10 rfl))).trans (x13.m1 (at_ 2 rfl))
end Mine
end
section
open PySem PySem.W PyProof.Rows PySem.Calls PySem.Spec PyProof.V
set_option maxRecDepth 100000
namespace Mine
open LCg LCt
theorem striter_st {h₀ : Heap} {L I : Addr} {x : Str} {t : Tok} : ∀ i (h h' : Heap) (o : Obj) (nw : List (Addr × Obj)), h.IsStrIter I "str_ascii_iterator" x t i → h.get? I = some o → h'.get? I = some o → (∀ b o, h₀.get? b = some o → h'.get? b = some o) → News h₀ L h' nw → True → h'.IsStrIter I "str_ascii_iterator" x t i :=
  fun i h h' o nw st e e' _ _ _ => by
    obtain ⟨o', q, r⟩ := st
    rw [e] at q; cases q
    exact ⟨o, e', r⟩
noncomputable def SrcTS (prog : Program) (w : World) (A : Around) (h₀ : Heap) (L : Addr) (m : Str → Option Value) (env : Env) (ct elt : Expr) (x : Str) (scope : Scope) (cl : List (Str × Addr)) (Q : Value → Shared → Prop) (xv : Value) (s₁ : Shared) : Prop :=
  ∃ txt t news, xv = .str txt t ∧ txt.cps.all (· < 128) = true ∧ txt.cps.size ≤ sizeLine ∧ Fr h₀ L s₁.heap m ∧ News h₀ L s₁.heap news ∧
    ∀ g, CompRestT prog w A h₀ L m env ct elt x scope cl { s₁ with heap := g } (fun _ => True) (SignAt txt) (FinE h₀ L m { s₁ with heap := g } Q) txt.cps.size 0 [] news
/-- a comprehension with a test over the signs of a plain text -/
theorem ListComp_TS {prog : Program} {w : World} {A : Around} {E : Value → Shared → Prop} {s : Shared} {h₀ : Heap} {L : Addr} {m : Str → Option Value} {env : Env} {ct elt iter : Expr} {x : Str} {px : Pos} {scope : Scope} {cl : List (Str × Addr)} {pos : Pos} {Q : Value → Shared → Prop} (_F₀ : Fr h₀ L s.heap m)
    (hclos : closureFor scope env = pure cl) (hcell : ∀ y ∈ scope.names, y.2 ≠ .cell) (hkind : scope.kind = .function)
    (hnames : ∀ y ∈ scope.names, y.2 = .local → scope.names.lookup y.1 = some .local) (hx : scope.names.lookup x = some .local) (hh : A.handled = none)
    (h : wpAny (model prog w) A (eval iter env) (SrcTS prog w A h₀ L m env ct elt x scope cl Q) E s)
    (hs : ∀ x, foldedSetIterable iter env x = pure x := by intro _; rfl) :
    wpAny (model prog w) A (eval (.ListComp elt [⟨.Name x px, iter, [ct], 0⟩] scope pos) env) Q E s := by
  rw [eval_ListComp]
  refine wpAny_comprehension_free (use := none) rfl hs hclos hkind hnames (wpAny_mono h (fun xv s₁ h₁ => ?_) fun _ _ e => e)
  obtain ⟨txt, t, news, rfl, ha, hsz, F, N, R⟩ := h₁
  refine wpAny_pyIter_ascii ha ?_
  refine block_T (Walks.strAscii hh s₁.heap.objs.size txt t) hsz (fun i h st => let ⟨o, e, _⟩ := st; ⟨o, e⟩) striter_st hcell hkind hx ⟨_, Heap.get?_push_size _ rfl, rfl, rfl⟩ (fun b hb => ?_)
    (F.keeps fun _ _ e => Heap.get?_push_of_some _ e) (N.grown fun _ _ e => Heap.get?_push_of_some _ e) (Nat.ne_of_lt F.ns.lt) (next_is_new F) (fun p hp => Nat.ne_of_lt (Heap.lt_size (N p hp).1)) trivial (R _) ?_
  · rw [List.mem_singleton.mp hb]
    show s₁.heap.objs.size < (s₁.heap.push _).objs.size
    rw [Heap.size_push]; exact Nat.lt_succ_self _
  · intro D C h tk m' ys news' F' N' o1 hn hC₀ hD₀ hCL hDL hCD offC fin
    refine ⟨m', hn, fun h'' hs'' => fin D h'' tk (F'.change hs'' hCL hC₀) (fun p hp => ?_) o1⟩
    refine ⟨hs''.extBut _ _ ?_ (N' p hp).1, (N' p hp).2⟩
    rcases List.mem_cons.mp hp with rfl | hp
    · exact Ne.symm hCD
    · exact offC p hp
/-- what the names of the frame tell -/
structure Nm (m : Str → Option Value) (ga : Addr) (z : Ad) (fd rl : Addr) (way : Int) : Prop where
  m1 : m (Str.ofString "guests") = some (.ref ga)
  m2 : m (Str.ofString "table") = some (.ref z.tb)
  m3 : m (Str.ofString "row") = some (.ref rl)
  m4 : m (Str.ofString "laid") = some (.ref z.ld)
  m5 : m (Str.ofString "found") = some (.ref fd)
  m6 : ∃ t, m (Str.ofString "way") = some (.int way t)
theorem sortedW_of {ps : List Rw} (h : SW ps) : SortedW ps := by
  intro i j hij hj
  have hi : i < ps.length := by omega
  have e1 : kk ps i = ps[i].1 := kk_of (List.getElem?_eq_getElem hi)
  have e2 : kk ps j = ps[j].1 := kk_of (List.getElem?_eq_getElem hj)
  rw [e1, e2]
  rcases Nat.lt_or_eq_of_le hij with q | rfl
  · exact List.pairwise_iff_getElem.mp h i j hi hj q
  · exact wlt_irrefl _
theorem execs_app_wp {M : Model} {A : Around} {E : Value → Shared → Prop} {env : Env} {Q : Flow → Shared → Prop} {b : List Stmt} {Γ} (hΓ : Ctx.In Γ A) : ∀ (a : List Stmt) p s,
    Sem.wp M Γ (execs a env) (fun f _ s' => match f with | .next => wpAny M A (execs b env) Q E s' | f => Q f s') (fun e _ s' => E e s') p s → Sem.wp M Γ (execs (a ++ b) env) (fun f _ s' => Q f s') (fun e _ s' => E e s') p s
  | [], p, s, h => by
    rw [execs_nil] at h
    exact h Γ p hΓ
  | st :: r, p, s, h => by
    rw [List.cons_append, execs_cons, Sem.wp_bind']
    rw [execs_cons, Sem.wp_bind'] at h
    refine Sem.wp_mono M Γ _ (fun f p' s' h' => ?_) (fun _ _ _ h' => h') _ _ h
    cases f <;> first | exact execs_app_wp hΓ r p' s' h' | exact h'
theorem execs_app {M : Model} {A : Around} {E : Value → Shared → Prop} {env : Env} {Q : Flow → Shared → Prop} {a b : List Stmt} {s : Shared} (h : wpAny M A (execs a env) (fun f s' => match f with | .next => wpAny M A (execs b env) Q E s' | f => Q f s') E s) : wpAny M A (execs (a ++ b) env) Q E s :=
  fun Γ p hΓ => execs_app_wp hΓ a p s (h Γ p hΓ)
end Mine
end
section
open PySem PySem.W PyProof.Rows PySem.Calls PySem.Spec PyProof.V
set_option maxRecDepth 100000
namespace Mine
theorem fillCh3 : (∀ w : World, hd.heap_39 w.params = hd.heap_39 w.params) ∧ PySem.Challenge.rw_uc0036_01.foot = 6 := by
  k_fill
  w_top off
  exact ⟨fun _ => rfl, rfl⟩
/-- those whose wishes are met come first -/
noncomputable def Zfirst (LF : Nat → Nat) (ks : List Nat) : Prop := ∀ i k, ks[i]? = some k → (LF k = 0 ↔ i < zer LF)
theorem filt_succ (p : Nat → Bool) {i : Nat} (h : i < 6) : ((R6.take (i + 1)).filter p).length = ((R6.take i).filter p).length + (if p i = true then 1 else 0) := by
  have e : R6.take (i + 1) = R6.take i ++ [i] := by rcases lt6 h with rfl | rfl | rfl | rfl | rfl | rfl <;> rfl
  rw [e, List.filter_append, List.length_append, List.filter_cons]
  by_cases q : p i = true <;> simp [q]
local macro_rules | `(tactic| k_all) => `(tactic| assumption)
local macro_rules | `(tactic| walk_at "eval Name") => `(tactic| (k_here; k_dflt (refine' nameX_L ?F ?v ?_ ?a ?b; (case F => k_asm); (case a => rfl); (case b => rfl); (case v => assumption); k_whole)))
local macro_rules | `(tactic| walk_at "call ref") => `(tactic| refine Mine.stop_in ?_)
local macro_rules | `(tactic| walk_at "eval Lambda") => `(tactic| refine Mine.stop_in ?_)
local macro_rules | `(tactic| walk_at "eval ListComp") => `(tactic| refine Mine.stop_in ?_)
set_option maxHeartbeats 8000000 in
theorem chA {w : World} {p : Program} {loose : List Str} {mean : ExcName → Option Value} {mg mb : Str → Option Value} {dp un : Nat} {fr : Option (List Env)} {gd : Option (List Code)} {s : Shared} {B : List Stmt} (hB : B = chTurn w)
   {g : Heap} {L : Addr} {oc : Obj} {m : Str → Option Value} {z : Ad} {H : List Ln} {f : Nat → List (Array Nat)} {LF : Nat → Nat} {ga fd rl : Addr} {ks : List Nat} {G : Gs} {way : Int}
   (hdp : dp < 600) (hun : un < 4700) (hG2 : ∀ k, (G k).2 < 4096) (hL6 : ∀ k, LF k < 6) (hks : ks.Perm R6) (hsw : SW (ks.map (prOf G LF)))
   (X : (hd.heap_39 w.params).In g) (T : Top p loose mean mg mb g) (C : CodeHd g 252 250)
   (hz : (z.all L rl).Nodup) (hg0 : ∀ a ∈ z.all L rl, g.get? a = none) (hoc : oc.data = .cell (some (.ref z.lf)))
   (B0 : Bag w g L oc z rl s.heap m H H f R6 LF 50 (ks.map (prOf G LF))) (nm : Nm m ga z fd rl way) :
   wpAny (MM w) (AA dp un fr gd) (execs (B.take 3) (chEnv w L)) (fun fl s' => Stop (∃ h' m' tk, s' = { s with heap := h', toks := tk } ∧ Ext (z.all L rl) s.heap h' ∧ Bag w g L oc z rl h' m' H H f R6 LF 50 (ks.map (prOf G LF)) ∧ Nm m' ga z fd rl way ∧
     ((fl = .next ∧ zer LF < 6 ∧ Zfirst LF ks ∧ ∃ t, m' (Str.ofString "first") = some (.int (zer LF : Nat) t)) ∨ (fl = .ret (.bool true) ∧ zer LF = 6)))) (fun _ _ => False) s := by
  subst hB
  conv in List.take 3 (chTurn w) => whnf
  dsimp only [chEnv]
  conv in scopeAt w 253 => whnf
  refine post_out ?_
  intro Q hQ
  simp only [List.take_succ_cons, List.take_zero]
  obtain ⟨m1, m2, m3, m4, m5, t6, m6⟩ := nm
  have F0 := B0.F
  obtain ⟨cs, hcs⟩ : ∃ cs, cs = rest g L s.heap [L + 1] := ⟨_, rfl⟩
  have N0 := B0.ledger
  rw [← hcs] at N0
  k_steps
  refine Mine.stop_out ?_
  refine lamMake (qual := chQ) rfl rfl rfl rfl rfl B0.F T C (hg0 250 (sup0_in (tab_in (.inr (.inr rfl))))) B0.T.t3 ?_
  intro fn c' ctv pm h2 tk2 x2 hf0 hf1 hrec hT2
  have K2 : Lam0 h2 fn := ⟨_, _, _, _, _, _, _, _, hf1, hrec⟩
  have B2 := B0.setTab hz hg0 (.inr (.inr ⟨rfl, rfl⟩)) x2 hT2
  clear F0 N0 hcs hf0 hf1 hrec hT2
  have F2 := B2.F
  obtain ⟨cs2, hcs⟩ : ∃ cs, cs = rest g L h2 [L + 1] := ⟨_, rfl⟩
  have N2 := B2.ledger
  rw [← hcs] at N2
  k_steps
  refine Mine.stop_out ?_
  obtain ⟨its, n2, e2, r2⟩ := B2.R
  refine bisL (n := 0) (t0 := 0) (x := [67]) (ps := ks.map (prOf G LF)) (kf := fn) (items := its) (show dp < 800 by omega) (show un < 5000 by omega) (X.keeps B2.F.keep) (T.keeps B2.F.keep) (.inr rfl) ⟨_, e2, rfl, _, rfl⟩ r2 K2 (by rw [List.length_map, hks.length_eq]; decide) (sortedW_of hsw) ?_
  intro h3 t3 tk3 lo x3 hlo hlt hgt
  obtain ⟨hz0, hkey⟩ := lo_zer hks hL6 hG2 hlo hlt hgt
  have hzf : Zfirst LF ks := by rw [hz0] at hkey; exact hkey
  subst hz0
  have B3 := B2.same x3
  clear F2 N2 hcs e2 r2 K2 hlt hgt hkey hlo
  have F3 := B3.F
  obtain ⟨cs3, hcs⟩ : ∃ cs, cs = rest g L h3 [L + 1] := ⟨_, rfl⟩
  have N3 := B3.ledger
  rw [← hcs] at N3
  k_steps
  rename Fr _ _ _ _ => F4
  rename News _ _ _ _ => N4
  refine Mine.stop_out ?_
  obtain ⟨x4, B4⟩ := B3.walk hz hoc F4 N4 (fun p hp => hcs ▸ hp)
  rename Heap => h4
  have y4 : Ext (z.all L rl) s.heap h4 := ((x2.m1 (at_ 10 rfl)).trans x3.m0).trans (x4.m2 (at_ 0 rfl) (at_ 1 rfl))
  clear x2 x3 x4 B0 B2 B3 N4 hcs
  k_dflt (refine ListComp_TS F4 (by with_unfolding_all rfl) (by decide) (by rfl) (by decide) (by rfl) rfl ?_)
  k_steps
  obtain ⟨cs4, hcs⟩ : ∃ cs, cs = rest g L h4 [L + 1] := ⟨_, rfl⟩
  have N4 := B4.ledger
  rw [← hcs] at N4
  refine ⟨_, _, _, rfl, by decide +kernel, by decide +kernel, F4, N4, ?_⟩
  intro g'
  refine comp_T 6 (fun i ys => ys.length = ((R6.take i).filter fun k => LF k == 0).length) ?_ ?_ _ 0 [] (by rfl) rfl
  · intro i ys hi hys v I oI CC oC D m₂ h tk E' hv hC hx F5 N5 hoff hne
    have hv' : ∃ u, v = .str ⟨nmA i⟩ u := by
      obtain ⟨c, u, e1, rfl⟩ := hv
      rcases lt6 hi with rfl | rfl | rfl | rfl | rfl | rfl <;> cases e1 <;> exact ⟨u, rfl⟩
    obtain ⟨u, rfl⟩ := hv'
    clear hv
    have x5 : Ext [L, L + 1] h4 h := ext_of_rest B4.F F5 (news_sub N5 fun p hp => .tail _ (.tail _ (.tail _ (.tail _ (hcs ▸ hp)))))
    have D5 := B4.D.ext x5 (by
      have n1 := List.nodup_cons.mp hz
      have n2 := List.nodup_cons.mp n1.2
      intro q
      rcases List.mem_cons.mp q with e | q
      · exact n1.1 (e ▸ .tail _ (.tail _ (.head _)))
      · rw [List.mem_singleton] at q; exact n2.1 (q ▸ .tail _ (.head _)))
    k_steps
    refine lf_get D5 (R6_mem hi) ?_
    intro u5
    k_steps
    · have h0 : (LF i : Int) = 0 := by assumption
      refine LCg.CompEnd.intro F5 N5 _ (fun q hq => hq) hoff trivial ⟨rfl, ?_⟩
      rw [filt_succ _ hi, if_pos (by simp; omega), List.length_append, hys]; rfl
    · have h0 : (LF i : Int) ≠ 0 := by assumption
      refine LCg.CompEnd.intro F5 N5 _ (fun q hq => hq) hoff trivial ⟨rfl, ?_⟩
      rw [filt_succ _ hi, if_neg (by simp; omega), hys]; rfl
  · intro ys hys D h tk F6 N6 off
    have hz6 : ys.length = zer LF := hys
    have hz7 := zer_le LF
    clear hys
    obtain ⟨x6, B6⟩ := B4.walk hz hoc F6 N6 (fun p hp => .tail _ (hcs ▸ hp))
    have y6 : Ext (z.all L rl) s.heap h := y4.trans (x6.m2 (at_ 0 rfl) (at_ 1 rfl))
    dsimp only
    k_steps
    refine PyProof.Rows.len_list ⟨_, (N6 _ (.head _)).1, rfl, _, rfl⟩ (by rw [List.size_toArray]; omega) ?_
    rw [List.size_toArray, hz6]
    k_steps
    · exact absurd rfl (by assumption : (zer LF : Int) ≠ (zer LF : Int))
    · have h6 : (zer LF : Int) = 6 := by assumption
      exact hQ _ _ ⟨h, _, _, rfl, y6, B6, ⟨m1, m2, m3, m4, m5, t6, m6⟩, .inr ⟨rfl, by omega⟩⟩
    · have h6 : (zer LF : Int) ≠ 6 := by assumption
      exact hQ _ _ ⟨h, _, _, rfl, y6, B6, ⟨m1, m2, m3, m4, m5, t6, m6⟩, .inl ⟨rfl, by omega, hzf, _, rfl⟩⟩
end Mine
end
section
open PySem PySem.W PyProof.Rows PySem.Calls PySem.Spec PyProof.V
set_option maxRecDepth 100000
namespace Mine
theorem fillCh4 : (∀ w : World, hd.heap_39 w.params = hd.heap_39 w.params) ∧ PySem.Challenge.rw_uc0036_01.foot = 6 := by
  k_fill
  w_top off
  exact ⟨fun _ => rfl, rfl⟩
theorem cut_at : ∀ (l : List Value) (k : Nat) (y : Value), l[k]? = some y → kl_cut l k = some (l.take k, y, l.drop (k + 1))
  | [], _, _, h => by simp at h
  | x :: r, 0, y, h => by simp at h; subst h; rfl
  | x :: r, k + 1, y, h => by
    have := cut_at r k y (by simpa using h)
    rw [kl_cut, this]; rfl
/-- who is chosen -/
noncomputable def pick (lo : Nat) (way : Int) : Nat := lo + (way.fmod (6 - lo)).toNat
theorem pick_lt {lo : Nat} (way : Int) (h : lo < 6) : lo ≤ pick lo way ∧ pick lo way < 6 ∧ ((lo : Int) + way.fmod (6 - lo)) = (pick lo way : Nat) := by
  have h1 : (0 : Int) ≤ way.fmod (6 - lo) := Int.fmod_nonneg_of_pos _ (by omega)
  have h2 : way.fmod (6 - lo) < 6 - lo := Int.fmod_lt_of_pos _ (by omega)
  unfold pick; omega
/-- a list of names -/
noncomputable def NmsAt (h : Heap) (a : Addr) (ns : List Nat) : Prop := ∃ vs, h.IsList a (List.toArray vs) ∧ StrsV vs (ns.map nmA)
structure EndB (w : World) (g : Heap) (L : Addr) (oc : Obj) (z : Ad) (rl na ta : Addr) (h0 h : Heap) (m : Str → Option Value) (H : List Ln) (f : Nat → List (Array Nat)) (LF : Nat → Nat) (G : Gs) (c : Nat) (ks : List Nat) (ga fd : Addr) (way : Int) : Prop where
  new : h0.get? rl = none
  nd : (z.all L rl).Nodup
  no : ∀ a ∈ z.all L rl, g.get? a = none
  B : Bag w g L oc z rl h m H H f R6 LF 50 ((ks.take (5 - LF c)).map (prOf G LF))
  M : Nm m ga z fd rl way
  name : ∃ t, m (Str.ofString "name") = some (.str ⟨nmA c⟩ t)
  names : m (Str.ofString "names") = some (.ref na)
  taken : m (Str.ofString "taken") = some (.ref ta)
  A : NmsAt h na (c :: ks)
  K : NmsAt h ta (ks.drop (5 - LF c))
  offA : na ∉ z.all L rl
  offK : ta ∉ z.all L rl
theorem pick_drop {l : List Value} {x : Int} {n : Nat} (hx : x = n) : kms_pick l (some x) none = l.drop n := by
  subst hx
  have h0 : ¬ ((n : Nat) : Int) < 0 := by omega
  simp only [kms_pick, kms_lo, kms_hi, if_neg h0, Int.toNat_natCast]
  rcases Nat.le_total n l.length with q | q
  · rw [Nat.min_eq_left q, List.take_of_length_le (by rw [List.length_drop]; exact Nat.le_refl _)]
  · rw [Nat.min_eq_right q, List.drop_eq_nil_of_le q, List.drop_length]; simp
theorem pick_take {l : List Value} {x : Int} {n : Nat} (hx : x = n) : kms_pick l none (some x) = l.take n := by
  subst hx
  have h0 : ¬ ((n : Nat) : Int) < 0 := by omega
  simp only [kms_pick, kms_lo, kms_hi, if_neg h0, Int.toNat_natCast, List.drop_zero, Nat.sub_zero]
  rcases Nat.le_total n l.length with q | q
  · rw [Nat.min_eq_left q]
  · rw [Nat.min_eq_right q, List.take_length, List.take_of_length_le q]
theorem StrsV.drop : ∀ {vs : List Value} {cs : List (Array Nat)} (k : Nat), StrsV vs cs → StrsV (vs.drop k) (cs.drop k)
  | _, _, 0, x => x
  | _, _, _ + 1, .nil => .nil
  | _, _, k + 1, .cons r => r.drop k
section
variable {w : World} {g h h' : Heap} {L : Addr} {oc : Obj} {z : Ad} {rl : Addr} {m m' : Str → Option Value} {H Hl : List Ln} {f : Nat → List (Array Nat)} {dom : List Nat} {LF : Nat → Nat} {b : Nat} {ps ps' : List Rw} {items : List Value} {n : Nat} {news : List (Addr × Obj)}
theorem Bag.walkR (x : Bag w g L oc z rl h m H Hl f dom LF b ps) (hz : (z.all L rl).Nodup) (hoc : oc.data = .cell (some (.ref z.lf))) (F : Fr g L h' m') (N : News g L h' news) (hs : ∀ p ∈ (L + 1, oc) :: rest g L h [L + 1, rl], p ∈ news)
    (hr : (rl, lstO (List.toArray items) n) ∈ news) (hrow : Ext (L :: [L + 1, rl]) h h' → Muts h (L :: [L + 1, rl]) → RowAt h' items ps') : Ext (L :: [L + 1, rl]) h h' ∧ Muts h (L :: [L + 1, rl]) ∧ Bag w g L oc z rl h' m' H Hl f dom LF b ps' := by
  have k : Ext (L :: [L + 1, rl]) h h' := ext_of_rest x.F F (news_sub N fun p hp => hs p (.tail _ hp))
  have hM : Muts h (L :: [L + 1, rl]) := muts_cons (mut_ns x.F.ns) (muts_cons ⟨_, (x.N _ (.head _)).1, mut_cell hoc⟩ (by obtain ⟨_, _, e, _⟩ := x.R; exact muts_one e (mut_list _ _)))
  have n1 := List.nodup_cons.mp hz
  have n2 := List.nodup_cons.mp n1.2
  have n3 := List.nodup_cons.mp n2.2
  have d : ∀ a ∈ z.sup, a ∉ L :: [L + 1, rl] := fun a ha q => by
    rcases List.mem_cons.mp q with q | q
    · exact n1.1 (q ▸ .tail _ (.tail _ ha))
    rcases List.mem_cons.mp q with q | q
    · exact n2.1 (q ▸ .tail _ ha)
    · exact n3.1 (List.mem_singleton.mp q ▸ ha)
  exact ⟨k, hM, F, news_sub N (fun p hp => hs p (by rw [List.mem_singleton] at hp; subst hp; exact .head _)), x.W.ext k hM fun a ha => d _ (.tail _ ha), x.T.ext k hM (d _ (.tail _ (tab_in (.inl rfl)))) (d _ (.tail _ (tab_in (.inr (.inl rfl))))) (d _ (.tail _ (tab_in (.inr (.inr rfl))))),
    x.D.ext k (d _ (.head _)), ⟨items, n, (N _ hr).1, hrow k hM⟩⟩
theorem ex_of_fr {P : (Str → Option Value) → Prop} (_ : Fr g L h m) (hp : P m) : ∃ m', P m' := ⟨m, hp⟩
theorem Bag.ledgerR (x : Bag w g L oc z rl h m H Hl f dom LF b ps) (hz : (z.all L rl).Nodup) (hg0 : ∀ a ∈ z.all L rl, g.get? a = none) (e : h.get? rl = some (lstO (List.toArray items) n)) : News g L h ((rl, lstO (List.toArray items) n) :: (L + 1, oc) :: rest g L h [L + 1, rl]) := by
  refine news_cons ?_ e (fun e => (List.nodup_cons.mp hz).1 (e ▸ .tail _ (.head _))) (hg0 _ rl_in)
  intro p hp
  rcases List.mem_cons.mp hp with rfl | hp
  · exact x.N _ (.head _)
  · exact rest_news p hp
end
local macro_rules | `(tactic| k_all) => `(tactic| assumption)
local macro_rules | `(tactic| walk_at "eval Name") => `(tactic| (k_here; k_dflt (refine' nameX_L ?F ?v ?_ ?a ?b; (case F => k_asm); (case a => rfl); (case b => rfl); (case v => assumption); k_whole)))
local macro_rules | `(tactic| walk_at "call ref") => `(tactic| refine Mine.stop_in ?_)
local macro_rules | `(tactic| walk_at "eval Lambda") => `(tactic| refine Mine.stop_in ?_)
local macro_rules | `(tactic| walk_at "eval ListComp") => `(tactic| refine Mine.stop_in ?_)
local macro_rules | `(tactic| walk_at "CompSrc") => `(tactic| refine Mine.stop_in ?_)
local macro_rules | `(tactic| walk_at "binaryOp Add ref ref") => `(tactic| refine Mine.stop_in ?_)
local macro_rules | `(tactic| walk_at "subscriptTail Name Slice ref ref") => `(tactic| refine Mine.stop_in ?_)
local macro_rules | `(tactic| walk_at "call builtin:list.pop") => `(tactic| refine Mine.stop_in ?_)
set_option maxHeartbeats 8000000 in
theorem chB {w : World} {p : Program} {loose : List Str} {mean : ExcName → Option Value} {mg mb : Str → Option Value} {dp un : Nat} {fr : Option (List Env)} {gd : Option (List Code)} {s : Shared} {B : List Stmt} (hB : B = chTurn w)
   {g : Heap} {L : Addr} {oc : Obj} {m : Str → Option Value} {z : Ad} {H : List Ln} {f : Nat → List (Array Nat)} {LF : Nat → Nat} {ga fd rl : Addr} {ks : List Nat} {G : Gs} {way : Int} {tf : Tok}
   (hdp : dp < 600) (hun : un < 4700) (hG2 : ∀ k, (G k).2 < 4096) (hL6 : ∀ k, LF k < 6) (hks : ks.Perm R6) (hz6 : zer LF < 6) (hzf : Zfirst LF ks)
   (X : (hd.heap_39 w.params).In g) (T : Top p loose mean mg mb g) (C : CodeHd g 252 250)
   (hz : (z.all L rl).Nodup) (hg0 : ∀ a ∈ z.all L rl, g.get? a = none) (hoc : oc.data = .cell (some (.ref z.lf)))
   (B0 : Bag w g L oc z rl s.heap m H H f R6 LF 50 (ks.map (prOf G LF))) (nm : Nm m ga z fd rl way) (m7 : m (Str.ofString "first") = some (.int (zer LF : Nat) tf)) :
   wpAny (MM w) (AA dp un fr gd) (execs ((B.drop 3).take 7) (chEnv w L)) (fun fl s' => Stop (∃ h' m' tk, s' = { s with heap := h', toks := tk } ∧ Ext (z.all L rl) s.heap h' ∧ ∃ c ks', ks.Perm (c :: ks') ∧ ks'.Sublist ks ∧ 1 ≤ LF c ∧
     ((fl = .ret (.bool false) ∧ 5 < LF c + zer LF ∧ ∃ ps', Bag w g L oc z rl h' m' H H f R6 LF 50 ps') ∨
      (fl = .next ∧ LF c + zer LF ≤ 5 ∧ ∃ rl2 na ta, EndB w g L oc z rl2 na ta s.heap h' m' H f LF G c ks' ga fd (way.fdiv 6))))) (fun _ _ => False) s := by
  subst hB
  conv in List.take 7 (List.drop 3 (chTurn w)) => whnf
  dsimp only [chEnv]
  conv in scopeAt w 253 => whnf
  refine post_out ?_
  intro Q hQ
  simp only [List.take_succ_cons, List.take_zero]
  obtain ⟨m1, m2, m3, m4, m5, t6, m6⟩ := nm
  have F0 := B0.F
  obtain ⟨its, n0, e0, r0⟩ := B0.R
  obtain ⟨cs, hcs⟩ : ∃ cs, cs = rest g L s.heap [L + 1, rl] := ⟨_, rfl⟩
  have nrC : @Ne Nat rl (L + 1) := fun e => (List.nodup_cons.mp (List.nodup_cons.mp hz).2).1 (e ▸ .head _)
  have N0 := B0.ledgerR hz hg0 e0
  rw [← hcs] at N0
  have c1 : ∀ p ∈ cs, p.1 ≠ rl := hcs ▸ rest_off (at_ 1 rfl)
  have c2 : ∀ p ∈ cs, p.1 ≠ L + 1 := hcs ▸ rest_off (at_ 0 rfl)
  have h6z : ((6 : Int) - (zer LF : Nat)) ≠ 0 := by omega
  k_steps
  refine Mine.stop_out ?_
  have hlen := r0.length
  have hkl : ks.length = 6 := hks.length_eq
  rw [List.length_map, hkl] at hlen
  obtain ⟨i0, i1, i2⟩ := pick_lt way hz6
  rw [i2]
  generalize pick (zer LF) way = i at i0 i1
  clear i2
  obtain ⟨v, pr, e1, e2, ep⟩ := r0.get (i := i) (by rw [List.length_map]; omega)
  rw [List.getElem?_map] at e2
  obtain ⟨c, ec, rfl⟩ := Option.map_eq_some_iff.mp e2
  refine kl_popAt F0 N0 (by simp only [Builtin.List.listFitsIndex, Bool.and_eq_true, decide_eq_true_eq]; omega) (k := i) ?hk (cut_at its i v e1) (Upd.head ?hu) (by show its.toArray.toList.length ≤ 16777216; rw [List.toList_toArray]; omega) ?_
  case hk =>
    unfold seqIndex?
    rw [List.size_toArray, hlen]
    have : ¬ ((i : Nat) : Int) < 0 := by omega
    simp only [this, if_false]
    rw [if_pos (by simp; omega), Int.toNat_natCast]
  case hu =>
    intro p hp
    rcases List.mem_cons.mp hp with rfl | hp
    · exact Ne.symm nrC
    · exact c1 p hp
  intro h2 F2 N2
  obtain ⟨x2, M2, _⟩ := B0.walkR hz hoc F2 N2 (fun p hp => .tail _ (hcs ▸ hp)) (.head _) (fun k hM => ((r0.take i).append (r0.drop (i + 1))).ext k hM)
  obtain ⟨pa, tw, tn, rfl, epa⟩ := ep.ext x2 M2
  have e3 : IsTup h2 pa #[.bytes (wd (LF c) (G c).2).toArray tw, .str ⟨nmA c⟩ tn] := ⟨_, epa, rfl, _, rfl⟩
  clear e1 e2 ep c1 c2 epa
  refine unpackN_ F2 N2 e3 rfl rfl rfl ?_
  intro h3 F3 N3
  clear F2 N2 e3 x2 M2 F0 N0
  have hcp : ks.Perm (c :: (ks.take i ++ ks.drop (i + 1))) := by
    have h1 := (List.getElem?_eq_some_iff.mp ec)
    have : ks = ks.take i ++ c :: ks.drop (i + 1) := by
      obtain ⟨hi, e⟩ := h1
      rw [← e, List.getElem_cons_drop, List.take_append_drop]
    exact (List.Perm.of_eq this).trans List.perm_middle
  have hcs2 : (ks.take i ++ ks.drop (i + 1)).Sublist ks := by
    have : ks = ks.take i ++ ks.drop i := (List.take_append_drop i ks).symm
    conv => rhs; rw [this]
    refine List.Sublist.append_left ?_ _
    rw [← List.drop_drop]
    exact List.drop_sublist _ _
  have hc1 : 1 ≤ LF c := by
    have := (hzf i c ec)
    rcases Nat.eq_zero_or_pos (LF c) with q | q
    · have := this.mp q; omega
    · exact q
  clear ec hzf
  k_steps
  refine bytes_item_K (x := wd (LF c) (G c).2) (k := ((66 + LF c : Nat) : Int)) (by rw [wd_eq (hL6 c) (hG2 c)]; show (4 : Nat) ≤ 1099511627776; omega) (by decide) (by rw [wd_eq (hL6 c) (hG2 c)]; show (0 : Int) < ((4 : Nat) : Int); decide) (by rw [wd_eq (hL6 c) (hG2 c)]; show (((66 + LF c).toUInt8.toNat : Nat) : Int) = _; rw [toU_nat (hL6 c)]) ?_
  k_steps
  all_goals (rename Fr _ _ _ _ => F4; rename News _ _ _ _ => N4)
  · have hlt : (5 : Int) - (zer LF : Nat) < ((66 + LF c : Nat) : Int) - 66 := by assumption
    obtain ⟨x4, _, B4⟩ := B0.walkR hz hoc F4 N4 (fun p hp => .tail _ (hcs ▸ hp)) (.head _) (fun k hM => ((r0.take i).append (r0.drop (i + 1))).ext k hM)
    exact hQ _ _ ⟨_, _, _, rfl, x4.mono (all_c (at_ 0 rfl) (all_c (at_ 1 rfl) (all_c (at_ 2 rfl) all_n))), c, ks.take i ++ ks.drop (i + 1), hcp, hcs2, hc1, .inl ⟨rfl, by omega, _, B4⟩⟩
  · have hlt : ¬ (5 : Int) - (zer LF : Nat) < ((66 + LF c : Nat) : Int) - 66 := by assumption
    refine Mine.stop_out ?_
    have hr : ∀ {h' : Heap} (k : Ext (L :: [L + 1, rl]) s.heap h') (hM : Muts s.heap (L :: [L + 1, rl])), RowAt h' (its.take i ++ its.drop (i + 1)) ((ks.take i ++ ks.drop (i + 1)).map (prOf G LF)) := fun k hM => by
      rw [List.map_append, List.map_take, List.map_drop]
      exact ((r0.take i).append (r0.drop (i + 1))).ext k hM
    have hl5 : (its.take i ++ its.drop (i + 1)).length = 5 := by simp; omega
    have hk5 : (ks.take i ++ ks.drop (i + 1)).length = 5 := by simp; omega
    generalize its.take i ++ its.drop (i + 1) = its5 at hr hl5 N4
    generalize ks.take i ++ ks.drop (i + 1) = ks5 at hr hk5 hcp hcs2
    obtain ⟨x4, M4, _⟩ := B0.walkR hz hoc F4 N4 (fun p hp => .tail _ (.tail _ (hcs ▸ hp))) (.tail _ (.head _)) hr
    k_dflt (refine LCg.ListComp_U (F₀ := F4) (by with_unfolding_all rfl) (by decide) (by rfl) (by decide) (by rfl) ?_)
    clear r0
    k_steps
    refine Mine.stop_out ?_
    refine LCg.CompSrc.ledger rfl F4 N4 (by k_mem) (by show its5.toArray.size ≤ 16777216; rw [List.size_toArray]; omega) ?_
    intro g'
    refine comp_U (its5.toArray.size) (fun j ys => StrsV ys ((ks5.take j).map nmA)) ?_ ?_ _ 0 [] (by simp) .nil
    · intro j ys hj hys v I oI CC oC D m₂ h tk E' hv hC hx F5 N5 hoff hne
      rw [List.size_toArray] at hj
      have x5 : Ext (L :: [L + 1, rl]) s.heap h := ext_of_rest B0.F F5 (news_sub N5 fun p hp => .tail _ (.tail _ (.tail _ (.tail _ (.tail _ (.tail _ (hcs ▸ hp)))))))
      obtain ⟨v', pr, e1, e2, ep⟩ := (hr x5 M4).get (i := j) (by rw [List.length_map]; omega)
      obtain rfl : v' = v := by simpa [e1] using hv
      rw [List.getElem?_map] at e2
      obtain ⟨k, ek, rfl⟩ := Option.map_eq_some_iff.mp e2
      obtain ⟨pa5, tw5, tn5, rfl, ep⟩ := ep
      clear hv e1 e2
      k_steps
      refine item_tupleT (l := [.bytes (wd (LF k) (G k).2).toArray tw5, .str ⟨nmA k⟩ tn5]) (j := 1) ⟨_, ep, rfl, _, rfl⟩ (by decide) (by decide) rfl rfl ?_
      refine LCg.CompEnd.intro F5 N5 _ (fun q hq => hq) hoff (.inr ⟨_, by k_mem, rfl, _, rfl⟩) ⟨rfl, ?_⟩
      rw [List.take_add_one, ek, Option.toList_some, List.map_append]
      exact hys.snoc
    · intro ys hys D h tk F6 N6 off
      rw [List.size_toArray, hl5, ← hk5, List.take_length] at hys
      have hyl := hys.length
      rw [List.length_map, hk5] at hyl
      clear F4 N4 x4
      dsimp only
      k_steps
      refine Mine.stop_out ?_
      refine kmk_add_lit F6 N6 ⟨_, (N6 _ (.tail _ (.head _))).1, rfl, _, rfl⟩ ⟨_, (N6 _ (.head _)).1, rfl, _, rfl⟩ rfl ?_ (by show [Value.str { cps := nmA c } tn].length + ys.toArray.toList.length ≤ 16777216; simp; omega)
      intro na h7 F7 N7 l7
      clear F6 N6 off
      k_steps
      rename Fr _ _ _ _ => F8
      rename News _ _ _ _ => N8
      refine Mine.stop_out ?_
      refine kms_slice_lit F8 N8 ⟨_, (N8 _ (.head _)).1, rfl, _, rfl⟩ (by kmk_part) (by kmk_part) (pick_drop (n := 6 - LF c) (by have := hL6 c; omega)) ?_ (by with_unfolding_all rfl) (by kmk_pure) (by show Array.size _ ≤ 16777216; simp; omega)
      intro ta h9 F9 N9 l9
      clear F8 N8
      k_steps
      rename Fr _ _ _ _ => F10
      rename News _ _ _ _ => N10
      refine Mine.stop_out ?_
      refine kms_slice_lit F10 N10 ⟨_, (N10 (rl, _) (.tail _ (.tail _ (.tail _ (.tail _ (.head _)))))).1, rfl, _, rfl⟩ (by kmk_part) (by kmk_part) (pick_take (n := 5 - LF c) (by omega)) ?_ (by with_unfolding_all rfl) (by kmk_pure) (by show Array.size _ ≤ 16777216; simp; omega)
      intro rl2 h11 F11 N11 l11
      clear F10 N10
      k_steps
      rename Fr _ _ _ _ => F12
      rename News _ _ _ _ => N12
      rename Heap => h12
      obtain ⟨x12, M12, B12⟩ := B0.walkR hz hoc F12 N12 (fun p hp => .tail _ (.tail _ (.tail _ (.tail _ (.tail _ (.tail _ (hcs ▸ hp))))))) (.tail _ (.tail _ (.tail _ (.tail _ (.tail _ (.head _)))))) hr
      have n1 := List.nodup_cons.mp hz
      have n2 := List.nodup_cons.mp n1.2
      have n3 := List.nodup_cons.mp n2.2
      have hold : ∀ a ∈ z.sup, ∃ o, (a, o) ∈ cs := fun a ha => by
        obtain ⟨o, e⟩ := B0.sup0_there a (.tail _ (.tail _ (.tail _ ha)))
        refine ⟨o, hcs ▸ rest_mem e (fun q => ?_) (fun q => n1.1 (q ▸ .tail _ (.tail _ ha))) (hg0 a (.tail _ (.tail _ (.tail _ ha))))⟩
        rcases List.mem_cons.mp q with q | q
        · exact n2.1 (q ▸ .tail _ ha)
        · rw [List.mem_singleton] at q; exact n3.1 (q ▸ ha)
      have irr : ∀ {a : Addr}, ¬ a < a := fun {a} => Nat.lt_irrefl a
      have offT : ∀ a : Addr, a ≠ L → L + 1 < a → (a < rl2) → (∀ p ∈ cs, p.1 < a) → a ∉ z.all L rl2 := fun a h1 h2 h3 h4 q => by
        rcases List.mem_cons.mp q with q | q
        · exact h1 q
        rcases List.mem_cons.mp q with q | q
        · rw [q] at h2; exact irr h2
        rcases List.mem_cons.mp q with q | q
        · rw [q] at h3; exact irr h3
        · obtain ⟨o, ho⟩ := hold a q; exact irr (h4 _ ho)
      have rL : rl2 ≠ L := (N12 _ (.head _)).2.1
      have rC : L + 1 < rl2 := l11 (L + 1, oc) (.tail _ (.tail _ (.tail _ (.tail _ (.tail _ (.head _))))))
      have rR : rl < rl2 := l11 (rl, _) (.tail _ (.tail _ (.tail _ (.tail _ (.head _)))))
      have rS : ∀ p ∈ cs, p.1 < rl2 := fun p hp => l11 p (.tail _ (.tail _ (.tail _ (.tail _ (.tail _ (.tail _ hp))))))
      refine hQ _ _ ⟨h12, ex_of_fr F12 ⟨_, rfl, x12.mono (all_c (at_ 0 rfl) (all_c (at_ 1 rfl) (all_c (at_ 2 rfl) all_n))), c, ks5, hcp, hcs2, hc1, .inr ⟨rfl, by omega, rl2, na, ta, ?_⟩⟩⟩
      refine ⟨?_, ?_, ?_, ⟨B12.F, B12.N, B12.W, B12.T, B12.D, ⟨_, _, (N12 _ (.head _)).1, ?_⟩⟩, ⟨m1, m2, rfl, m4, m5, _, rfl⟩, ⟨tn, rfl⟩, rfl, rfl, ⟨_, ⟨_, (N12 (na, _) (.tail _ (.tail _ (.head _)))).1, rfl, _, rfl⟩, .cons hys⟩,
        ⟨_, ⟨_, (N12 (ta, _) (.tail _ (.head _))).1, rfl, _, rfl⟩, ?_⟩, offT na (N12 (na, _) (.tail _ (.tail _ (.head _)))).2.1 (l7 (L + 1, oc) (.tail _ (.tail _ (.tail _ (.head _))))) (l11 (na, _) (.tail _ (.head _))) (fun p hp => l7 p (.tail _ (.tail _ (.tail _ (.tail _ hp))))),
        offT ta (N12 (ta, _) (.tail _ (.head _))).2.1 (l9 (L + 1, oc) (.tail _ (.tail _ (.tail _ (.tail _ (.head _)))))) (l11 (ta, _) (.head _)) (fun p hp => l9 p (.tail _ (.tail _ (.tail _ (.tail _ (.tail _ hp))))))⟩
      · cases q : s.heap.get? rl2 with
        | none => rfl
        | some o =>
          refine absurd (rS _ (hcs ▸ rest_mem q (fun q => ?_) rL (N12 _ (.head _)).2.2)) irr
          rcases List.mem_cons.mp q with q | q
          · rw [q] at rC; exact irr rC
          · rw [List.mem_singleton] at q; rw [q] at rR; exact irr rR
      · refine List.nodup_cons.mpr ⟨fun q => ?_, List.nodup_cons.mpr ⟨fun q => ?_, List.nodup_cons.mpr ⟨fun q => ?_, n3.2⟩⟩⟩
        · rcases List.mem_cons.mp q with q | q
          · exact n1.1 (q ▸ .head _)
          rcases List.mem_cons.mp q with q | q
          · exact rL q.symm
          · exact n1.1 (.tail _ (.tail _ q))
        · rcases List.mem_cons.mp q with q | q
          · rw [← q] at rC; exact irr rC
          · exact n2.1 (.tail _ q)
        · obtain ⟨o, ho⟩ := hold _ q; exact irr (rS _ ho)
      · intro a ha
        rcases List.mem_cons.mp ha with rfl | ha
        · exact hg0 _ (.head _)
        rcases List.mem_cons.mp ha with rfl | ha
        · exact hg0 _ (.tail _ (.head _))
        rcases List.mem_cons.mp ha with rfl | ha
        · exact (N12 _ (.head _)).2.2
        · exact hg0 _ (.tail _ (.tail _ (.tail _ ha)))
      · rw [List.map_take]; exact (hr x12 M12).take _
      · have e6 : 6 - LF c = (5 - LF c) + 1 := by omega
        have := (StrsV.cons (c := nmA c) (t := tn) hys).drop (6 - LF c)
        rw [e6, List.drop_succ_cons] at this
        rw [e6, List.map_drop]
        exact this
end Mine
end
section
open PySem PySem.W PyProof.Rows PySem.Calls PySem.Spec PyProof.V
set_option maxRecDepth 100000
namespace Mine
theorem ext_drop {h h' : Heap} {I : Addr} {S : List Addr} (x : Ext (I :: S) h h') (e : h.get? I = none) : Ext S h h' := fun b o eb hb => x b o eb fun q => by
  rcases List.mem_cons.mp q with rfl | q
  · rw [e] at eb; cases eb
  · exact hb q
theorem store_L {w : World} {A : Around} {E : Value → Shared → Prop} {s : Shared} {g : Heap} {m : Str → Option Value} {env : Env} {y : Str} {v : Value} {Q : Unit → Shared → Prop} (F : Fr g env.locals s.heap m) (hk : env.kindOf y = some .local)
    (hp : (env.scope.kind == .class || (env.scope.kind == .module && env.locals != env.globals)) = false)
    (h : ∀ h' tk, Fr g env.locals h' (fun z => if z = y then some v else m z) → Ext [env.locals] s.heap h' → Q () { s with heap := h', toks := tk }) : wpAny (MM w) A (storeName env y v) Q E s := by
  refine wpAny_storeName_local hk F.ns (fun h' hn hs => ?_) hp
  have hL : g.get? env.locals = none := Heap.get?_none_of_le F.above
  exact h h' _ ⟨hn, fun b o e => hs.extBut b o (fun q => by rw [q, hL] at e; cases e) (F.keep b o e), F.above⟩ (ext_same_but hs)
section
variable {w : World} {g h h' : Heap} {L : Addr} {oc : Obj} {z : Ad} {rl : Addr} {m m' : Str → Option Value} {H Hl : List Ln} {f : Nat → List (Array Nat)} {dom : List Nat} {LF : Nat → Nat} {b : Nat} {ps ps' : List Rw}
theorem Bag.store (x : Bag w g L oc z rl h m H Hl f dom LF b ps) (hz : (z.all L rl).Nodup) (F : Fr g L h' m') (k : Ext [L] h h') : Bag w g L oc z rl h' m' H Hl f dom LF b ps := by
  have n1 := List.nodup_cons.mp hz
  have hM : Muts h [L] := muts_cons (mut_ns x.F.ns) (muts_nil _)
  have d : ∀ a ∈ (L + 1) :: rl :: z.sup, a ∉ [L] := fun a ha q => by
    rw [List.mem_singleton] at q; subst q; exact n1.1 ha
  exact ⟨F, news_ext x.N k (by rw [List.forall_mem_singleton]; exact d _ (.head _)), x.W.ext k hM fun a ha => d _ (.tail _ (.tail _ (.tail _ ha))), x.T.ext k hM (d _ (.tail _ (.tail _ (.tail _ (tab_in (.inl rfl)))))) (d _ (.tail _ (.tail _ (.tail _ (tab_in (.inr (.inl rfl))))))) (d _ (.tail _ (.tail _ (.tail _ (tab_in (.inr (.inr rfl))))))),
    x.D.ext k (d _ (.tail _ (.tail _ (.head _)))), x.R.ext k hM (d _ (.tail _ (.head _)))⟩
end
theorem LFi_o {LF : Nat → Nat} {c o i : Nat} {ts : List Nat} (hc : c ∉ ts) (hnd : ts.Nodup) (e : ts[i]? = some o) : LFi LF c ts i o = LF o := by
  have hoc : o ≠ c := fun q => hc (q ▸ List.mem_of_getElem? e)
  have hoi : o ∉ ts.take i := by
    intro h
    obtain ⟨j, hj⟩ := List.getElem?_of_mem h
    rw [List.getElem?_take] at hj
    split at hj
    · rename_i hji
      obtain ⟨hj', ej⟩ := List.getElem?_eq_some_iff.mp hj
      obtain ⟨hi', ei⟩ := List.getElem?_eq_some_iff.mp e
      have := (List.pairwise_iff_getElem.mp (List.nodup_iff_pairwise_ne.mp hnd)) j i hj' hi' hji
      exact this (ej.trans ei.symm)
    · cases hj
  unfold LFi; rw [if_neg hoc, if_neg hoi]
/-- what is known after i of the taken -/
structure Taking (w : World) (g : Heap) (L : Addr) (oc : Obj) (z : Ad) (rl na : Addr) (h : Heap) (m : Str → Option Value) (H0 H : List Ln) (LF : Nat → Nat) (G : Gs) (c : Nat) (kept ts : List Nat) (ga fd : Addr) (way : Int) (i : Nat) : Prop where
  B : Bag w g L oc z rl h m H H (fun k => gets H (nmA k)) R6 (LFi LF c ts i) 50 (((ts.take i).map (prOf G (LFi LF c ts ts.length))).foldl (fun a p => insR p a) (kept.map (prOf G (LFi LF c ts ts.length))))
  M : Nm m ga z fd rl way
  name : ∃ t, m (Str.ofString "name") = some (.str ⟨nmA c⟩ t)
  names : m (Str.ofString "names") = some (.ref na)
  cnt : ∀ k, k < 6 → (gets H (nmA k)).length + LFi LF c ts i k = (G k).1
  txt : ∀ q ∈ H, q.1 ∈ texts
  len : H.length = H0.length + 2 * i
noncomputable def chFor (w : World) : List Stmt := ((chTurn w).drop 10).take 1
set_option maxHeartbeats 4000000 in
theorem chC {w : World} {p : Program} {loose : List Str} {mean : ExcName → Option Value} {mg mb : Str → Option Value} {dp un : Nat} {fr : Option (List Env)} {gd : Option (List Code)} {s : Shared} {B : List Stmt} (hB : B = chFor w)
   {g : Heap} {L : Addr} {oc : Obj} {m : Str → Option Value} {z : Ad} {H : List Ln} {LF : Nat → Nat} {ga fd rl na ta : Addr} {c : Nat} {kept ts : List Nat} {G : Gs} {way : Int}
   (hdp : dp < 600) (hun : un < 4700) (hc : c < 6) (hts : ∀ k ∈ ts, k < 6) (hcts : c ∉ ts) (hckept : c ∉ kept) (hnd : (kept ++ ts).Nodup) (hkl : kept.length + ts.length = 5) (hlen : ts.length = LF c) (hpos : ∀ k ∈ ts, 1 ≤ LF k) (hG1 : ∀ k, (G k).1 < 6) (hG2 : ∀ k, (G k).2 < 4096)
   (hH : ∀ q ∈ H, q.1 ∈ texts) (hsz : H.length ≤ 500) (hcnt : ∀ k, k < 6 → (gets H (nmA k)).length + LF k = (G k).1) (hsw : SW (kept.map (prOf G LF)))
   (X : (hd.heap_39 w.params).In g) (T : Top p loose mean mg mb g) (C : CodeHd g 252 250) (hG : GAt g ga G) (hfd : FdAt w g fd z.fl)
   (hz : (z.all L rl).Nodup) (hg0 : ∀ a ∈ z.all L rl, g.get? a = none) (hoc : oc.data = .cell (some (.ref z.lf)))
   (B0 : Bag w g L oc z rl s.heap m H H (fun k => gets H (nmA k)) R6 LF 50 (kept.map (prOf G LF))) (nm : Nm m ga z fd rl way) (hname : ∃ t, m (Str.ofString "name") = some (.str ⟨nmA c⟩ t)) (hnames : m (Str.ofString "names") = some (.ref na)) (htaken : m (Str.ofString "taken") = some (.ref ta))
   (hK : NmsAt s.heap ta ts) (offK : ta ∉ z.all L rl) :
   wpAny (MM w) (AA dp un fr gd) (execs B (chEnv w L)) (fun fl s' => fl = .next ∧ ∃ h' m' tk Hn, s' = { s with heap := h', toks := tk } ∧ Ext (z.all L rl) s.heap h' ∧ Taking w g L oc z rl na h' m' H Hn LF G c kept ts ga fd way ts.length) (fun _ _ => False) s := by
  subst hB
  refine post_out ?_
  intro Q hQ
  have hfor : ∃ x px pos it, chFor w = [.For (.Name (Str.ofString "other") px) (.Name (Str.ofString "taken") x) (chInner w) [] pos] ∧ it = pos := ⟨_, _, _, _, rfl, rfl⟩
  obtain ⟨px, px2, pos, _, hfor, _⟩ := hfor
  obtain ⟨BI, hBI⟩ : ∃ B, B = chInner w := ⟨_, rfl⟩
  rw [hfor, ← hBI]
  have hkLF : ∀ k ∈ kept, LFi LF c ts ts.length k = LF k := fun k hk => by
    unfold LFi
    rw [if_neg (show ¬ k = c from fun q => hckept (q ▸ hk)), List.take_length, if_neg]
    exact fun q => (List.nodup_append.mp hnd).2.2 k hk k q rfl
  have hkm : kept.map (prOf G (LFi LF c ts ts.length)) = kept.map (prOf G LF) := List.map_congr_left fun k hk => by
    show (wd _ _, _) = (wd _ _, _)
    rw [hkLF k hk]
  have htsnd : ts.Nodup := (List.nodup_append.mp hnd).2.1
  refine wpAny_execs_cons ?_
  refine forW rfl (nameX_L B0.F htaken ?_ rfl rfl)
  obtain ⟨vs, hKl, hKs⟩ := hK
  refine iterNames rfl (ns := ts) ⟨hts, .inr ⟨ta, vs, rfl, hKl, hKs⟩⟩ ?_
  intro I fp wr P St h2 W hP hst x2 hwr hI0 hfp hIm
  subst hwr
  have hgI : ∀ a ∈ [I], g.get? a = none := fun a ha => by
    rw [List.mem_singleton] at ha; subst ha
    cases q : g.get? a with
    | none => rfl
    | some o => have := B0.F.keep _ _ q; rw [hI0] at this; cases this
  have hIall : ∀ a ∈ z.all L rl, a ∉ [I] := fun a ha q => by
    rw [List.mem_singleton] at q; subst q
    obtain ⟨o, e⟩ := B0.sup0_there a ha
    rw [hI0] at e; cases e
  have hfpn : ∀ b ∈ fp, b ∉ z.all L rl := fun b hb q => by
    rcases hfp b hb with rfl | e
    · exact hIall _ q (.head _)
    · cases e; exact offK q
  refine ⟨I, fp, [I], ts.length, P, St, fun i s' => ∃ h tk m Hi, s' = { s with heap := h, toks := tk } ∧ Ext (I :: z.all L rl) s.heap h ∧ St i h ∧ Taking w g L oc z rl na h m H Hi LF G c kept ts ga fd way i, rfl, W, ?j0, ?jst, ?step, ?fin⟩
  case j0 =>
    refine ⟨h2, _, m, H, rfl, x2.m0, hst, ⟨?_, nm, hname, hnames, ?_, hH, rfl⟩⟩
    · rw [LFi_zero, hkm]; exact B0.same x2
    · rw [LFi_zero]; exact hcnt
  case jst =>
    rintro i s' ⟨h, tk, m, Hi, rfl, _, hst, _⟩
    exact hst
  case step =>
    intro i s' v h' tk hi hJ hPv hst' x'
    refine step_out ?_
    intro Q' hN' _
    obtain ⟨h, tk0, m, Hi, rfl, xE, hst2, Tk⟩ := hJ
    dsimp only
    obtain ⟨k, t, ek, rfl⟩ := hP i v hPv
    have hkm2 := List.mem_of_getElem? ek
    have hk6 := hts k hkm2
    have hkc : k ≠ c := fun q => hcts (q ▸ hkm2)
    have eo := LFi_o (LF := LF) hcts htsnd ek
    have ecc : LFi LF c ts i c = LF c - i := by unfold LFi; rw [if_pos rfl]
    have hp1 := hpos k hkm2
    have B' := Tk.B.other x' (hIm i h hst2) hIall hgI
    refine store_L (env := chEnv w L) (y := Str.ofString "other") B'.F rfl rfl ?_
    intro h3 tk3 F3 x3
    have B3 := B'.store hz F3 x3
    obtain ⟨n1, n2, n3, n4, n5, n6⟩ := Tk.M
    obtain ⟨tn, hn⟩ := Tk.name
    have hcn := Tk.cnt k hk6
    have hln := Tk.len
    refine wpAny_mono (chInnerTurn (c := c) (o := k) (G := G) (ga := ga) (fd := fd) hBI hdp hun hc hk6 hkc hG1 hG2 Tk.txt (by omega) (by rw [ecc]; omega) (by rw [eo]; exact hp1) hcn (fun _ => rfl) X T C hG hfd hz hg0 hoc B3 ?sw ?le n1 n2 n3 hn (u := t) rfl n4 n5) (fun fl s4 q => ?_) (fun _ _ e => e)
    case sw => exact sortedW_of (fold_sw _ _ (by rw [hkm]; exact hsw))
    case le =>
      rw [(fold_perm _ _).length_eq, List.length_append, List.length_map, List.length_map, List.length_take]
      omega
    obtain ⟨rfl, h5, tk5, rfl, x5, B5⟩ := q
    have y5 : Ext (I :: z.all L rl) s.heap h5 := ((xE.trans (x'.m1 (.head _))).trans (x3.m1 (.tail _ (.head _)))).trans x5.mt
    refine hN' _ ⟨h5, tk5, (fun z => if z = Str.ofString "other" then some (Value.str { cps := nmA k } t) else m z), Hp Hi c k, rfl, y5, W.frame _ _ _ hst' (fun b hb o e => x5 b o (x3 b o e ?_) (hfpn b hb)), ⟨?_, ⟨n1, n2, n3, n4, n5, n6⟩, ⟨tn, hn⟩, Tk.names, ?_, ?_, ?_⟩⟩
    · intro q
      rw [List.mem_singleton] at q
      exact hfpn b hb (q ▸ .head _)
    · rw [LFi_succ hcts htsnd ek, List.take_add_one, ek, Option.toList_some, List.map_append, List.foldl_append]
      have en : LFi LF c ts ts.length k = LF k - 1 := by
        unfold LFi
        rw [if_neg hkc, List.take_length, if_pos hkm2]
      rw [eo] at B5 ⊢
      show Bag _ _ _ _ _ _ _ _ _ _ _ _ _ _ (insR (wd (LFi LF c ts ts.length k) (G k).2, ⟨nmA k⟩) _)
      rw [en]
      exact B5
    · intro j hj
      rw [LFi_succ hcts htsnd ek, gets_Hp Hi j hc hk6]
      have hj0 := Tk.cnt j hj
      have hp2 : 1 ≤ LFi LF c ts i c := by rw [ecc]; omega
      have hp3 : 1 ≤ LFi LF c ts i k := by rw [eo]; exact hp1
      unfold setF
      by_cases h1 : j = k
      · subst h1
        simp only [if_neg hkc, if_true, List.length_append, List.length_nil, List.length_singleton]
        omega
      · by_cases h2 : j = c
        · subst h2
          simp only [if_neg h1, if_true, List.length_append, List.length_nil, List.length_singleton]
          omega
        · simp only [if_neg h1, if_neg h2, List.length_append, List.length_nil]
          omega
    · intro q hq
      simp only [List.mem_append, List.mem_singleton] at hq
      rcases hq with (hq | rfl) | rfl
      · exact Tk.txt q hq
      · exact nm_texts hc
      · exact up_texts hk6
    · simp only [List.length_append, List.length_singleton]; omega
  case fin =>
    rintro s' h' tk ⟨h, tk0, m, Hn, rfl, xE, hst2, Tk⟩ x'
    refine wpAny_execs_nil (hQ _ _ ⟨rfl, h', m, tk, Hn, rfl, ext_drop (xE.trans (x'.m1 (.head _))) hI0, ⟨Tk.B.other x' (hIm _ h hst2) hIall hgI, Tk.M, Tk.name, Tk.names, Tk.cnt, Tk.txt, Tk.len⟩⟩)
end Mine
end
section
open PySem PySem.W PyProof.Rows PySem.Calls PySem.Spec PyProof.V
set_option maxRecDepth 100000
namespace Mine
theorem fillCh6 : (∀ w : World, hd.heap_39 w.params = hd.heap_39 w.params) ∧ PySem.Challenge.rw_uc0036_01.foot = 6 := by
  k_fill
  w_top off
  exact ⟨fun _ => rfl, rfl⟩
theorem row_hsw {G : Gs} {LF : Nat → Nat} {ks : List Nat} (hL6 : ∀ k, LF k < 6) (hG2 : ∀ k, (G k).2 < 4096) (h : SW (ks.map (prOf G LF))) :
    ∀ (i j : Nat) (p q : Rw), i ≤ j → (ks.map (prOf G LF))[i]? = some p → (ks.map (prOf G LF))[j]? = some q → ∃ b bs b' bs', p.1 = b :: bs ∧ q.1 = b' :: bs' ∧ b.toNat ≤ b'.toNat ∧ bs.length < 100 := by
  intro i j p q hij hp hq
  obtain ⟨hi, ei⟩ := List.getElem?_eq_some_iff.mp hp
  obtain ⟨hj, ej⟩ := List.getElem?_eq_some_iff.mp hq
  have hle : wlt q.1 p.1 = false := by
    rcases Nat.lt_or_eq_of_le hij with r | rfl
    · have := List.pairwise_iff_getElem.mp h i j hi hj r
      rw [ei, ej] at this; exact this
    · rw [hp] at hq; cases hq; exact wlt_irrefl _
  rw [List.getElem?_map] at hp hq
  obtain ⟨k, _, rfl⟩ := Option.map_eq_some_iff.mp hp
  obtain ⟨k', _, rfl⟩ := Option.map_eq_some_iff.mp hq
  obtain ⟨bs, e, hb⟩ := wd_head (hL6 k) (hG2 k)
  obtain ⟨bs', e', hb'⟩ := wd_head (hL6 k') (hG2 k')
  refine ⟨_, bs, _, bs', e, e', ?_, by omega⟩
  have := wd_le (hL6 k) (hL6 k') (hG2 k) (hG2 k') hle
  rw [toU_nat (hL6 k), toU_nat (hL6 k')]; omega
theorem prOf_nodup {G : Gs} {LF : Nat → Nat} {ks : List Nat} (h : ks.Nodup) : (ks.map (prOf G LF)).Nodup := by
  rw [List.nodup_iff_pairwise_ne, List.pairwise_map]
  refine (List.nodup_iff_pairwise_ne.mp h).imp fun {a b} hab q => hab ?_
  have := congrArg (fun p : Rw => p.2.cps) q
  simpa using this
theorem NmsAt.ext {h h' : Heap} {a : Addr} {ns : List Nat} {S : List Addr} (x : NmsAt h a ns) (k : Ext S h h') (hS : a ∉ S) : NmsAt h' a ns := by
  obtain ⟨vs, ⟨o, e, r⟩, hs⟩ := x
  exact ⟨vs, ⟨o, k _ _ e hS, r⟩, hs⟩
local macro_rules | `(tactic| k_all) => `(tactic| assumption)
local macro_rules | `(tactic| walk_at "eval Name") => `(tactic| (k_here; k_dflt (refine' nameX_L ?F ?v ?_ ?a ?b; (case F => k_asm); (case a => rfl); (case b => rfl); (case v => assumption); k_whole)))
local macro_rules | `(tactic| walk_at "call ref") => `(tactic| refine Mine.stop_in ?_)
local macro_rules | `(tactic| walk_at "eval Lambda") => `(tactic| refine Mine.stop_in ?_)
set_option maxHeartbeats 8000000 in
theorem chD {w : World} {p : Program} {loose : List Str} {mean : ExcName → Option Value} {mg mb : Str → Option Value} {dp un : Nat} {fr : Option (List Env)} {gd : Option (List Code)} {s : Shared} {B : List Stmt} (hB : B = chTurn w)
   {g : Heap} {L : Addr} {oc : Obj} {m : Str → Option Value} {z : Ad} {H : List Ln} {f : Nat → List (Array Nat)} {LF : Nat → Nat} {ga fd rl na : Addr} {c : Nat} {ns ks : List Nat} {row : List Rw} {G : Gs} {way : Int} {tc : Tok}
   (hdp : dp < 600) (hun : un < 4700) (hc : c < 6) (hns : ∀ k ∈ ns, k < 6) (hnd : ns.Nodup) (hnl : ns.length = 6) (hkl : ks.length = 6) (hknd : ks.Nodup) (hL6 : ∀ k, LF k < 6) (hG1 : ∀ k, (G k).1 < 6) (hG2 : ∀ k, (G k).2 < 4096)
   (hH : ∀ q ∈ H, q.1 ∈ texts) (hsz : H.length ≤ 900) (hcnt : (gets H (nmA c)).length + LF c = (G c).1) (hsw : SortedW row) (hrl : row.length ≤ 99)
   (hins : insL (prOf G LF c) row = ks.map (prOf G LF)) (hsort : sortR (ns.map (prOf G LF)) = ks.map (prOf G LF)) (hsw2 : SW (ks.map (prOf G LF)))
   (X : (hd.heap_39 w.params).In g) (T : Top p loose mean mg mb g) (C : CodeHd g 252 250) (C1 : CodeHd g 242 238) (C2 : CodeHd g 247 245) (hG : GAt g ga G)
   (hz : (z.all L rl).Nodup) (hg0 : ∀ a ∈ z.all L rl, g.get? a = none) (hoc : oc.data = .cell (some (.ref z.lf)))
   (B0 : Bag w g L oc z rl s.heap m H H f R6 LF 50 row) (nm : Nm m ga z fd rl way) (m7 : m (Str.ofString "name") = some (.str ⟨nmA c⟩ tc)) (m8 : m (Str.ofString "names") = some (.ref na))
   (hA : NmsAt s.heap na ns) (offA : na ∉ z.all L rl) :
   wpAny (MM w) (AA dp un fr gd) (execs (B.drop 11) (chEnv w L)) (fun fl s' => Stop (∃ h' m' tk, s' = { s with heap := h', toks := tk } ∧ fl = .next ∧ Ext (z.all L rl) s.heap h' ∧ Bag w g L oc z rl h' m' H H f R6 LF 50 (ks.map (prOf G LF)) ∧ Nm m' ga z fd rl way)) (fun _ _ => False) s := by
  subst hB
  conv in List.drop 11 (chTurn w) => whnf
  dsimp only [chEnv]
  conv in scopeAt w 253 => whnf
  refine post_out ?_
  intro Q hQ
  obtain ⟨m1, m2, m3, m4, m5, t6, m6⟩ := nm
  have F0 := B0.F
  obtain ⟨cs, hcs⟩ : ∃ cs, cs = rest g L s.heap [L + 1] := ⟨_, rfl⟩
  have N0 := B0.ledger
  rw [← hcs] at N0
  k_steps
  refine Mine.stop_out ?_
  have kp := B0.hideT hg0
  obtain ⟨hs9, n9, k9, edx⟩ := B0.W.dx
  obtain ⟨hi9, hn9, ehl, hln⟩ := B0.W.hl
  refine lawWord (H := H) (i := c) (G := G) (show dp < 700 by omega) (show un < 4800 by omega) hc hH (by omega) (X.keeps kp) (T.keeps kp) B0.W.tb edx ehl (hln.ext (ext_hide _ _) B0.W.mhl) (hG.keeps kp) (hG1 c) (hG2 c) (by omega) ?_
  intro h2 t2 tk2 x2
  rw [show (G c).1 - (gets H (nmA c)).length = LF c by omega]
  have B2 := B0.same x2
  clear F0 N0 hcs kp edx ehl hln
  have F2 := B2.F
  obtain ⟨cs2, hcs⟩ : ∃ cs, cs = rest g L h2 [L + 1] := ⟨_, rfl⟩
  have N2 := B2.ledger
  rw [← hcs] at N2
  k_steps
  rename Fr _ _ _ _ => F3
  rename News _ _ _ _ => N3
  refine Mine.stop_out ?_
  obtain ⟨x3, B3⟩ := B2.walk hz hoc F3 N3 (fun p hp => .tail _ (hcs ▸ hp))
  have P3 : PairAt _ (.ref _) (wd (LF c) (G c).2, ⟨nmA c⟩) := ⟨_, _, _, rfl, (N3 _ (.head _)).1⟩
  have M3 : Muts _ [250] := let ⟨_, e, q⟩ := B3.T.t3.mut; muts_one e q
  refine lamMake (qual := chQ) rfl rfl rfl rfl rfl B3.F T C (hg0 250 (sup0_in (tab_in (.inr (.inr rfl))))) B3.T.t3 ?_
  intro fn c' ctv pm h4 tk4 x4 hf0 hf1 hrec hT4
  have K4 : Lam0 h4 fn := ⟨_, _, _, _, _, _, _, _, hf1, hrec⟩
  have P4 := P3.ext x4 M3
  have B4 := B3.setTab hz hg0 (.inr (.inr ⟨rfl, rfl⟩)) x4 hT4
  clear F3 N3 hcs hf0 hf1 hrec hT4 P3 B2 B3 M3
  have F4 := B4.F
  obtain ⟨cs4, hcs⟩ : ∃ cs, cs = rest g L h4 [L + 1] := ⟨_, rfl⟩
  have N4 := B4.ledger
  rw [← hcs] at N4
  k_steps
  refine Mine.stop_out ?_
  obtain ⟨its, n4, e4, r4⟩ := B4.R
  have kp := B4.hide (S := [rl]) hg0 (fun a ha => by rw [List.mem_singleton] at ha; subst ha; exact rl_in)
  refine insLeft (n := n4) (show dp < 700 by omega) (show un < 4900 by omega) (X.keeps kp) (T.keeps kp) e4 r4 P4 K4 hrl hsw ?_
  intro h5 items5 n5 tk5 x5 e5 r5
  have r5' : RowAt h5 items5 (ks.map (prOf G LF)) := hins ▸ r5
  have B5 := B4.setRl hz hg0 x5 ⟨_, _, e5, r5'⟩
  clear F4 N4 hcs e4 r4 P4 K4 e5 r5 r5' kp B4
  have y5 : Ext (z.all L rl) s.heap h5 := ((x2.m0.trans (x3.m2 (at_ 0 rfl) (at_ 1 rfl))).trans (x4.m1 (at_ 10 rfl))).trans (x5.m1 (at_ 2 rfl))
  have A5 := hA.ext y5 offA
  clear x2 x3 x4 x5 B0 hA
  have F5 := B5.F
  obtain ⟨cs5, hcs⟩ : ∃ cs, cs = rest g L h5 [L + 1] := ⟨_, rfl⟩
  have N5 := B5.ledger
  rw [← hcs] at N5
  k_steps
  refine Mine.stop_out ?_
  have kp := B5.hide (S := [238]) hg0 (fun a ha => by rw [List.mem_singleton] at ha; subst ha; exact sup0_in (tab_in (.inl rfl)))
  obtain ⟨vs, ⟨oA, eA, hAr⟩, hAs⟩ := A5
  have nA : na ∉ [238] := fun q => by rw [List.mem_singleton] at q; subst q; exact offA (sup0_in (tab_in (.inl rfl)))
  refine due (G := G) (LF := LF) (ns := ns) (show dp < 700 by omega) (show un < 4800 by omega) hL6 hG2 (by omega) (by omega) hnd (X.keeps kp) (T.keeps kp) B5.T.t1 (hG.keeps kp) (((B5.D.sub fun i hi => R6_mem (hns i hi)).ext (ext_hide _ _) (ne_all hz 8 rfl _ 3 rfl (by decide))).at' (by omega))
    ⟨hns, .inr ⟨na, vs, rfl, ⟨oA, ext_hide _ _ _ _ eA nA, hAr⟩, hAs⟩⟩ (C1.keeps kp) ?_
  intro h6 D out n6 tk6 x6 hT6 hD0 hD1 rD
  rw [hsort] at rD
  have hDall : ∀ a ∈ z.all L rl, a ≠ D := fun a ha => let ⟨o, e⟩ := B5.sup0_there a ha; none_ne hD0 e
  have B6 := B5.setTab hz hg0 (.inl ⟨rfl, rfl⟩) x6 hT6
  clear F5 N5 hcs kp hAs hAr eA hT6
  have F6 := B6.F
  obtain ⟨cs6, hcs⟩ : ∃ cs, cs = rest g L h6 [L + 1] := ⟨_, rfl⟩
  have N6 := B6.ledger
  rw [← hcs] at N6
  have hkeep : True ∧ RowAt h6 out (ks.map (prOf G LF)) := ⟨trivial, rD⟩
  clear rD
  k_steps
  refine Mine.stop_out ?_
  have kp := B6.hide (S := [245]) hg0 (fun a ha => by rw [List.mem_singleton] at ha; subst ha; exact sup0_in (tab_in (.inr (.inl rfl))))
  obtain ⟨its6, n6', e6, r6⟩ := B6.R
  have M6 : Muts h6 [245] := let ⟨_, e, q⟩ := B6.T.t2.mut; muts_one e q
  refine right (rl := rl) (dl := D) (items := its6) (out := out) (ps := ks.map (prOf G LF)) (show dp < 700 by omega) (show un < 4800 by omega) (by rw [List.length_map]; omega) (by rw [List.length_map]; omega) (prOf_nodup hknd) (row_hsw hL6 hG2 hsw2) (X.keeps kp) (T.keeps kp) B6.T.t2 (C2.keeps kp)
    ⟨_, ext_hide _ _ _ _ e6 (ne_all hz 9 rfl _ 2 rfl (by decide)), rfl, _, rfl⟩ ⟨_, ext_hide _ _ _ _ hD1 (by rw [List.mem_singleton]; exact fun q => hDall 245 (sup0_in (tab_in (.inr (.inl rfl)))) q.symm), rfl, _, rfl⟩ (r6.ext (ext_hide _ _) M6) (hkeep.2.ext (ext_hide _ _) M6) ?_
  intro h7 tk7 x7 hT7
  have B7 := B6.setTab hz hg0 (.inr (.inl ⟨rfl, rfl⟩)) x7 hT7
  clear F6 N6 hcs e6 r6 kp hkeep
  have F7 := B7.F
  have N7 := B7.N
  k_steps
  exact hQ _ _ ⟨h7, _, _, rfl, rfl, (y5.trans (x6.m1 (at_ 8 rfl))).trans (x7.m1 (at_ 9 rfl)), B7, ⟨m1, m2, m3, m4, m5, t6, m6⟩⟩
end Mine
end
section
open PySem
set_option maxRecDepth 100000
namespace Mine
variable {G : Gs} {LF : Nat → Nat}
theorem asc_zero : ∀ (d : List Nat), d.Pairwise (· ≤ ·) → ∀ i (h : i < d.length), (d[i] = 0 ↔ i < (d.filter (· == 0)).length)
  | [], _, i, h => by simp at h
  | x :: r, hp, i, h => by
    obtain ⟨h1, h2⟩ := List.pairwise_cons.mp hp
    by_cases hx : x = 0
    · subst hx
      rw [List.filter_cons, if_pos (by rfl), List.length_cons]
      cases i with
      | zero => simp
      | succ i =>
        rw [List.getElem_cons_succ, asc_zero r h2 i (by simpa using h)]
        omega
    · have hr : r.filter (· == 0) = [] := by
        rw [List.filter_eq_nil_iff]
        intro a ha
        have := h1 a ha
        simp; omega
      rw [List.filter_cons, if_neg (by simpa using hx), hr, List.length_nil]
      cases i with
      | zero => simp [hx]
      | succ i =>
        rw [List.getElem_cons_succ]
        have := h1 _ (List.getElem_mem (l := r) (n := i) (by simpa using h))
        constructor
        · intro e; omega
        · intro e; omega
theorem sw_asc (hL : ∀ k, LF k < 6) (hG : ∀ k, (G k).2 < 4096) {ks : List Nat} (h : SW (ks.map (prOf G LF))) : (ks.map LF).Pairwise (· ≤ ·) := by
  unfold SW at h
  rw [List.pairwise_map] at h ⊢
  exact h.imp fun {a b} q => wd_le (hL a) (hL b) (hG a) (hG b) q
theorem zer_perm {ks : List Nat} (h : ks.Perm R6) : zer LF = (ks.filter fun k => LF k == 0).length := (h.filter _).length_eq.symm
theorem filt_map (ks : List Nat) : ((ks.map LF).filter (· == 0)).length = (ks.filter fun k => LF k == 0).length := by
  induction ks with
  | nil => rfl
  | cons a r ih => rw [List.map_cons, List.filter_cons, List.filter_cons]; split <;> simp [ih]
/-- what the sums of a turn tell -/
theorem turn_zero {c : Nat} {ks : List Nat} (hp : (c :: ks).Perm R6) (hL : ∀ k, LF k < 6) (hG : ∀ k, (G k).2 < 4096) (hsw : SW (ks.map (prOf G LF))) (hc : 1 ≤ LF c) : ∀ i (h : i < ks.length), (LF ks[i] = 0 ↔ i < zer LF) := by
  intro i h
  have h2 := asc_zero _ (sw_asc hL hG hsw) i (by simpa using h)
  rw [List.getElem_map, filt_map] at h2
  rw [h2, zer_perm hp, List.filter_cons, if_neg (by simp; omega)]
theorem eg_of {c : Nat} {ks : List Nat} (hp : (c :: ks).Perm R6) : EG (R6.map LF) = EG (LF c :: ks.map LF) := (EG_perm (hp.map LF)).symm
theorem turn_false {c : Nat} {ks : List Nat} (hp : (c :: ks).Perm R6) (hL : ∀ k, LF k < 6) (hG : ∀ k, (G k).2 < 4096) (hsw : SW (ks.map (prOf G LF))) (hc : 1 ≤ LF c) (hz : 5 < LF c + zer LF) : EG (R6.map LF) = false := by
  have hl : ks.length = 5 := by have := hp.length_eq; simpa using this
  have hc6 := hL c
  have st := eg_step (d := ks.map LF) (w := LF c) (by rw [List.length_map]; exact hl) (by intro x hx; obtain ⟨k, _, rfl⟩ := List.mem_map.mp hx; exact hL k) (sw_asc hL hG hsw) hc (by omega)
  have hz0 : (ks.map LF).getD (5 - LF c) 0 = 0 := by
    have hi : 5 - LF c < ks.length := by omega
    rw [List.getD_eq_getElem?_getD, List.getElem?_eq_getElem (by simpa using hi), Option.getD_some, List.getElem_map]
    exact (turn_zero hp hL hG hsw hc _ hi).mpr (by omega)
  unfold stepOk at st
  rw [if_pos hz0] at st
  rw [eg_of hp]; simpa using st
theorem turn_pos {c : Nat} {ks : List Nat} (hp : (c :: ks).Perm R6) (hL : ∀ k, LF k < 6) (hG : ∀ k, (G k).2 < 4096) (hsw : SW (ks.map (prOf G LF))) (hc : 1 ≤ LF c) (hz : LF c + zer LF ≤ 5) : ∀ k ∈ ks.drop (5 - LF c), 1 ≤ LF k := by
  intro k hk
  obtain ⟨i, hi⟩ := List.getElem?_of_mem hk
  rw [List.getElem?_drop] at hi
  obtain ⟨hi2, e⟩ := List.getElem?_eq_some_iff.mp hi
  have := turn_zero hp hL hG hsw hc _ hi2
  rw [e] at this
  rcases Nat.eq_zero_or_pos (LF k) with q | q
  · have := this.mp q; omega
  · exact q
theorem turn_next {c : Nat} {ks : List Nat} {LFn : Nat → Nat} (hp : (c :: ks).Perm R6) (hL : ∀ k, LF k < 6) (hG : ∀ k, (G k).2 < 4096) (hsw : SW (ks.map (prOf G LF))) (hc : 1 ≤ LF c) (hz : LF c + zer LF ≤ 5)
    (h0 : LFn c = 0) (h1 : ∀ k ∈ ks.take (5 - LF c), LFn k = LF k) (h2 : ∀ k ∈ ks.drop (5 - LF c), LFn k = LF k - 1) : EG (R6.map LFn) = EG (R6.map LF) ∧ zer LF + 1 ≤ zer LFn := by
  have hl : ks.length = 5 := by have := hp.length_eq; simpa using this
  have hc6 := hL c
  constructor
  · have st := eg_step (d := ks.map LF) (w := LF c) (by rw [List.length_map]; exact hl) (by intro x hx; obtain ⟨k, _, rfl⟩ := List.mem_map.mp hx; exact hL k) (sw_asc hL hG hsw) hc (by omega)
    have hz0 : ¬ (ks.map LF).getD (5 - LF c) 0 = 0 := by
      have hi : 5 - LF c < ks.length := by omega
      rw [List.getD_eq_getElem?_getD, List.getElem?_eq_getElem (by simpa using hi), Option.getD_some, List.getElem_map]
      intro q
      have := (turn_zero hp hL hG hsw hc _ hi).mp q
      omega
    unfold stepOk at st
    rw [if_neg hz0] at st
    rw [eg_of hp, eg_of hp, beq_iff_eq.mp st, h0]
    congr 1
    congr 1
    have e : ks.map LFn = (ks.take (5 - LF c)).map LFn ++ (ks.drop (5 - LF c)).map LFn := by rw [← List.map_append, List.take_append_drop]
    rw [e, ← List.map_take, ← List.map_drop, List.map_map]
    congr 1
    · exact List.map_congr_left h1
    · exact List.map_congr_left h2
  · rw [zer_perm hp, zer_perm hp, List.filter_cons, List.filter_cons, if_neg (by simp; omega), if_pos (by simpa using h0), List.length_cons]
    refine Nat.succ_le_succ ?_
    rw [← List.countP_eq_length_filter, ← List.countP_eq_length_filter]
    refine List.countP_mono_left fun k hk q => ?_
    have q' : LF k = 0 := by simpa using q
    rw [← List.take_append_drop (5 - LF c) ks] at hk
    rcases List.mem_append.mp hk with hk | hk
    · have := h1 k hk; simp; omega
    · have := h2 k hk; simp; omega
end Mine
end
section
open PySem PySem.W PyProof.Rows PySem.Calls PySem.Spec PyProof.V
set_option maxRecDepth 100000
namespace Mine
noncomputable abbrev wishes (G : Gs) : List Nat := R6.map fun k => (G k).1
/-- where a turn begins -/
structure Turn (w : World) (g : Heap) (L : Addr) (oc : Obj) (z : Ad) (rl : Addr) (h : Heap) (m : Str → Option Value) (H : List Ln) (LF : Nat → Nat) (G : Gs) (ks : List Nat) (ga fd : Addr) (way : Int) (i : Nat) : Prop where
  nd : (z.all L rl).Nodup
  no : ∀ a ∈ z.all L rl, g.get? a = none
  B : Bag w g L oc z rl h m H H (fun k => gets H (nmA k)) R6 LF 50 (ks.map (prOf G LF))
  M : Nm m ga z fd rl way
  perm : ks.Perm R6
  sw : SW (ks.map (prOf G LF))
  l6 : ∀ k, LF k < 6
  cnt : ∀ k, k < 6 → (gets H (nmA k)).length + LF k = (G k).1
  txt : ∀ q ∈ H, q.1 ∈ texts
  len : H.length ≤ 1 + 10 * i
  zer : i ≤ zer LF
  eg : EG (R6.map LF) = EG (wishes G)
/-- how it ends -/
structure Done (h : Heap) (z : Ad) (H : List Ln) : Prop where
  W : Ws h z H H (fun k => gets H (nmA k))
  T : Tabs h
  txt : ∀ q ∈ H, q.1 ∈ texts
  len : H.length ≤ 100
theorem R6_lt : ∀ k ∈ R6, k < 6 := by decide
theorem split4 {α : Type} (l : List α) : l = l.take 3 ++ ((l.drop 3).take 7 ++ ((l.drop 10).take 1 ++ l.drop 11)) := by
  have e1 : (l.drop 3).drop 7 = l.drop 10 := by rw [List.drop_drop]
  have e2 : (l.drop 10).drop 1 = l.drop 11 := by rw [List.drop_drop]
  rw [← e2, List.take_append_drop, ← e1, List.take_append_drop, List.take_append_drop]
theorem ext_swap {h0 h1 h2 : Heap} {L rl rl2 : Addr} {z : Ad} (x : Ext (z.all L rl) h0 h1) (y : Ext (z.all L rl2) h1 h2) (e : h0.get? rl2 = none) : Ext (z.all L rl) h0 h2 := fun b o eb hb => y b o (x b o eb hb) fun q => by
  rcases List.mem_cons.mp q with q | q
  · exact hb (q ▸ .head _)
  rcases List.mem_cons.mp q with q | q
  · exact hb (q ▸ .tail _ (.head _))
  rcases List.mem_cons.mp q with q | q
  · rw [q, e] at eb; cases eb
  · exact hb (.tail _ (.tail _ (.tail _ q)))
set_option maxHeartbeats 4000000 in
theorem chTurnAll {w : World} {p : Program} {loose : List Str} {mean : ExcName → Option Value} {mg mb : Str → Option Value} {dp un : Nat} {fr : Option (List Env)} {gd : Option (List Code)} {s : Shared} {B : List Stmt} (hB : B = chTurn w)
   {g : Heap} {L : Addr} {oc : Obj} {m : Str → Option Value} {z : Ad} {H : List Ln} {LF : Nat → Nat} {ga fd rl : Addr} {ks : List Nat} {G : Gs} {way : Int} {i : Nat}
   (hdp : dp < 600) (hun : un < 4700) (hi : i < 7) (hG1 : ∀ k, (G k).1 < 6) (hG2 : ∀ k, (G k).2 < 4096)
   (X : (hd.heap_39 w.params).In g) (T : Top p loose mean mg mb g) (C : CodeHd g 252 250) (C1 : CodeHd g 242 238) (C2 : CodeHd g 247 245) (hG : GAt g ga G) (hfd : FdAt w g fd z.fl) (hoc : oc.data = .cell (some (.ref z.lf)))
   (S : Turn w g L oc z rl s.heap m H LF G ks ga fd way i) :
   wpAny (MM w) (AA dp un fr gd) (execs B (chEnv w L)) (fun fl s' => ∃ h' tk, s' = { s with heap := h', toks := tk } ∧ Ext (z.all L rl) s.heap h' ∧
     ((fl = .next ∧ ∃ rl' m' H' LF' ks' way', Turn w g L oc z rl' h' m' H' LF' G ks' ga fd way' (i + 1) ∧ (rl' = rl ∨ s.heap.get? rl' = none)) ∨ (fl = .ret (.bool (EG (wishes G))) ∧ ∃ H', Done h' z H'))) (fun _ _ => False) s := by
  refine post_out ?_
  intro Q hQ
  rw [split4 B]
  have hBF : (B.drop 10).take 1 = chFor w := by rw [hB]; rfl
  have hsz := S.len
  refine execs_app (wpAny_mono (chA hB hdp hun hG2 S.l6 S.perm S.sw X T C S.nd S.no hoc S.B S.M) (fun fl s1 q => ?_) fun _ _ e => e)
  obtain ⟨h1, m1, tk1, rfl, x1, B1, M1, q⟩ := q
  rcases q.symm with ⟨rfl, hz6⟩ | ⟨rfl, hz6, hzf, tf, mf⟩
  · refine hQ _ _ ⟨h1, tk1, rfl, x1, .inr ⟨?_, H, B1.W, B1.T, S.txt, by omega⟩⟩
    rw [← S.eg, eg_all hz6]
  refine execs_app (wpAny_mono (chB hB hdp hun hG2 S.l6 S.perm hz6 hzf X T C S.nd S.no hoc B1 M1 mf) (fun fl s2 q => ?_) fun _ _ e => e)
  obtain ⟨h2, m2, tk2, rfl, x2, c, ks5, hcp, hsub, hc1, q⟩ := q
  have hp6 : (c :: ks5).Perm R6 := hcp.symm.trans S.perm
  have sw5 : SW (ks5.map (prOf G LF)) := List.Pairwise.sublist (hsub.map _) S.sw
  rcases q with ⟨rfl, h5, ps', B2⟩ | ⟨rfl, h5, rl2, na, ta, E2⟩
  · refine hQ _ _ ⟨h2, tk2, rfl, x1.trans x2, .inr ⟨?_, H, B2.W, B2.T, S.txt, by omega⟩⟩
    rw [← S.eg, turn_false hp6 S.l6 hG2 sw5 hc1 h5]
  have hl5 : ks5.length = 5 := by have := hp6.length_eq; simpa using this
  have hnd6 : (c :: ks5).Nodup := hp6.nodup_iff.mpr (by decide)
  have hm6 : ∀ k ∈ c :: ks5, k < 6 := fun k hk => R6_lt k (hp6.mem_iff.mp hk)
  have hcks := (List.nodup_cons.mp hnd6).1
  have hnd5 := (List.nodup_cons.mp hnd6).2
  have hc6 := S.l6 c
  have htl : (ks5.drop (5 - LF c)).length = LF c := by rw [List.length_drop]; omega
  have hkt : ks5.take (5 - LF c) ++ ks5.drop (5 - LF c) = ks5 := List.take_append_drop _ _
  have hmk : ∀ k ∈ ks5.take (5 - LF c), k ∈ ks5 := fun k hk => List.mem_of_mem_take hk
  have hmt : ∀ k ∈ ks5.drop (5 - LF c), k ∈ ks5 := fun k hk => List.mem_of_mem_drop hk
  have hndkt : (ks5.take (5 - LF c) ++ ks5.drop (5 - LF c)).Nodup := by rw [hkt]; exact hnd5
  have swk : SW ((ks5.take (5 - LF c)).map (prOf G LF)) := List.Pairwise.sublist ((List.take_sublist _ _).map _) sw5
  refine execs_app (wpAny_mono (chC hBF hdp hun (hm6 c (.head _)) (fun k hk => hm6 k (.tail _ (hmt k hk))) (fun q => hcks (hmt _ q)) (fun q => hcks (hmk _ q)) hndkt (by rw [List.length_take, htl]; omega) htl (turn_pos hp6 S.l6 hG2 sw5 hc1 h5) hG1 hG2
    S.txt (by omega) S.cnt swk X T C hG hfd E2.nd E2.no hoc E2.B E2.M E2.name E2.names E2.taken E2.K E2.offK) (fun fl s3 q => ?_) fun _ _ e => e)
  obtain ⟨rfl, h3, m3, tk3, Hn, rfl, x3, K⟩ := q
  obtain ⟨tc, m7⟩ := K.name
  have A3 := E2.A.ext x3 E2.offA
  rw [htl] at K
  have hLn0 : LFi LF c (ks5.drop (5 - LF c)) (LF c) c = 0 := by unfold LFi; rw [if_pos rfl]; omega
  have hLnk : ∀ k ∈ ks5.take (5 - LF c), LFi LF c (ks5.drop (5 - LF c)) (LF c) k = LF k := fun k hk => by
    unfold LFi
    rw [if_neg (show ¬ k = c from fun q => hcks (q ▸ hmk k hk)), if_neg]
    intro q
    exact (List.nodup_append.mp hndkt).2.2 k hk k (List.mem_of_mem_take q) rfl
  have hLnt : ∀ k ∈ ks5.drop (5 - LF c), LFi LF c (ks5.drop (5 - LF c)) (LF c) k = LF k - 1 := fun k hk => by
    unfold LFi
    rw [if_neg (show ¬ k = c from fun q => hcks (q ▸ hmt k hk)), if_pos]
    rw [List.take_of_length_le (by omega)]; exact hk
  have hLn6 := LFi_lt S.l6 c (ks5.drop (5 - LF c)) (LF c)
  obtain ⟨heg, hzer⟩ := turn_next hp6 S.l6 hG2 sw5 hc1 h5 hLn0 hLnk hLnt
  have KB := K.B
  have Kc := K.cnt
  have Klen := K.len
  rw [htl, List.take_of_length_le (show (ks5.drop (5 - LF c)).length ≤ LF c by omega)] at KB
  generalize hLFn : LFi LF c (ks5.drop (5 - LF c)) (LF c) = LFn at KB Kc hLn0 hLnk hLnt hLn6 heg hzer
  have swkn : SW ((ks5.take (5 - LF c)).map (prOf G LFn)) := by
    have : (ks5.take (5 - LF c)).map (prOf G LFn) = (ks5.take (5 - LF c)).map (prOf G LF) := List.map_congr_left fun k hk => by
      show (wd _ _, _) = (wd _ _, _)
      rw [hLnk k hk]
    rw [this]; exact swk
  have hsort := sortR_turn (prOf G LFn c) ((ks5.take (5 - LF c)).map (prOf G LFn)) ((ks5.drop (5 - LF c)).map (prOf G LFn)) swkn
  rw [← List.map_append, hkt, ← List.map_cons (f := prOf G LFn) (a := c)] at hsort
  have hswr := fold_sw ((ks5.drop (5 - LF c)).map (prOf G LFn)) _ swkn
  have hpr := fold_perm ((ks5.drop (5 - LF c)).map (prOf G LFn)) ((ks5.take (5 - LF c)).map (prOf G LFn))
  rw [← List.map_append, hkt] at hpr
  generalize hrow : ((ks5.drop (5 - LF c)).map (prOf G LFn)).foldl (fun a p => insR p a) ((ks5.take (5 - LF c)).map (prOf G LFn)) = row at KB hsort hswr hpr
  obtain ⟨ks2, hk2, hins⟩ := perm_map_ex (f := prOf G LFn) ((insL_perm (prOf G LFn c) row).trans (hpr.cons _)) (c :: ks5) rfl
  have hk6 := hk2.trans hp6
  have hsw2 : SW (ks2.map (prOf G LFn)) := hins ▸ insL_sw (prOf G LFn c) row hswr
  rw [hins] at hsort
  refine wpAny_mono (chD (way := way.fdiv 6) (tc := tc) (ns := c :: ks5) (ks := ks2) (row := row) hB hdp hun (hm6 c (.head _)) hm6 hnd6 (by rw [List.length_cons]; omega) (by have := hk6.length_eq; simpa using this) (hk6.nodup_iff.mpr (by decide)) hLn6 hG1 hG2 K.txt (by omega) (Kc c (hm6 c (.head _))) (sortedW_of hswr)
    (by rw [hpr.length_eq, List.length_map]; omega) hins hsort hsw2 X T C C1 C2 hG E2.nd E2.no hoc KB K.M m7 K.names A3 E2.offA) (fun fl s4 q => ?_) fun _ _ e => e
  obtain ⟨h4, m4, tk4, rfl, rfl, x4, B4, M4⟩ := q
  have e0 : s.heap.get? rl2 = none := by
    cases q : s.heap.get? rl2 with
    | none => rfl
    | some o =>
      by_cases hrl : rl2 ∈ z.all L rl
      · obtain ⟨o', e⟩ := B1.sup0_there _ hrl
        have := E2.new; rw [e] at this; cases this
      · have e := x1 _ _ q hrl
        have := E2.new; rw [e] at this; cases this
  refine hQ _ _ ⟨h4, tk4, rfl, ext_swap (ext_swap (x1.trans x2) x3 e0) x4 e0, .inl ⟨rfl, rl2, m4, Hn, LFn, ks2, way.fdiv 6, ⟨E2.nd, E2.no, B4, M4, hk6, hsw2, hLn6, Kc, K.txt, by omega, ?_, heg.trans S.eg⟩, .inr e0⟩⟩
  have := S.zer
  omega
end Mine
end
section
open PySem PySem.W PyProof.Rows PySem.Calls PySem.Spec PyProof.V
set_option maxRecDepth 100000
namespace Mine
local macro_rules | `(tactic| walk_at "nothing 0") => `(tactic| skip)
theorem fillCh8 : (∀ w : World, hd.heap_39 w.params = hd.heap_39 w.params) ∧ PySem.Challenge.rw_uc0036_01.foot = 6 := by
  k_fill
  w_top off
  exact ⟨fun _ => rfl, rfl⟩
local macro_rules | `(tactic| k_all) => `(tactic| assumption)
local macro_rules | `(tactic| walk_at "eval Name") => `(tactic| (k_here; k_dflt (refine' nameX_L ?F ?v ?_ ?a ?b; (case F => k_asm); (case a => rfl); (case b => rfl); (case v => assumption); k_whole)))
local macro_rules | `(tactic| walk_at "call ref") => `(tactic| refine Mine.stop_in ?_)
local macro_rules | `(tactic| walk_at "exec For") => `(tactic| refine Mine.stop_in ?_)
set_option maxHeartbeats 8000000 in
theorem chP0 {w : World} {p : Program} {loose : List Str} {mean : ExcName → Option Value} {mg mb : Str → Option Value} {dp un : Nat} {fr : Option (List Env)} {gd : Option (List Code)} {s : Shared} {B : List Stmt} (hB : B = bodyAt w 253)
   {g : Heap} {L : Addr} {oc0 : Obj} {m : Str → Option Value} {z : Ad} {ga fd : Addr} {way : Int} {tw : Tok} {D : List (Addr × Obj)}
   (X : (hd.heap_39 w.params).In g) (T : Top p loose mean mg mb g) (F0 : Fr g L s.heap m) (N0 : News g L s.heap ((L + 1, oc0) :: D)) (hoc : oc0.data = .cell none) (hD : ∀ p ∈ D, p.1 ≠ L + 1)
   (m1 : m (Str.ofString "guests") = some (.ref ga)) (m2 : m (Str.ofString "table") = some (.ref z.tb)) (m4 : m (Str.ofString "laid") = some (.ref z.ld)) (m5 : m (Str.ofString "found") = some (.ref fd)) (m6 : m (Str.ofString "way") = some (.int way tw)) :
   wpAny (MM w) (AA dp un fr gd) (execs (B.take 2) (chEnv w L)) (fun fl s' => Stop (∃ h' m' tk lf rl oc od, fl = .next ∧ s' = { s with heap := h', toks := tk } ∧ Fr g L h' m' ∧ News g L h' ((rl, lstO #[] 0) :: (lf, od) :: (L + 1, oc) :: D) ∧ od.IsDictOf (strKind PySem.Challenge.rw_uc0036_01.prog w) [] ∧ oc.data = .cell (some (.ref lf)) ∧ L + 1 < lf ∧ lf < rl ∧ Nm m' ga z fd rl way)) (fun _ _ => False) s := by
  subst hB
  conv in List.take 2 (bodyAt w 253) => whnf
  dsimp only [chEnv]
  conv in scopeAt w 253 => whnf
  refine post_out ?_
  intro Q hQ
  simp only [List.take_succ_cons, List.take_zero]
  k_steps
  rename Fr _ _ _ _ => F1
  rename News _ _ _ _ => N1
  have la := ‹L + 1 < _ ∧ AllLt _ D›
  have lb := ‹_ < _ ∧ L + 1 < _ ∧ AllLt _ D›
  exact hQ _ _ ⟨_, _, _, _, _, _, _, rfl, rfl, F1, N1, by assumption, by assumption, la.1, lb.1, ⟨m1, m2, rfl, m4, m5, tw, m6⟩⟩
noncomputable def chFor1 (w : World) : List Stmt := [chStmt w 2]
/-- what is known after i of the guests -/
structure Inits (w : World) (g : Heap) (L : Addr) (oc : Obj) (z : Ad) (rl : Addr) (h : Heap) (m : Str → Option Value) (H : List Ln) (G : Gs) (ns : List Nat) (ga fd : Addr) (way : Int) (i : Nat) : Prop where
  B : ∃ dom, (∀ k ∈ ns.take i, k ∈ dom) ∧ Bag w g L oc z rl h m H H (fun k => gets H (nmA k)) dom (fun k => (G k).1) i (sortR ((ns.take i).map (prOf G fun k => (G k).1)))
  M : Nm m ga z fd rl way
theorem sortR_snoc (ps : List Rw) (p : Rw) : sortR (ps ++ [p]) = insR p (sortR ps) := by unfold sortR; rw [List.foldl_append]; rfl
theorem sortR_sw (ps : List Rw) : SW (sortR ps) := fold_sw ps [] List.Pairwise.nil
theorem sortR_perm (ps : List Rw) : (sortR ps).Perm ps := by unfold sortR; simpa using fold_perm ps []
theorem setF_same (F : Nat → Nat) (k : Nat) : setF F k (F k) = F := by
  funext j; unfold setF; split
  · rename_i h; rw [h]
  · rfl
noncomputable abbrev Ns6 : List Nat := [3, 1, 5, 0, 2, 4]
set_option maxHeartbeats 4000000 in
theorem chInitAll {w : World} {p : Program} {loose : List Str} {mean : ExcName → Option Value} {mg mb : Str → Option Value} {dp un : Nat} {fr : Option (List Env)} {gd : Option (List Code)} {s : Shared} {B : List Stmt} (hB : B = chFor1 w)
   {g : Heap} {L : Addr} {oc : Obj} {m : Str → Option Value} {z : Ad} {H : List Ln} {ga fd rl : Addr} {G : Gs} {way : Int}
   (hdp : dp < 600) (hun : un < 4700) (hG1 : ∀ k, (G k).1 < 6) (hG2 : ∀ k, (G k).2 < 4096) (hH : ∀ q ∈ H, q.1 ∈ texts) (hsz : H.length ≤ 500) (hcnt : ∀ k, k < 6 → gets H (nmA k) = [])
   (X : (hd.heap_39 w.params).In g) (T : Top p loose mean mg mb g) (C : CodeHd g 252 250) (hG : GAt g ga G)
   (hz : (z.all L rl).Nodup) (hg0 : ∀ a ∈ z.all L rl, g.get? a = none) (hoc : oc.data = .cell (some (.ref z.lf)))
   (S : Inits w g L oc z rl s.heap m H G Ns6 ga fd way 0) :
   wpAny (MM w) (AA dp un fr gd) (execs B (chEnv w L)) (fun fl s' => fl = .next ∧ ∃ h' m' tk, s' = { s with heap := h', toks := tk } ∧ Ext (z.all L rl) s.heap h' ∧ Inits w g L oc z rl h' m' H G Ns6 ga fd way 6) (fun _ _ => False) s := by
  subst hB
  refine post_out ?_
  intro Q hQ
  have hfor : ∃ x px pos it, chFor1 w = [.For (.Name (Str.ofString "name") px) (.Constant (.str (Str.ofString "dbface")) 0 x) (chInit w) [] pos] ∧ it = pos := ⟨_, _, _, _, rfl, rfl⟩
  obtain ⟨px, px2, pos, _, hfor, _⟩ := hfor
  obtain ⟨BI, hBI⟩ : ∃ B, B = chInit w := ⟨_, rfl⟩
  rw [hfor, ← hBI]
  obtain ⟨dom0, hd0, B0⟩ := S.B
  refine wpAny_execs_cons ?_
  refine forW rfl (wpAny_Constant_str ?_)
  refine iterNames rfl (ns := Ns6) ⟨by decide, .inl ⟨_, rfl⟩⟩ ?_
  intro I fp wr P St h2 W hP hst x2 hwr hI0 hfp hIm
  subst hwr
  have hgI : ∀ a ∈ [I], g.get? a = none := fun a ha => by
    rw [List.mem_singleton] at ha; subst ha
    cases q : g.get? a with
    | none => rfl
    | some o => have := B0.F.keep _ _ q; rw [hI0] at this; cases this
  have hIall : ∀ a ∈ z.all L rl, a ∉ [I] := fun a ha q => by
    rw [List.mem_singleton] at q; subst q
    obtain ⟨o, e⟩ := B0.sup0_there a ha
    rw [hI0] at e; cases e
  have hfpn : ∀ b ∈ fp, b ∉ z.all L rl := fun b hb q => by
    rcases hfp b hb with rfl | e
    · exact hIall _ q (.head _)
    · cases e
  refine ⟨I, fp, [I], 6, P, St, fun i s' => ∃ h tk m, s' = { s with heap := h, toks := tk } ∧ Ext (I :: z.all L rl) s.heap h ∧ St i h ∧ Inits w g L oc z rl h m H G Ns6 ga fd way i, rfl, W, ?j0, ?jst, ?step, ?fin⟩
  case j0 => exact ⟨h2, _, m, rfl, x2.m0, hst, ⟨⟨dom0, hd0, B0.same x2⟩, S.M⟩⟩
  case jst =>
    rintro i s' ⟨h, tk, m, rfl, _, hst, _⟩
    exact hst
  case step =>
    intro i s' v h' tk hi hJ hPv hst' x'
    refine step_out ?_
    intro Q' hN' _
    obtain ⟨h, tk0, m, rfl, xE, hst2, Tk⟩ := hJ
    dsimp only
    obtain ⟨k, t, ek, rfl⟩ := hP i v hPv
    have hk6 : k < 6 := (by decide : ∀ k ∈ Ns6, k < 6) k (List.mem_of_getElem? ek)
    obtain ⟨dom, hdm, B⟩ := Tk.B
    have B' := B.other x' (hIm i h hst2) hIall hgI
    refine store_L (env := chEnv w L) (y := Str.ofString "name") B'.F rfl rfl ?_
    intro h3 tk3 F3 x3
    have B3 := B'.store hz F3 x3
    obtain ⟨n1, n2, n3, n4, n5, n6⟩ := Tk.M
    refine wpAny_mono (chInitTurn (k := k) (G := G) (ga := ga) hBI hdp hun hk6 hG1 hG2 hH (by omega) (hcnt k hk6) X T C hG hz hg0 hoc B3 (by omega) (sortedW_of (sortR_sw _)) ?le n1 n2 n3 (t := t) rfl) (fun fl s4 q => ?_) (fun _ _ e => e)
    case le =>
      rw [(sortR_perm _).length_eq, List.length_map, List.length_take]
      exact Nat.le_trans (Nat.min_le_right _ _) (by decide)
    obtain ⟨rfl, h5, tk5, rfl, x5, B5⟩ := q
    have y5 : Ext (I :: z.all L rl) s.heap h5 := ((xE.trans (x'.m1 (.head _))).trans (x3.m1 (.tail _ (.head _)))).trans x5.mt
    refine hN' _ ⟨h5, tk5, (fun z => if z = Str.ofString "name" then some (Value.str { cps := nmA k } t) else m z), rfl, y5, W.frame _ _ _ hst' (fun b hb o e => x5 b o (x3 b o e ?_) (hfpn b hb)), ⟨⟨k :: dom, ?_, ?_⟩, ⟨n1, n2, n3, n4, n5, n6⟩⟩⟩
    · intro q
      rw [List.mem_singleton] at q
      exact hfpn b hb (q ▸ .head _)
    · intro j hj
      rw [List.take_add_one, ek, Option.toList_some] at hj
      rcases List.mem_append.mp hj with hj | hj
      · exact .tail _ (hdm j hj)
      · rw [List.mem_singleton] at hj; subst hj; exact .head _
    · rw [List.take_add_one, ek, Option.toList_some, List.map_append, List.map_singleton, sortR_snoc]
      have := setF_same (fun k => (G k).1) k
      rw [this] at B5
      exact B5
  case fin =>
    rintro s' h' tk ⟨h, tk0, m, rfl, xE, hst2, Tk⟩ x'
    obtain ⟨dom, hdm, B⟩ := Tk.B
    exact wpAny_execs_nil (hQ _ _ ⟨rfl, h', m, tk, rfl, ext_drop (xE.trans (x'.m1 (.head _))) hI0, ⟨⟨dom, hdm, B.other x' (hIm _ h hst2) hIall hgI⟩, Tk.M⟩⟩)
set_option maxHeartbeats 8000000 in
theorem chP2 {w : World} {p : Program} {loose : List Str} {mean : ExcName → Option Value} {mg mb : Str → Option Value} {dp un : Nat} {fr : Option (List Env)} {gd : Option (List Code)} {s : Shared} {B : List Stmt} (hB : B = bodyAt w 253)
   {g : Heap} {L : Addr} {oc : Obj} {m : Str → Option Value} {z : Ad} {H : List Ln} {f : Nat → List (Array Nat)} {dom : List Nat} {LF : Nat → Nat} {b : Nat} {ga fd rl : Addr} {ks : List Nat} {G : Gs} {way : Int}
   (hdp : dp < 600) (hun : un < 4700) (hL6 : ∀ k, LF k < 6) (hG2 : ∀ k, (G k).2 < 4096) (hb : b ≤ 100) (hdom : ∀ k ∈ Ns6, k ∈ dom) (hkl : ks.length = 6) (hknd : ks.Nodup)
   (hsort : sortR (Ns6.map (prOf G LF)) = ks.map (prOf G LF)) (hsw2 : SW (ks.map (prOf G LF)))
   (X : (hd.heap_39 w.params).In g) (T : Top p loose mean mg mb g) (C1 : CodeHd g 242 238) (C2 : CodeHd g 247 245) (hG : GAt g ga G)
   (hz : (z.all L rl).Nodup) (hg0 : ∀ a ∈ z.all L rl, g.get? a = none) (hoc : oc.data = .cell (some (.ref z.lf)))
   (B5 : Bag w g L oc z rl s.heap m H H f dom LF b (ks.map (prOf G LF))) (nm : Nm m ga z fd rl way) :
   wpAny (MM w) (AA dp un fr gd) (execs ((B.drop 3).take 1) (chEnv w L)) (fun fl s' => Stop (∃ h' m' tk, s' = { s with heap := h', toks := tk } ∧ fl = .next ∧ Ext (z.all L rl) s.heap h' ∧ Bag w g L oc z rl h' m' H H f dom LF b (ks.map (prOf G LF)) ∧ Nm m' ga z fd rl way)) (fun _ _ => False) s := by
  subst hB
  conv in List.take 1 (List.drop 3 (bodyAt w 253)) => whnf
  dsimp only [chEnv]
  conv in scopeAt w 253 => whnf
  refine post_out ?_
  intro Q hQ
  simp only [List.take_succ_cons, List.take_zero]
  obtain ⟨m1, m2, m3, m4, m5, t6, m6⟩ := nm
  have F5 := B5.F
  obtain ⟨cs5, hcs⟩ : ∃ cs, cs = rest g L s.heap [L + 1] := ⟨_, rfl⟩
  have N5 := B5.ledger
  rw [← hcs] at N5
  k_steps
  refine Mine.stop_out ?_
  have kp := B5.hide (S := [238]) hg0 (fun a ha => by rw [List.mem_singleton] at ha; subst ha; exact sup0_in (tab_in (.inl rfl)))
  refine due (G := G) (LF := LF) (ns := Ns6) (show dp < 700 by omega) (show un < 4800 by omega) hL6 hG2 (by decide) (by decide) (by decide) (X.keeps kp) (T.keeps kp) B5.T.t1 (hG.keeps kp) (((B5.D.sub hdom).ext (ext_hide _ _) (ne_all hz 8 rfl _ 3 rfl (by decide))).at' hb)
    ⟨by decide, .inl ⟨_, rfl⟩⟩ (C1.keeps kp) ?_
  intro h6 D out n6 tk6 x6 hT6 hD0 hD1 rD
  rw [hsort] at rD
  have hDall : ∀ a ∈ z.all L rl, a ≠ D := fun a ha => let ⟨o, e⟩ := B5.sup0_there a ha; none_ne hD0 e
  have B6 := B5.setTab hz hg0 (.inl ⟨rfl, rfl⟩) x6 hT6
  clear F5 N5 hcs kp hT6
  have F6 := B6.F
  obtain ⟨cs6, hcs⟩ : ∃ cs, cs = rest g L h6 [L + 1] := ⟨_, rfl⟩
  have N6 := B6.ledger
  rw [← hcs] at N6
  have hkeep : True ∧ RowAt h6 out (ks.map (prOf G LF)) := ⟨trivial, rD⟩
  clear rD
  k_steps
  refine Mine.stop_out ?_
  have kp := B6.hide (S := [245]) hg0 (fun a ha => by rw [List.mem_singleton] at ha; subst ha; exact sup0_in (tab_in (.inr (.inl rfl))))
  obtain ⟨its6, n6', e6, r6⟩ := B6.R
  have M6 : Muts h6 [245] := let ⟨_, e, q⟩ := B6.T.t2.mut; muts_one e q
  refine right (rl := rl) (dl := D) (items := its6) (out := out) (ps := ks.map (prOf G LF)) (show dp < 700 by omega) (show un < 4800 by omega) (by rw [List.length_map]; omega) (by rw [List.length_map]; omega) (prOf_nodup hknd) (row_hsw hL6 hG2 hsw2) (X.keeps kp) (T.keeps kp) B6.T.t2 (C2.keeps kp)
    ⟨_, ext_hide _ _ _ _ e6 (ne_all hz 9 rfl _ 2 rfl (by decide)), rfl, _, rfl⟩ ⟨_, ext_hide _ _ _ _ hD1 (by rw [List.mem_singleton]; exact fun q => hDall 245 (sup0_in (tab_in (.inr (.inl rfl)))) q.symm), rfl, _, rfl⟩ (r6.ext (ext_hide _ _) M6) (hkeep.2.ext (ext_hide _ _) M6) ?_
  intro h7 tk7 x7 hT7
  have B7 := B6.setTab hz hg0 (.inr (.inl ⟨rfl, rfl⟩)) x7 hT7
  clear F6 N6 hcs e6 r6 kp hkeep
  have F7 := B7.F
  have N7 := B7.N
  k_steps
  exact hQ _ _ ⟨h7, _, _, rfl, rfl, (x6.m1 (at_ 8 rfl)).trans (x7.m1 (at_ 9 rfl)), B7, ⟨m1, m2, m3, m4, m5, t6, m6⟩⟩
noncomputable def iterOf : Stmt → Expr
  | .For _ it _ _ _ => it
  | _ => .Constant .none 0 default
noncomputable def chIter (w : World) : Expr := iterOf (chStmt w 4)
set_option maxHeartbeats 8000000 in
theorem chRange {w : World} {p : Program} {loose : List Str} {mean : ExcName → Option Value} {mg mb : Str → Option Value} {dp un : Nat} {fr : Option (List Env)} {gd : Option (List Code)} {s : Shared} {g : Heap} {L : Addr} {m : Str → Option Value} {news : List (Addr × Obj)}
   (X : (hd.heap_39 w.params).In g) (T : Top p loose mean mg mb g) (F0 : Fr g L s.heap m) (N0 : News g L s.heap news) :
   wpAny (MM w) (AA dp un fr gd) (eval (chIter w) (chEnv w L)) (fun xv s' => Stop (∃ r h' tk t u v, xv = .ref r ∧ s' = { s with heap := h', toks := tk } ∧ Ext [] s.heap h' ∧ IsRange h' r 0 7 1 t u v)) (fun _ _ => False) s := by
  conv in chIter w => whnf
  dsimp only [chEnv]
  conv in scopeAt w 253 => whnf
  refine post_out ?_
  intro Q hQ
  k_steps
  have hr := ‹IsRange _ _ 0 7 1 _ _ _›
  have hk := ‹∀ (b : Addr) (o : Obj), _ → _›
  exact hQ _ _ ⟨_, _, _, _, _, _, rfl, rfl, ext_of_keep hk, hr⟩
end Mine
end
section
open PySem PySem.W PyProof.Rows PySem.Calls PySem.Spec PyProof.V
set_option maxRecDepth 100000
namespace Mine
noncomputable def chFor2 (w : World) : List Stmt := [chStmt w 4]
theorem new_of {z : Ad} {hs h : Heap} {r : Addr} (x : Ext z.sup0 hs h) (ht : ∀ a ∈ z.sup0, ∃ o, h.get? a = some o) (e : h.get? r = none) : hs.get? r = none := by
  cases q : hs.get? r with
  | none => rfl
  | some o =>
    by_cases hr : r ∈ z.sup0
    · obtain ⟨o', e'⟩ := ht r hr; rw [e] at e'; cases e'
    · rw [x _ _ q hr] at e; cases e
theorem ext_all {z : Ad} {hs h h' : Heap} {L rl : Addr} (x : Ext z.sup0 hs h) (y : Ext (z.all L rl) h h') (f1 : hs.get? L = none) (f2 : hs.get? (L + 1) = none) (f3 : hs.get? z.lf = none) (f4 : hs.get? rl = none) : Ext z.sup0 hs h' := fun b o e hb => y b o (x b o e hb) fun q => by
  rcases List.mem_cons.mp q with rfl | q
  · rw [f1] at e; cases e
  rcases List.mem_cons.mp q with rfl | q
  · rw [f2] at e; cases e
  rcases List.mem_cons.mp q with rfl | q
  · rw [f4] at e; cases e
  rcases List.mem_cons.mp q with rfl | q
  · rw [f3] at e; cases e
  · exact hb q
theorem mut_rangeIter {h : Heap} {I : Addr} {a b c : Int} (st : IsRangeIter h I a b c) : Muts h [I] := by
  refine muts_one st ⟨fun e => absurd e (by show Value.type "range_iterator" ≠ Value.type "tuple"; decide), fun f e => (by cases e), fun f e q t hq => ?_⟩
  cases e
  simp [rawInt] at hq
set_option maxHeartbeats 8000000 in
theorem chLoop {w : World} {p : Program} {loose : List Str} {mean : ExcName → Option Value} {mg mb : Str → Option Value} {dp un : Nat} {fr : Option (List Env)} {gd : Option (List Code)} {s : Shared} {B : List Stmt} (hB : B = chFor2 w)
   {g hs : Heap} {L : Addr} {oc : Obj} {m : Str → Option Value} {z : Ad} {H : List Ln} {LF : Nat → Nat} {ga fd rl : Addr} {ks : List Nat} {G : Gs} {way : Int}
   (hdp : dp < 600) (hun : un < 4700) (hG1 : ∀ k, (G k).1 < 6) (hG2 : ∀ k, (G k).2 < 4096)
   (X : (hd.heap_39 w.params).In g) (T : Top p loose mean mg mb g) (C : CodeHd g 252 250) (C1 : CodeHd g 242 238) (C2 : CodeHd g 247 245) (hG : GAt g ga G) (hfd : FdAt w g fd z.fl) (hoc : oc.data = .cell (some (.ref z.lf)))
   (xs : Ext z.sup0 hs s.heap) (f1 : hs.get? L = none) (f2 : hs.get? (L + 1) = none) (f3 : hs.get? z.lf = none) (f4 : hs.get? rl = none)
   (S : Turn w g L oc z rl s.heap m H LF G ks ga fd way 0) :
   wpAny (MM w) (AA dp un fr gd) (execs B (chEnv w L)) (fun fl s' => ∃ h' tk H', s' = { s with heap := h', toks := tk } ∧ Ext z.sup0 hs h' ∧ fl = .ret (.bool (EG (wishes G))) ∧ Done h' z H') (fun _ _ => False) s := by
  subst hB
  refine post_out ?_
  intro Q hQ
  have hfor : ∃ x px pos, chFor2 w = [.For (.Name (Str.ofString "turn") px) (chIter w) (chTurn w) [] pos] ∧ x = pos := ⟨_, _, _, rfl, rfl⟩
  obtain ⟨_, px2, pos, hfor, _⟩ := hfor
  obtain ⟨BT, hBT⟩ : ∃ B, B = chTurn w := ⟨_, rfl⟩
  rw [hfor, ← hBT]
  refine wpAny_execs_cons ?_
  refine forW rfl (wpAny_mono (chRange X T S.B.F S.B.N) (fun xv s1 q => ?_) fun _ _ e => e) (by intro _; rfl)
  obtain ⟨r, h1, tk1, t1, u1, v1, rfl, rfl, x1, hr⟩ := q
  refine wpAny_pyIter_range hr (by decide) ?_
  have B1 := S.B.same x1
  have hI0 : h1.get? h1.objs.size = none := Heap.get?_none_of_le (Nat.le_refl _)
  have x2 : Ext [] h1 (h1.push { cls := .type "range_iterator", data := .fields #[rawInt 0, rawInt (Builtin.Range.rangeSize 0 7 1), rawInt 1] }) := ext_of_keep fun b o e => Heap.get?_push_of_some _ e
  have st0 : IsRangeIter (h1.push { cls := .type "range_iterator", data := .fields #[rawInt 0, rawInt (Builtin.Range.rangeSize 0 7 1), rawInt 1] }) h1.objs.size (0 + (0 : Nat) * 1) ((7 : Nat) - (0 : Nat)) 1 := Heap.get?_push_size _ rfl
  have B2 := B1.same x2
  have xs1 : Ext z.sup0 hs h1 := xs.trans x1.m0
  have hIs : hs.get? h1.objs.size = none := new_of xs1 (B1.W.there B1.T) hI0
  have hIg : g.get? h1.objs.size = none := by
    cases q : g.get? h1.objs.size with
    | none => rfl
    | some o => have := B1.F.keep _ _ q; rw [hI0] at this; cases this
  have hIall : h1.objs.size ∉ z.all L rl := fun q => by
    obtain ⟨o, e⟩ := B1.sup0_there _ q
    rw [hI0] at e; cases e
  generalize hI : h1.objs.size = I at *
  generalize h1.push { cls := .type "range_iterator", data := .fields #[rawInt 0, rawInt (Builtin.Range.rangeSize 0 7 1), rawInt 1] } = h2 at *
  refine ⟨I, [I], [I], 7, _, _, fun i s' => ∃ h tk m H LF ks rl way, s' = { s with heap := h, toks := tk } ∧ Ext z.sup0 hs h ∧ IsRangeIter h I (0 + (i : Nat) * 1) ((7 : Nat) - (i : Nat)) 1 ∧ I ∉ z.all L rl ∧ hs.get? rl = none ∧ Turn w g L oc z rl h m H LF G ks ga fd way i, rfl, LCg.range_walks (I := I) rfl 0 7, ?j0, ?jst, ?step, ?fin⟩
  case j0 => exact ⟨h2, _, m, H, LF, ks, rl, way, rfl, xs1.trans x2.m0, st0, hIall, f4, { S with B := B2 }⟩
  case jst =>
    rintro i s' ⟨h, tk, m, H, LF, ks, rl, way, rfl, _, st, _⟩
    exact st
  case step =>
    intro i s' v h' tk hi hJ hPv hst' x'
    refine step_out ?_
    intro Q' hN' hR'
    obtain ⟨h, tk0, m, H, LF, ks, rl, way, rfl, xE, st, hIa, fr', S⟩ := hJ
    dsimp only at *
    have dI : ∀ a ∈ z.all L rl, a ∉ [I] := fun a ha q => by rw [List.mem_singleton] at q; subst q; exact hIa ha
    have B' := S.B.other x' (mut_rangeIter st) dI (by rw [List.forall_mem_singleton]; exact hIg)
    refine store_L (env := chEnv w L) (y := Str.ofString "turn") B'.F rfl rfl ?_
    intro h3 tk3 F3 x3
    have B3 := B'.store S.nd F3 x3
    obtain ⟨n1, n2, n3, n4, n5, n6⟩ := S.M
    have S3 : Turn w g L oc z rl h3 (fun z => if z = Str.ofString "turn" then some v else m z) H LF G ks ga fd way i := { S with B := B3, M := ⟨n1, n2, n3, n4, n5, n6⟩ }
    have xI : Ext z.sup0 hs h' := fun b o e hb => x' b o (xE b o e hb) fun q => by rw [List.mem_singleton] at q; subst q; rw [hIs] at e; cases e
    have xE3 : Ext z.sup0 hs h3 := fun b o e hb => x3 b o (xI b o e hb) fun q => by
      rw [List.mem_singleton] at q; have q' : b = L := q; rw [q', f1] at e; cases e
    have st3 : IsRangeIter h3 I (0 + ((i + 1 : Nat) : Int) * 1) ((7 : Nat) - ((i + 1 : Nat) : Int)) 1 := x3 _ _ hst' (by rw [List.mem_singleton]; exact fun q => hIa (q ▸ .head _))
    refine wpAny_mono (chTurnAll hBT hdp hun hi hG1 hG2 X T C C1 C2 hG hfd hoc S3) (fun fl s4 q => ?_) (fun _ _ e => e)
    obtain ⟨h4, tk4, rfl, x4, q⟩ := q
    have xE4 := ext_all xE3 x4 f1 f2 f3 fr'
    have st4 : IsRangeIter h4 I (0 + ((i + 1 : Nat) : Int) * 1) ((7 : Nat) - ((i + 1 : Nat) : Int)) 1 := x4 _ _ st3 hIa
    rcases q with ⟨rfl, rl', m', H', LF', ks', way', S', hrl⟩ | ⟨rfl, H', hD⟩
    · refine hN' _ ⟨h4, tk4, m', H', LF', ks', rl', way', rfl, xE4, st4, ?_, ?_, S'⟩
      · intro q
        rcases hrl with rfl | hrl
        · exact hIa q
        · rcases List.mem_cons.mp q with q | q
          · exact hIa (q ▸ .head _)
          rcases List.mem_cons.mp q with q | q
          · exact hIa (q ▸ .tail _ (.head _))
          rcases List.mem_cons.mp q with q | q
          · have e : h3.get? I = some _ := st3
            rw [q, hrl] at e; cases e
          · exact hIa (.tail _ (.tail _ (.tail _ q)))
      · rcases hrl with rfl | hrl
        · exact fr'
        · exact new_of xE3 (B3.W.there B3.T) hrl
    · exact hR' _ _ (hQ _ _ ⟨h4, tk4, H', rfl, xE4, rfl, hD⟩)
  case fin =>
    rintro s' h' tk ⟨h, tk0, m, H, LF, ks, rl, way, rfl, xE, st, hIa, fr', S⟩ x'
    have h1 := S.zer
    have h2 := zer_le LF
    omega
end Mine
end
section
open PySem PySem.W PyProof.Rows PySem.Calls PySem.Spec PyProof.V
set_option maxRecDepth 100000
namespace Mine
theorem fillChA : (∀ w : World, hd.heap_39 w.params = hd.heap_39 w.params) ∧ PySem.Challenge.rw_uc0036_01.foot = 6 := by
  k_fill
  w_top off
  exact ⟨fun _ => rfl, rfl⟩
theorem split5 {α : Type} (l : List α) : l = l.take 2 ++ ((l.drop 2).take 1 ++ ((l.drop 3).take 1 ++ ((l.drop 4).take 1 ++ l.drop 5))) := by
  have e1 : (l.drop 2).drop 1 = l.drop 3 := by rw [List.drop_drop]
  have e2 : (l.drop 3).drop 1 = l.drop 4 := by rw [List.drop_drop]
  have e3 : (l.drop 4).drop 1 = l.drop 5 := by rw [List.drop_drop]
  rw [← e3, List.take_append_drop, ← e2, List.take_append_drop, ← e1, List.take_append_drop, List.take_append_drop]
theorem objs_of {h : Heap} : ∀ {S : List Addr}, (∀ a ∈ S, ∃ o, h.get? a = some o) → ∃ D : List (Addr × Obj), D.map (·.1) = S ∧ ∀ p ∈ D, h.get? p.1 = some p.2
  | [], _ => ⟨[], rfl, by simp⟩
  | a :: S, k => by
    obtain ⟨o, e⟩ := k a (.head _)
    obtain ⟨D, h1, h2⟩ := objs_of fun b hb => k b (.tail _ hb)
    refine ⟨(a, o) :: D, by rw [List.map_cons, h1], fun p hp => ?_⟩
    rcases List.mem_cons.mp hp with rfl | hp
    · exact e
    · exact h2 p hp
noncomputable abbrev H0 : List Ln := [(#[102, 97, 98], #[101])]
theorem gets_H0 {k : Nat} (hk : k < 6) : gets H0 (nmA k) = [] := by rcases lt6 hk with rfl | rfl | rfl | rfl | rfl | rfl <;> decide +kernel
set_option maxHeartbeats 8000000 in
theorem choices {w : World} {p : Program} {loose : List Str} {mean : ExcName → Option Value} {mg mb : Str → Option Value} {dp un : Nat} {fr : Option (List Env)} {gd : Option (List Code)} {s : Shared} {Q : Value → Shared → Prop}
   {z : Ad} {ga fd : Addr} {G : Gs} {way : Int} {tw : Tok}
   (hdp : dp < 500) (hun : un < 4600) (hG1 : ∀ k, (G k).1 < 6) (hG2 : ∀ k, (G k).2 < 4096) (hz : z.sup0.Nodup)
   (X : (hd.heap_39 w.params).In (hideAll s.heap z.sup0)) (T : Top p loose mean mg mb (hideAll s.heap z.sup0)) (C : CodeHd (hideAll s.heap z.sup0) 252 250) (C1 : CodeHd (hideAll s.heap z.sup0) 242 238) (C2 : CodeHd (hideAll s.heap z.sup0) 247 245)
   (hG : GAt (hideAll s.heap z.sup0) ga G) (hfd : FdAt w (hideAll s.heap z.sup0) fd z.fl) (W0 : Ws s.heap z H0 H0 (fun k => gets H0 (nmA k))) (T0 : Tabs s.heap)
   (hQ : ∀ h' H' tk, Ext z.sup0 s.heap h' → Done h' z H' → Q (.bool (EG (wishes G))) { s with heap := h', toks := tk }) :
   wpAny (MM w) (AA dp un fr gd) (call (.ref 253) [.ref ga, .int way tw, .ref z.tb, .ref z.ld, .ref fd]) Q (fun _ _ => False) s := by
  refine wpAny_call ?_
  have hthere := W0.there T0
  obtain ⟨D, hD1, hD2⟩ := objs_of hthere
  rw [← hD1] at X T C C1 C2 hG hfd
  refine' enterC (D := D) hD2 X T ?ho ?hcd ?hroom (binds := [(Str.ofString "guests", .ref ga), (Str.ofString "way", .int way tw), (Str.ofString "table", .ref z.tb), (Str.ofString "laid", .ref z.ld), (Str.ofString "found", .ref fd)]) ?hbind ?hkind ?hnd ?_ ?c1 ?c2 ?c3
  case ho => k_is
  case hcd => k_is
  case hroom => (show dp < 1000; omega)
  case hbind => exact BindsTo.of_eq rfl
  case hkind => rfl
  case hnd => decide +kernel
  case c1 => rfl
  case c2 => rfl
  case c3 => rfl
  intro g L h₁ tk cells hg F' N' Y X' T' hlt
  replace hg : g = hideAll s.heap (D.map (·.1)) := hg
  rw [← hg] at C C1 C2 hG hfd
  have hgn : ∀ a ∈ z.sup0, g.get? a = none := fun a ha => by rw [hg]; rw [← hD1] at ha; exact hideAll_none _ ha
  clear X T
  k_cells Y
  (try simp only [List.cons_append, List.nil_append] at N')
  rename_i oc0 hcell
  have hoc0 : oc0.data = .cell none := hcell
  have hDlt : ∀ a ∈ z.sup0, a < L := fun a ha => by
    rw [← hD1] at ha
    obtain ⟨p, hp, rfl⟩ := List.mem_map.mp ha
    exact hlt p hp
  have irr : ∀ {a : Addr}, ¬ a < a := fun {a} => Nat.lt_irrefl a
  have lt1 : L < L + 1 := Nat.lt_succ_self _
  have hgold : ∀ a : Addr, L ≤ a → g.get? a = none → s.heap.get? a = none := fun a ha e => hide_none (hg ▸ e) (by rw [hD1]; exact fun q => absurd (hDlt a q) (Nat.not_lt.mpr ha))
  change wpAny (MM w) _ (execs (bodyAt w 253) (chEnv w L)) _ _ _
  obtain ⟨B, hB⟩ : ∃ B, B = bodyAt w 253 := ⟨_, rfl⟩
  rw [← hB, split5 B]
  refine execs_app (wpAny_mono (chP0 (dp := dp + 1) (un := un + 3) (z := z) (ga := ga) (fd := fd) (way := way) hB X' T' F' N' hoc0 (fun p hp q => irr (Nat.lt_trans (hlt p hp) (q ▸ lt1))) rfl rfl rfl rfl rfl) (fun fl s1 q => ?_) fun _ _ e => e)
  obtain ⟨h1, m1, tk1, lf, rl, oc, od, rfl, rfl, F1, N1, hod, hoc, l1, l2, M1⟩ := q
  have x1 : Ext [] s.heap h1 := ext_same (hg ▸ F1 : Fr (hideAll s.heap (D.map (·.1))) L h1 m1) fun a ha o e => by
    obtain ⟨p, hp, rfl⟩ := List.mem_map.mp ha
    have := hD2 p hp
    rw [e] at this; cases this
    exact (N1 p (.tail _ (.tail _ (.tail _ hp)))).1
  have W1 := W0.ext x1 (muts_nil _) (fun _ _ => List.not_mem_nil)
  obtain ⟨z1, hz1⟩ : ∃ z1 : Ad, z1 = { z with lf := lf } := ⟨_, rfl⟩
  have es : z1.sup0 = z.sup0 := by rw [hz1]
  have el : z1.lf = lf := by rw [hz1]
  have ef : z1.fl = z.fl := by rw [hz1]
  have W1' : Ws h1 z1 H0 H0 (fun k => gets H0 (nmA k)) := by subst hz1; exact ⟨W1.tb, W1.dx, W1.hl, W1.ld, W1.fl⟩
  have M1' : Nm m1 ga z1 fd rl way := by subst hz1; exact ⟨M1.m1, M1.m2, M1.m3, M1.m4, M1.m5, M1.m6⟩
  have hback : ∀ {h : Heap} {H : List Ln}, Done h z1 H → Done h z H := fun x => by subst hz1; exact ⟨⟨x.W.tb, x.W.dx, x.W.hl, x.W.ld, x.W.fl⟩, x.T, x.txt, x.len⟩
  clear M1 W1 hz1
  have B1 : Bag w g L oc z1 rl h1 m1 H0 H0 (fun k => gets H0 (nmA k)) [] (fun k => (G k).1) 0 [] :=
    ⟨F1, news_sub N1 (all_c (at_ 2 rfl) all_n), W1', T0.ext x1 (muts_nil _) List.not_mem_nil List.not_mem_nil List.not_mem_nil,
      ⟨[], by rw [el]; exact Heap.dictOf_iff.mpr ⟨_, (N1 (lf, od) (.tail _ (.head _))).1, hod⟩, Nat.le_refl _, by simp⟩, ⟨[], 0, (N1 _ (.head _)).1, .nil⟩⟩
  have hnd1 : (z1.all L rl).Nodup := by
    show (L :: (L + 1) :: rl :: z1.lf :: z1.sup0).Nodup
    rw [es, el]
    have k1 : ∀ a ∈ z.sup0, a < L := hDlt
    refine List.nodup_cons.mpr ⟨fun q => ?_, List.nodup_cons.mpr ⟨fun q => ?_, List.nodup_cons.mpr ⟨fun q => ?_, List.nodup_cons.mpr ⟨fun q => ?_, hz⟩⟩⟩⟩
    · rcases List.mem_cons.mp q with q | q
      · exact absurd q (Nat.ne_of_lt lt1)
      rcases List.mem_cons.mp q with q | q
      · exact irr (Nat.lt_trans (Nat.lt_trans lt1 l1) (q ▸ l2 : lf < L))
      rcases List.mem_cons.mp q with q | q
      · exact irr (Nat.lt_trans lt1 (q ▸ l1 : L + 1 < L))
      · exact irr (k1 _ q)
    · rcases List.mem_cons.mp q with q | q
      · exact irr (Nat.lt_trans l1 (q ▸ l2 : lf < L + 1))
      rcases List.mem_cons.mp q with q | q
      · exact irr (q ▸ l1 : L + 1 < L + 1)
      · exact irr (Nat.lt_trans lt1 (k1 _ q))
    · rcases List.mem_cons.mp q with q | q
      · exact irr (q ▸ l2 : lf < lf)
      · exact irr (Nat.lt_trans (Nat.lt_trans lt1 l1) (Nat.lt_trans l2 (k1 _ q)))
    · exact irr (Nat.lt_trans (Nat.lt_trans lt1 l1) (k1 _ q))
  have hno1 : ∀ a ∈ z1.all L rl, g.get? a = none := fun a ha => by
    rcases List.mem_cons.mp ha with rfl | ha
    · exact Heap.get?_none_of_le F1.above
    rcases List.mem_cons.mp ha with rfl | ha
    · exact (N1 (L + 1, oc) (.tail _ (.tail _ (.head _)))).2.2
    rcases List.mem_cons.mp ha with rfl | ha
    · exact (N1 _ (.head _)).2.2
    rcases List.mem_cons.mp ha with rfl | ha
    · rw [el]; exact (N1 (lf, od) (.tail _ (.head _))).2.2
    · exact hgn a (es ▸ ha)
  have f1 := hgold L (Nat.le_refl _) (hno1 _ (.head _))
  have f2 := hgold (L + 1) (Nat.le_of_lt lt1) (hno1 _ (.tail _ (.head _)))
  have f3 := hgold z1.lf (by rw [el]; exact Nat.le_of_lt (Nat.lt_trans lt1 l1)) (hno1 _ lf_in)
  have f4 := hgold rl (Nat.le_of_lt (Nat.lt_trans (Nat.lt_trans lt1 l1) l2)) (hno1 _ rl_in)
  have xs1 : Ext z1.sup0 s.heap h1 := x1.m0
  rw [← el] at hoc
  rw [← ef] at hfd
  have e2 : (B.drop 2).take 1 = chFor1 w := by rw [hB]; rfl
  have e4 : (B.drop 4).take 1 = chFor2 w := by rw [hB]; rfl
  clear N1 l1 l2 hod F' N' hcell hoc0 F1 hgold hg hgn hDlt irr lt1 hD1 hD2 hlt hthere W1' T0 W0 x1 hz
  have hH0 : ∀ q ∈ H0, q.1 ∈ texts := by decide
  refine execs_app (wpAny_mono (chInitAll (dp := dp + 1) (un := un + 3) (G := G) e2 (by omega) (by omega) hG1 hG2 hH0 (by decide) (fun k hk => gets_H0 hk) X' T' C hG hnd1 hno1 hoc ⟨⟨[], by simp, B1⟩, M1'⟩) (fun fl s2 q => ?_) fun _ _ e => e)
  obtain ⟨rfl, h2, m2, tk2, rfl, x2, ⟨⟨dom, hdom, B2⟩, M2⟩⟩ := q
  have xs2 := ext_all xs1 x2 f1 f2 f3 f4
  obtain ⟨ks, hks, hsort⟩ := perm_map_ex (f := prOf G fun k => (G k).1) (sortR_perm (Ns6.map (prOf G fun k => (G k).1))) Ns6 rfl
  have hk6 : ks.Perm R6 := hks.trans (by decide)
  have hsw2 : SW (ks.map (prOf G fun k => (G k).1)) := hsort ▸ sortR_sw _
  have B2' : Bag w g L oc z1 rl h2 m2 H0 H0 (fun k => gets H0 (nmA k)) dom (fun k => (G k).1) 6 (ks.map (prOf G fun k => (G k).1)) := by
    rw [← hsort]; exact B2
  refine execs_app (wpAny_mono (chP2 (dp := dp + 1) (un := un + 3) (G := G) (way := way) (LF := fun k => (G k).1) hB (by omega) (by omega) hG1 hG2 (by omega) (fun k hk => hdom k (by simpa using hk)) (by have := hk6.length_eq; simpa using this) (hk6.nodup_iff.mpr (by decide)) hsort hsw2 X' T' C1 C2 hG hnd1 hno1 hoc B2' M2) (fun fl s3 q => ?_) fun _ _ e => e)
  obtain ⟨h3, m3, tk3, rfl, rfl, x3, B3, M3⟩ := q
  have xs3 := ext_all xs2 x3 f1 f2 f3 f4
  have S3 : Turn w g L oc z1 rl h3 m3 H0 (fun k => (G k).1) G ks ga fd way 0 := {
    nd := hnd1
    no := hno1
    B := ⟨B3.F, B3.N, B3.W, B3.T, (by obtain ⟨kvs, k1, k2, k3⟩ := B3.D; exact ⟨kvs, k1, by omega, fun i hi => k3 i (hdom i ((by decide : ∀ i ∈ R6, i ∈ Ns6) i hi))⟩), B3.R⟩
    M := M3
    perm := hk6
    sw := hsw2
    l6 := hG1
    cnt := fun k hk => by rw [gets_H0 hk]; simp
    txt := hH0
    len := by decide
    zer := Nat.zero_le _
    eg := rfl }
  refine execs_app (wpAny_mono (chLoop (dp := dp + 1) (un := un + 3) e4 (by omega) (by omega) hG1 hG2 X' T' C C1 C2 hG hfd hoc xs3 f1 f2 f3 f4 S3) (fun fl s4 q => ?_) fun _ _ e => e)
  obtain ⟨h4, tk4, H', rfl, x4, rfl, hD⟩ := q
  exact hQ h4 H' tk4 (es ▸ x4) (hback hD)
end Mine
end
section
open PySem PySem.W PyProof.Rows PySem.Calls PySem.Spec PyProof.V
set_option maxRecDepth 100000
namespace Mine
theorem fillMay : (∀ w : World, hd.heap_39 w.params = hd.heap_39 w.params) ∧ PySem.Challenge.rw_uc0036_01.foot = 6 := by
  k_fill
  w_top off
  exact ⟨fun _ => rfl, rfl⟩
noncomputable abbrev zI (l : List Nat) : List Int := l.map fun x : Nat => (x : Int)
theorem zI_sum (l : List Nat) : (zI l).sum = (l.sum : Int) := by
  induction l with
  | nil => rfl
  | cons a r ih => simp only [zI, List.map_cons, List.sum_cons] at ih ⊢; rw [ih]; omega
theorem zI_min (l : List Nat) (k : Nat) : (zI l).map (fun x => if (k : Int) < x then (k : Int) else x) = zI (l.map (min · k)) := by
  simp only [zI, List.map_map]
  refine List.map_congr_left fun x _ => ?_
  show (if (k : Int) < (x : Int) then (k : Int) else (x : Int)) = ((min x k : Nat) : Int)
  split <;> omega
theorem sorted_srt {ns : List Nat} {l : List Int} (hp : l.Perm (zI ns)) (hs : l.Pairwise (· ≤ ·)) : l.reverse = zI (srtN ns) := by
  obtain ⟨d, h1, rfl⟩ := perm_map_ex (f := fun x : Nat => (x : Int)) hp ns rfl
  rw [← List.map_reverse]
  congr 1
  refine desc_unique ((List.reverse_perm d).trans (h1.trans (srtN_perm ns).symm)) ?_ (srtN_desc ns)
  rw [List.pairwise_reverse]
  rw [List.pairwise_map] at hs
  exact hs.imp fun {a b} q => by omega
theorem intsAre_at {v : Value} : ∀ {vs : List Value} {ns : List Int} {i : Nat}, IntsAre vs ns → vs[i]? = some v → ∃ n t, ns[i]? = some n ∧ v = .int n t
  | _, _, _, .nil, e => by simp at e
  | _, _, 0, .cons n t r, e => ⟨n, t, rfl, by simpa using e.symm⟩
  | _, _, i + 1, .cons n t r, e => by
    obtain ⟨c, t, h1, h2⟩ := intsAre_at (i := i) r (by simpa using e)
    exact ⟨c, t, by simpa using h1, h2⟩
noncomputable def tst (d : List Nat) (k : Nat) : Prop := (d.take k).sum ≤ k * (k - 1) + ((d.drop k).map (min · k)).sum
theorem egD_false {d : List Nat} {k : Nat} (h1 : 1 ≤ k) (h2 : k ≤ 6) (h : ¬ tst d k) : egD d = false := by
  unfold egD
  rw [Bool.and_eq_false_iff]
  refine .inl ?_
  rw [List.all_eq_false]
  exact ⟨k, by have : k = 1 ∨ k = 2 ∨ k = 3 ∨ k = 4 ∨ k = 5 ∨ k = 6 := by omega
               rcases this with rfl | rfl | rfl | rfl | rfl | rfl <;> simp, by simpa [tst] using h⟩
theorem egD_true {d : List Nat} (h : ∀ k, 1 ≤ k → k ≤ 6 → tst d k) : egD d = (d.sum % 2 == 0) := by
  unfold egD
  have : [1, 2, 3, 4, 5, 6].all (fun k => decide ((d.take k).sum ≤ k * (k - 1) + ((d.drop k).map (min · k)).sum)) = true := by
    rw [List.all_eq_true]
    intro k hk
    simp only [List.mem_cons, List.not_mem_nil, or_false] at hk
    exact decide_eq_true (h k (by omega) (by omega))
  rw [this, Bool.true_and]
local macro_rules | `(tactic| k_all) => `(tactic| assumption)
local macro_rules | `(tactic| walk_at "eval Name") => `(tactic| (k_here; k_dflt (refine' nameX_L ?F ?v ?_ ?a ?b; (case F => k_asm); (case a => rfl); (case b => rfl); (case v => assumption); k_whole)))
local macro_rules | `(tactic| walk_at "exec For") => `(tactic| refine Mine.stop_in ?_)
local macro_rules | `(tactic| walk_at "eval ListComp") => `(tactic| refine Mine.stop_in ?_)
local macro_rules | `(tactic| walk_at "CompSrc") => `(tactic| refine Mine.stop_in ?_)
local macro_rules | `(tactic| walk_at "subscriptTail Name Slice ref ref") => `(tactic| refine Mine.stop_in ?_)
local macro_rules | `(tactic| walk_at "call builtin:sorted") => `(tactic| refine Mine.stop_in ?_)
local macro_rules | `(tactic| walk_at "call builtin:sum") => `(tactic| refine Mine.stop_in ?_)
local macro_rules | `(tactic| walk_at "call builtin:min") => `(tactic| refine Mine.stop_in ?_)
set_option maxHeartbeats 8000000 in
theorem may {w : World} {p : Program} {loose : List Str} {mean : ExcName → Option Value} {mg mb : Str → Option Value} {dp un : Nat} {fr : Option (List Env)} {gd : Option (List Code)} {s : Shared} {Q : Value → Shared → Prop}
   {wl : Addr} {vs : List Value} {ns : List Nat}
   (hdp : dp < 700) (hun : un < 4800) (hlen : ns.length = 6) (X : (hd.heap_39 w.params).In s.heap) (T : Top p loose mean mg mb s.heap)
   (hl : s.heap.IsList wl vs.toArray) (hi : IntsAre vs (zI ns))
   (hQ : ∀ h' tk, Ext [] s.heap h' → Q (.bool (EG ns)) { s with heap := h', toks := tk }) :
   wpAny (MM w) (AA dp un fr gd) (call (.ref 258) [.ref wl]) Q (fun _ _ => False) s := by
  refine wpAny_call ?_
  refine' enterC (D := []) (by simp) X T ?ho ?hcd ?hroom (binds := [(Str.ofString "wishes", .ref wl)]) ?hbind ?hkind ?hnd ?_ ?c1 ?c2 ?c3
  case ho => k_is
  case hcd => k_is
  case hroom => (show dp < 1000; omega)
  case hbind => exact BindsTo.of_eq rfl
  case hkind => rfl
  case hnd => decide +kernel
  case c1 => rfl
  case c2 => rfl
  case c3 => rfl
  intro g L h₁ tk cells hg F' N' Y X' T' hlt
  replace hg : g = s.heap := hg
  subst hg
  k_cells Y
  (try simp only [List.cons_append, List.nil_append, List.append_nil] at N')
  rename_i oc0 hcell
  have hoc0 : oc0.data = .cell none := hcell
  clear hcell
  k_steps
  refine Mine.stop_out ?_
  refine kso_sorted F' N' (stays_list F'.keep hl) hi (by simp [hlen]) ?_
  intro D vs2 ns2 c h2 F2 N2 l2 hi2 e2 p2 o2 _
  have hd : ns2.reverse = zI (srtN ns) := sorted_srt p2 o2
  clear F' N' p2 o2 e2
  k_steps
  refine Mine.stop_out ?_
  have hv2 : vs2.length = 6 := by
    have h1 := IntsAre.length hi2
    have h2 := congrArg List.length hd
    simp only [List.length_reverse, zI, List.length_map, (srtN_perm ns).length_eq, hlen] at h2
    omega
  refine krv_lit F2 N2 ⟨_, (N2 _ (.head _)).1, rfl, _, rfl⟩ (by kmk_part) rfl ?_ (by with_unfolding_all rfl) (by kmk_pure) (by show vs2.toArray.size ≤ 16777216; rw [List.size_toArray]; omega)
  intro R h3 F3 N3 l3
  have hiR : IntsAre vs2.reverse (zI (srtN ns)) := hd ▸ hi2.reverse
  clear F2 N2
  k_steps
  rename Fr _ _ _ _ => F4
  rename News _ _ _ _ => N4
  rename Heap => h4
  refine Mine.stop_out ?_
  refine forW rfl (wpAny_mono (Q := fun xv s' => Stop (∃ r h' tk t u v, xv = .ref r ∧ s' = { s with heap := h', toks := tk } ∧ Ext [] h4 h' ∧ IsRange h' r 1 7 1 t u v)) ?ev (fun xv s1 q => ?_) fun _ _ e => e)
  case ev =>
    k_steps
    have hr := ‹IsRange _ _ 1 7 1 _ _ _›
    have hk := ‹∀ (b : Addr) (o : Obj), _ → _›
    exact Mine.stop_in ⟨_, _, _, _, _, _, rfl, rfl, ext_of_keep hk, hr⟩
  obtain ⟨r, h5, tk5, t1, u1, v1, rfl, rfl, x5, hr⟩ := q
  refine wpAny_pyIter_range hr (by decide) ?_
  have F5 := fr_ext0 F4 x5
  have N5 : News s.heap L h5 [(R, lstO vs2.reverse.toArray 0), (L + 1, oc0)] := news_sub (news_ext0 N4 x5) (fun p hp => by
    rcases List.mem_cons.mp hp with rfl | hp
    · exact .head _
    · rw [List.mem_singleton] at hp; subst hp; exact .tail _ (.tail _ (.head _)))
  have hI0 : h5.get? h5.objs.size = none := Heap.get?_none_of_le (Nat.le_refl _)
  have x6 : Ext [] h5 (h5.push { cls := .type "range_iterator", data := .fields #[rawInt 1, rawInt (Builtin.Range.rangeSize 1 7 1), rawInt 1] }) := ext_of_keep fun b o e => Heap.get?_push_of_some _ e
  have st0 : IsRangeIter (h5.push { cls := .type "range_iterator", data := .fields #[rawInt 1, rawInt (Builtin.Range.rangeSize 1 7 1), rawInt 1] }) h5.objs.size (1 + (0 : Nat) * 1) ((6 : Nat) - (0 : Nat)) 1 := Heap.get?_push_size _ rfl
  have neL : L ≠ h5.objs.size := by obtain ⟨o, _, _, e, _⟩ := F5.ns; exact none_ne hI0 e
  have neR : R ≠ h5.objs.size := none_ne hI0 (N5 _ (.head _)).1
  have neC : L + 1 ≠ h5.objs.size := none_ne hI0 (N5 (L + 1, oc0) (.tail _ (.head _))).1
  have hIg : s.heap.get? h5.objs.size = none := by
    cases q : s.heap.get? h5.objs.size with
    | none => rfl
    | some o => have := F5.keep _ _ q; rw [hI0] at this; cases this
  have F6 := fr_ext0 F5 x6
  have N6 := news_ext0 N5 x6
  have hdl : (srtN ns).length = 6 := by rw [(srtN_perm ns).length_eq, hlen]
  clear F4 N4 F5 N5 hd hi2
  generalize hI : h5.objs.size = I at *
  generalize h5.push { cls := .type "range_iterator", data := .fields #[rawInt 1, rawInt (Builtin.Range.rangeSize 1 7 1), rawInt 1] } = h6 at *
  refine ⟨I, [I], [I], 6, _, _, fun i s' => ∃ h tk m oc cv, s' = { s with heap := h, toks := tk } ∧ Fr s.heap L h m ∧ News s.heap L h [(R, lstO vs2.reverse.toArray 0), (L + 1, oc)] ∧ oc.data = .cell cv ∧ m (Str.ofString "row") = some (.ref R) ∧
    IsRangeIter h I (1 + (i : Nat) * 1) ((6 : Nat) - (i : Nat)) 1 ∧ Stop (∀ j, 1 ≤ j → j ≤ i → tst (srtN ns) j), rfl, LCg.range_walks (I := I) rfl 1 6, ?j0, ?jst, ?step, ?fin⟩
  case j0 => exact ⟨h6, _, _, oc0, _, rfl, F6, N6, hoc0, rfl, st0, Mine.stop_in fun j h1 h2 => absurd h1 (by omega)⟩
  case jst =>
    rintro i s' ⟨h, tk, m, oc, cv, rfl, _, _, _, _, st, _⟩
    exact st
  case step =>
    clear F6 N6 hoc0 st0 hr
    rintro i s' v h' tk hi6 hJ ⟨tv, rfl⟩ hst' x'
    refine step_out ?_
    intro Q' hN' hR'
    obtain ⟨h, tk0, m, oc, cv, rfl, F7, N7, hoc, hrow, st, hpass⟩ := hJ
    dsimp only
    have F8 := fr_ext F7 x' (fun q => neL (List.mem_singleton.mp q)) (all_c hIg all_n)
    have N8 := news_ext N7 x' (all_c (fun q => neR (List.mem_singleton.mp q)) (all_c (fun q => neC (List.mem_singleton.mp q)) all_n))
    have ek : (1 + ((i : Nat) : Int)) = ((i + 1 : Nat) : Int) := by omega
    rw [ek]
    have nRC : @Ne Nat R (L + 1) := Nat.ne_of_gt (l3 (L + 1, oc0) (.tail _ (.head _)))
    have F8' := F8
    obtain ⟨cs, hcs⟩ : ∃ cs, cs = rest s.heap L h' [R, L + 1] := ⟨_, rfl⟩
    have hcC : ∀ p ∈ cs, p.1 ≠ L + 1 := hcs ▸ rest_off (at_ 1 rfl)
    replace N8 : News s.heap L h' ((R, lstO vs2.reverse.toArray 0) :: (L + 1, oc) :: cs) := all_c (N8 _ (at_ 0 rfl)) (all_c (N8 _ (at_ 1 rfl)) fun p hp => rest_news p (hcs ▸ hp))
    have F8'' : True ∧ Fr s.heap L h' m := ⟨trivial, F8⟩
    clear F7 N7 ek F8'
    k_steps
    rename Fr _ _ _ _ => F9
    rename News _ _ _ _ => N9
    have hoc9 := ‹_ = Data.cell (some (Value.int ((i + 1 : Nat) : Int) tv))›
    refine Mine.stop_out ?_
    refine kms_slice_lit F9 N9 ⟨_, (N9 _ (.head _)).1, rfl, _, rfl⟩ (by kmk_part) (by kmk_part) (pick_take (n := i + 1) rfl) ?_ (by with_unfolding_all rfl) (by kmk_pure) (by show Array.size _ ≤ 16777216; simp; omega)
    intro D10 h10 F10 N10 l10
    clear F9 N9 l10
    k_steps
    refine Mine.stop_out ?_
    refine sumK rfl F10 N10 ⟨_, (N10 _ (.head _)).1, rfl, _, rfl⟩ (hiR.take (i + 1)) ?_
    intro h11 tk11 t11 F11 N11
    rw [show ((zI (srtN ns)).take (i + 1)).sum = (((srtN ns).take (i + 1)).sum : Int) by rw [← List.map_take]; exact zI_sum _]
    clear F10 N10
    k_steps
    rename Fr _ _ _ _ => F12
    rename News _ _ _ _ => N12
    refine Mine.stop_out ?_
    k_dflt (refine LCg.ListComp_U (F₀ := F12) (by with_unfolding_all rfl) (by decide) (by rfl) (by decide) (by rfl) ?_)
    k_steps
    rename Fr _ _ _ _ => F13
    rename News _ _ _ _ => N13
    refine Mine.stop_out ?_
    refine kms_slice_lit F13 N13 ⟨_, (N13 (R, _) (by k_mem)).1, rfl, _, rfl⟩ (by kmk_part) (by kmk_part) (pick_drop (n := i + 1) rfl) ?_ (by with_unfolding_all rfl) (by kmk_pure) (by show Array.size _ ≤ 16777216; simp; omega)
    intro D14 h14 F14 N14 l14
    clear F13 N13
    k_steps
    refine Mine.stop_out ?_
    refine LCg.CompSrc.ledger rfl F14 N14 (.head _) (by show Array.size _ ≤ 16777216; simp; omega) ?_
    intro g'
    refine comp_U (6 - (i + 1)) (fun j ys => IntsAre ys ((((zI (srtN ns)).drop (i + 1)).take j).map fun x => if ((i + 1 : Nat) : Int) < x then ((i + 1 : Nat) : Int) else x)) ?_ ?_ _ 0 [] (by simp; omega) .nil
    · intro j ys hj hys v I' oI CC oC D' m₂ h tk E' hv hC hx F15 N15 hoff hne
      obtain ⟨x, tx, ex, rfl⟩ := intsAre_at (hiR.drop (i + 1)) (show (vs2.reverse.drop (i + 1))[j]? = some v by simpa using hv)
      clear hv
      k_steps
      refine Mine.stop_out ?_
      refine min_two_N rfl F15 N15 ?_
      intro h16 tk16 F16 N16
      refine LCg.CompEnd.intro F16 N16 _ (fun q hq => hq) hoff (.inr ⟨_, .head _, rfl, _, rfl⟩) ⟨rfl, ?_⟩
      rw [List.take_add_one, ex, Option.toList_some, List.map_append]
      exact hys.append (.cons _ _ .nil)
    · intro ys hys D' h tk F16 N16 off
      rw [List.take_of_length_le (by simp [hdl]), ← List.map_drop, zI_min] at hys
      have esq : ((i + 1 : Nat) : Int) * (((i + 1 : Nat) : Int) - 1) = (((i + 1) * (i + 1 - 1) : Nat) : Int) := by rcases lt6 hi6 with rfl | rfl | rfl | rfl | rfl | rfl <;> rfl
      clear off
      dsimp only
      k_steps
      refine Mine.stop_out ?_
      refine sumK rfl F16 N16 ⟨_, (N16 _ (.head _)).1, rfl, _, rfl⟩ hys ?_
      intro h17 tk17 t17 F17 N17
      rw [zI_sum]
      clear F16 N16
      k_steps
      all_goals (rename Fr _ _ _ _ => F18; rename News _ _ _ _ => N18)
      · have hgt : ((i + 1 : Nat) : Int) * (((i + 1 : Nat) : Int) - 1) + ((((srtN ns).drop (i + 1)).map (min · (i + 1))).sum : Nat) < (((srtN ns).take (i + 1)).sum : Nat) := by assumption
        rw [esq] at hgt
        have e : EG ns = false := egD_false (k := i + 1) (by omega) (by omega) (fun q => by
          unfold tst at q
          generalize (i + 1) * (i + 1 - 1) = M at q hgt
          omega)
        have h2 := fun tk => hQ h17 tk (ext_of_keep F18.keep)
        simp only [e] at h2
        exact hR' _ _ (h2 _)
      · have hgt : ¬ ((i + 1 : Nat) : Int) * (((i + 1 : Nat) : Int) - 1) + ((((srtN ns).drop (i + 1)).map (min · (i + 1))).sum : Nat) < (((srtN ns).take (i + 1)).sum : Nat) := by assumption
        rw [esq] at hgt
        have xx : Ext (L :: [R, L + 1]) h' h17 := ext_of_rest F8''.2 F18 (news_sub N18 fun p hp => .tail _ (.tail _ (.tail _ (.tail _ (.tail _ (hcs ▸ hp))))))
        refine hN' _ ⟨h17, _, m, _, _, rfl, F18, news_sub N18 (all_c (at_ 3 rfl) (all_c (at_ 4 rfl) all_n)), hoc9, hrow, xx _ _ hst' (fun q => ?_), Mine.stop_in fun j h1 h2 => ?_⟩
        · rcases List.mem_cons.mp q with q | q
          · exact neL q.symm
          rcases List.mem_cons.mp q with q | q
          · exact neR q.symm
          · exact neC (List.mem_singleton.mp q).symm
        · rcases Nat.lt_or_eq_of_le h2 with q | rfl
          · exact hpass j h1 (by omega)
          · unfold tst
            generalize (i + 1) * (i + 1 - 1) = M at hgt ⊢
            omega
  case fin =>
    rintro s' h' tk ⟨h, tk0, m, oc, cv, rfl, F7, N7, hoc, hrow, st, hpass⟩ x'
    have F8 := fr_ext F7 x' (fun q => neL (List.mem_singleton.mp q)) (all_c hIg all_n)
    have N8 := news_ext N7 x' (all_c (fun q => neR (List.mem_singleton.mp q)) (all_c (fun q => neC (List.mem_singleton.mp q)) all_n))
    clear F7 N7 F6 N6
    k_steps
    refine Mine.stop_out ?_
    refine sumK rfl F8 N8 ⟨_, (N8 _ (.head _)).1, rfl, _, rfl⟩ hiR ?_
    intro h9 tk9 t9 F9 N9
    rw [zI_sum]
    clear F8 N8
    k_steps
    have e2 : (((srtN ns).sum : Int).fmod 2 == 0) = ((srtN ns).sum % 2 == 0) := by
      rw [Int.fmod_eq_emod_of_nonneg _ (by decide), Bool.eq_iff_iff, beq_iff_eq, beq_iff_eq]
      omega
    have e : EG ns = ((srtN ns).sum % 2 == 0) := egD_true hpass
    rw [e2, ← e]
    exact hQ h9 _ (ext_of_keep F9.keep)
end Mine
end
section
open PySem PySem.W PyProof.Rows PySem.Calls PySem.Spec PyProof.V
set_option maxRecDepth 100000
namespace Mine
theorem fillLw1 : (∀ w : World, hd.heap_39 w.params = hd.heap_39 w.params) ∧ PySem.Challenge.rw_uc0036_01.foot = 6 := by
  k_fill
  w_top off
  exact ⟨fun _ => rfl, rfl⟩
noncomputable abbrev lwEnv (w : World) (L fa : Addr) (cd : Value) : Env := envOfC (Str.ofString "law") (scopeAt w 263) L fa cd
open LCg in
/-- a comprehension whose turns lay new things -/
theorem comp_V {prog : Program} {w : World} {A : Around} {h₀ : Heap} {L : Addr} {m : Str → Option Value} {env : Env} {elt : Expr} {x : Str} {scope : Scope} {cl : List (Str × Addr)} {s : Shared} {S : List (Addr × Obj) → Prop} {P : Nat → Value → Prop}
    {Fin : List Value → List (Addr × Obj) → Prop} (n : Nat) (J : Nat → List Value → List (Addr × Obj) → Prop)
    (step : ∀ i ys news, i < n → J i ys news → ∀ v I oI C oC D m₂ h tk (E' : Value → Shared → Prop), P i v → NsObj oC m₂ → m₂ x = some v → Fr h₀ L h m → News h₀ L h ((I, oI) :: (C, oC) :: (D, lst ys) :: news) → Off3 I C D news → ((@Ne Nat I C) ∧ (@Ne Nat I D) ∧ (@Ne Nat C D)) →
      wpAny (model prog w) A (eval elt (compEnvC scope cl C env)) (CompEnd h₀ L m { s with heap := h, toks := tk } I oI C oC D (lst ys) S (fun y news' => J (i + 1) (ys ++ [y]) news')) E' { s with heap := h, toks := tk })
    (fin : ∀ ys news, J n ys news → Fin ys news) : ∀ k i ys news, i + k = n → J i ys news → CompRest prog w A h₀ L m env elt x scope cl s S P Fin k i ys news
  | 0, i, ys, news, e, j => fin ys news (by rw [← e]; exact j)
  | k + 1, i, ys, news, e, j => by
    intro v I oI C oC D m₂ h tk E' h1 h2 h3 h4 h5 h6 h7
    exact wpAny_mono (step i ys news (by omega) j v I oI C oC D m₂ h tk E' h1 h2 h3 h4 h5 h6 h7) (fun y s' z => compEnd_mono z fun nw e2 => comp_V n J step fin k (i + 1) _ nw (by omega) e2) fun _ _ q => q
open LCg in
theorem cend_new {h₀ : Heap} {L I C D ta : Addr} {m : Str → Option Value} {s₁ : Shared} {oI oC oD to : Obj} {S : List (Addr × Obj) → Prop} {rest : Value → List (Addr × Obj) → Prop} {y : Value} {h' : Heap} {tk : Nat} {news : List (Addr × Obj)}
    (F : Fr h₀ L h' m) (N : News h₀ L h' ((ta, to) :: (I, oI) :: (C, oC) :: (D, oD) :: news)) (l : I < ta ∧ C < ta ∧ D < ta) (off : Off3 I C D news) (hS : S ((ta, to) :: news)) (r : rest y ((ta, to) :: news)) :
    CompEnd h₀ L m s₁ I oI C oC D oD S rest y { s₁ with heap := h', toks := tk } :=
  CompEnd.intro F N ((ta, to) :: news) (fun p hp => by
    rcases List.mem_cons.mp hp with rfl | hp
    · exact .tail _ (.head _)
    rcases List.mem_cons.mp hp with rfl | hp
    · exact .tail _ (.tail _ (.head _))
    rcases List.mem_cons.mp hp with rfl | hp
    · exact .tail _ (.tail _ (.tail _ (.head _)))
    rcases List.mem_cons.mp hp with rfl | hp
    · exact .head _
    · exact .tail _ (.tail _ (.tail _ (.tail _ hp)))) ⟨⟨Nat.ne_of_gt l.1, Nat.ne_of_gt l.2.1, Nat.ne_of_gt l.2.2⟩, off⟩ hS r
local macro_rules | `(tactic| k_all) => `(tactic| assumption)
local macro_rules | `(tactic| walk_at "eval Name") => `(tactic| (k_here; k_dflt (refine' nameX_L ?F ?v ?_ ?a ?b; (case F => k_asm); (case a => rfl); (case b => rfl); (case v => assumption); k_whole)))
local macro_rules | `(tactic| walk_at "exec Assign cons ListComp") => `(tactic| refine Mine.stop_in ?_)
local macro_rules | `(tactic| walk_at "CompSrc") => `(tactic| refine Mine.stop_in ?_)
local macro_rules | `(tactic| walk_at "subscriptTail Name Slice ref ref") => `(tactic| refine Mine.stop_in ?_)
local macro_rules | `(tactic| walk_at "call builtin:sum") => `(tactic| refine Mine.stop_in ?_)
set_option maxHeartbeats 8000000 in
theorem lwP1 {w : World} {p : Program} {loose : List Str} {mean : ExcName → Option Value} {mg mb : Str → Option Value} {dp un : Nat} {fr : Option (List Env)} {gd : Option (List Code)} {s : Shared} {B : List Stmt} (hB : B = bodyAt w 263)
   {g : Heap} {L fa sl : Addr} {cd : Value} {c1 : Obj} {m : Str → Option Value} {D : List (Addr × Obj)} {vs : List Value} {ns : List Int}
   (X : (hd.heap_39 w.params).In g) (T : Top p loose mean mg mb g) (F0 : Fr g L s.heap m) (N0 : News g L s.heap ((L + 1, c1) :: D)) (hc1 : c1.data = .cell (some (.ref sl))) (hl : g.IsList sl vs.toArray) (hi : IntsAre vs ns) (hlen : vs.length ≤ 63) :
   wpAny (MM w) (AA dp un fr gd) (execs (B.take 1) (lwEnv w L fa cd)) (fun fl s' => Stop (∃ h' tk dr ys ds, fl = .next ∧ s' = { s with heap := h', toks := tk } ∧ Fr g L h' (fun z => if z = Str.ofString "draws" then some (.ref dr) else m z) ∧ News g L h' ((dr, LCg.lst ys) :: (L + 1, c1) :: D) ∧ LCg.Off1 dr ((L + 1, c1) :: D) ∧ IntsAre ys ds ∧ ds.length = 7)) (fun _ _ => False) s := by
  subst hB
  conv in List.take 1 (bodyAt w 263) => whnf
  dsimp only [lwEnv]
  conv in scopeAt w 263 => whnf
  refine post_out ?_
  intro Q hQ
  simp only [List.take_succ_cons, List.take_zero]
  k_steps
  refine Mine.stop_out ?_
  k_dflt (refine LCg.Assign_ListComp_U F0 rfl (by with_unfolding_all rfl) (by with_unfolding_all rfl) (by decide) (by rfl) (by decide) (by rfl) (by rfl) (by rfl) ?_)
  k_steps
  rename Fr _ _ _ _ => F1
  rename News _ _ _ _ => N1
  refine Mine.stop_out ?_
  have hr := ‹IsRange _ _ 0 7 1 _ _ _›
  refine LCg.CompSrc.range rfl F1 N1 hr (by decide) (n := 7) rfl (by decide) ?_
  intro g'
  refine comp_V 7 (fun i ys news => news = (L + 1, c1) :: D ∧ ∃ ds, IntsAre ys ds ∧ ds.length = i) ?_ ?_ _ 0 [] _ (by rfl) ⟨rfl, [], .nil, rfl⟩
  · rintro i ys _ hi7 ⟨rfl, ds, hys, hds⟩ v I oI CC oC D' m₂ h tk E' ⟨tv, rfl⟩ hC hx F2 N2 hoff hne
    have e0 : (0 : Int) + (i : Int) = (i : Int) := by omega
    rw [e0] at hx
    clear F1 N1 hr
    k_steps
    rename Fr _ _ _ _ => F3
    rename News _ _ _ _ => N3
    refine Mine.stop_out ?_
    refine kmk_slice3_lit F3 N3 (stays_list F3.keep hl) (by kmk_part) (by kmk_part) (by kmk_part) (by decide) rfl ?_ (by with_unfolding_all rfl) (by kmk_pure) (by show vs.toArray.size ≤ 16777216; rw [List.size_toArray]; omega)
    intro D4 h4 F4 N4 l4
    clear F3 N3 l4
    k_steps
    refine Mine.stop_out ?_
    refine sumK rfl F4 N4 ⟨_, (N4 _ (.head _)).1, rfl, _, rfl⟩ (hi.pick _ _ _) ?_
    intro h5 tk5 t5 F5 N5
    clear F4 N4
    k_steps
    exact LCg.CompEnd.intro F5 N5 _ (fun p hp => .tail _ (.tail _ hp)) hoff trivial ⟨rfl, ds ++ [_], hys.append (.cons _ _ .nil), by simp [hds]⟩
  · rintro ys _ ⟨rfl, ds, hys, hds⟩ dr h tk F3 N3 off
    dsimp only
    k_steps
    exact hQ _ _ ⟨h, _, dr, ys, ds, rfl, rfl, F3, N3, off, hys, hds⟩
theorem off1_mem {D : Addr} : ∀ {l : List (Addr × Obj)}, LCg.Off1 D l → ∀ p ∈ l, p.1 ≠ D
  | [], _, _, h => nomatch h
  | _ :: _, x, p, h => by
    rcases List.mem_cons.mp h with rfl | h
    · exact x.1
    · exact off1_mem x.2 p h
theorem off1_of {D : Addr} : ∀ {l : List (Addr × Obj)}, (∀ p ∈ l, p.1 ≠ D) → LCg.Off1 D l
  | [], _ => trivial
  | _ :: _, h => ⟨h _ (.head _), off1_of fun p hp => h p (.tail _ hp)⟩
noncomputable def GAtL (g h : Heap) (items : List Value) (G : Gs) : Prop := items.length = 6 ∧ ∀ i, i < 6 → ∃ a tw tm, items[i]? = some (Value.ref a) ∧ h.get? a = some (tupO #[.int (G i).1 tw, .int (G i).2 tm]) ∧ g.get? a = none
noncomputable abbrev gOf (ds : List Int) : Gs := fun i => (((ds.getD i 0).fmod 6).toNat, (((ds.getD i 0).fdiv 6).fmod 4096).toNat)
theorem gOf_1 (ds : List Int) (k : Nat) : (gOf ds k).1 < 6 ∧ ((gOf ds k).1 : Int) = (ds.getD k 0).fmod 6 := by
  have h1 : 0 ≤ (ds.getD k 0).fmod 6 := Int.fmod_nonneg_of_pos _ (by decide)
  have h2 : (ds.getD k 0).fmod 6 < 6 := Int.fmod_lt_of_pos _ (by decide)
  show ((ds.getD k 0).fmod 6).toNat < 6 ∧ (((ds.getD k 0).fmod 6).toNat : Int) = _
  omega
theorem gOf_2 (ds : List Int) (k : Nat) : (gOf ds k).2 < 4096 ∧ ((gOf ds k).2 : Int) = ((ds.getD k 0).fdiv 6).fmod 4096 := by
  have h1 : 0 ≤ ((ds.getD k 0).fdiv 6).fmod 4096 := Int.fmod_nonneg_of_pos _ (by decide)
  have h2 : ((ds.getD k 0).fdiv 6).fmod 4096 < 4096 := Int.fmod_lt_of_pos _ (by decide)
  show (((ds.getD k 0).fdiv 6).fmod 4096).toNat < 4096 ∧ ((((ds.getD k 0).fdiv 6).fmod 4096).toNat : Int) = _
  omega
set_option maxHeartbeats 8000000 in
theorem lwP2 {w : World} {p : Program} {loose : List Str} {mean : ExcName → Option Value} {mg mb : Str → Option Value} {dp un : Nat} {fr : Option (List Env)} {gd : Option (List Code)} {s : Shared} {B : List Stmt} (hB : B = bodyAt w 263)
   {g : Heap} {L fa dr : Addr} {cd : Value} {m : Str → Option Value} {D : List (Addr × Obj)} {ys : List Value} {ds : List Int}
   (X : (hd.heap_39 w.params).In g) (T : Top p loose mean mg mb g) (F0 : Fr g L s.heap m) (N0 : News g L s.heap ((dr, LCg.lst ys) :: D)) (hi : IntsAre ys ds) (hlen : ds.length = 7) (m1 : m (Str.ofString "draws") = some (.ref dr)) :
   wpAny (MM w) (AA dp un fr gd) (execs ((B.drop 1).take 1) (lwEnv w L fa cd)) (fun fl s' => Stop (∃ h' tk ga gs, fl = .next ∧ s' = { s with heap := h', toks := tk } ∧ Fr g L h' (fun z => if z = Str.ofString "guests" then some (.ref ga) else m z) ∧ News g L h' ((ga, LCg.lst gs) :: (dr, LCg.lst ys) :: D) ∧ LCg.Off1 ga ((dr, LCg.lst ys) :: D) ∧ GAtL g h' gs (gOf ds))) (fun _ _ => False) s := by
  subst hB
  conv in List.take 1 (List.drop 1 (bodyAt w 263)) => whnf
  dsimp only [lwEnv]
  conv in scopeAt w 263 => whnf
  refine post_out ?_
  intro Q hQ
  simp only [List.take_succ_cons, List.take_zero]
  have hyl := hi.length
  k_steps
  refine Mine.stop_out ?_
  k_dflt (refine LCg.Assign_ListComp_U F0 rfl (by with_unfolding_all rfl) (by with_unfolding_all rfl) (by decide) (by rfl) (by decide) (by rfl) (by rfl) (by rfl) ?_)
  k_steps
  rename Fr _ _ _ _ => F1
  rename News _ _ _ _ => N1
  refine Mine.stop_out ?_
  refine kms_slice_lit F1 N1 ⟨_, (N1 _ (.head _)).1, rfl, _, rfl⟩ (by kmk_part) (by kmk_part) (pick_take (n := 6) rfl) ?_ (by with_unfolding_all rfl) (by kmk_pure) (by show ys.toArray.size ≤ 16777216; rw [List.size_toArray]; omega)
  intro D2 h2 F2 N2 l2
  clear F1 N1
  k_steps
  refine Mine.stop_out ?_
  refine LCg.CompSrc.ledger rfl F2 N2 (.head _) (by show Array.size _ ≤ 16777216; simp; omega) ?_
  intro g'
  refine comp_V 6 (fun i zs news => (∀ p ∈ (D2, listOf (List.take 6 ys.toArray.toList).toArray 0) :: (dr, LCg.lst ys) :: D, p ∈ news) ∧ zs.length = i ∧ ∀ j, j < i → ∃ a tw tm, zs[j]? = some (Value.ref a) ∧ (a, tupO #[.int (gOf ds j).1 tw, .int (gOf ds j).2 tm]) ∈ news) ?_ ?_ _ 0 [] _ (by simp; omega) ⟨fun _ h => h, rfl, fun j hj => absurd hj (Nat.not_lt_zero _)⟩
  · rintro i zs news hi6 hJ v I oI CC oC D' m₂ h tk E' hv hC hx F3 N3 hoff hne
    obtain ⟨x, tx, ex, rfl⟩ := intsAre_at (hi.take 6) (show (ys.take 6)[i]? = some v by simpa using hv)
    have exd : ds.getD i 0 = x := by
      have ex' : ds[i]? = some x := by simpa [List.getElem?_take, hi6] using ex
      rw [List.getD_eq_getElem?_getD, ex']; rfl
    clear hv ex
    have hJ' : True ∧ _ := ⟨trivial, hJ⟩
    clear hJ
    k_steps
    rename Fr _ _ _ _ => F5
    rename News _ _ _ _ => N5
    rename_i ta th l5
    obtain ⟨hb, hzl, hz⟩ := hJ'.2
    refine cend_new F5 N5 ⟨l5.1, l5.2.1, l5.2.2.1⟩ hoff (.inr ⟨_, .tail _ (hb _ (.head _)), rfl, _, rfl⟩) ⟨fun p hp => .tail _ (hb p hp), by simp [hzl], fun j hj => ?_⟩
    · rcases Nat.lt_or_eq_of_le (Nat.le_of_lt_succ hj) with q | rfl
      · obtain ⟨a, tw, tm, e1, e2⟩ := hz j q
        exact ⟨a, tw, tm, by rw [List.getElem?_append_left (by omega)]; exact e1, .tail _ e2⟩
      · have q1 := (gOf_1 ds j).2
        have q2 := (gOf_2 ds j).2
        rw [exd] at q1 q2
        rw [q1, q2]
        exact ⟨ta, _, _, by rw [List.getElem?_append_right (by omega), hzl, Nat.sub_self]; rfl, .head _⟩
  · rintro zs news ⟨hb, hzl, hz⟩ ga h tk F4 N4 off
    dsimp only
    k_steps
    refine hQ _ _ ⟨h, _, ga, zs, rfl, rfl, F4, news_sub N4 (fun p hp => ?_), ?_, hzl, fun j hj => ?_⟩
    · rcases List.mem_cons.mp hp with rfl | hp
      · exact .head _
      · exact .tail _ (hb _ (.tail _ hp))
    · exact off1_of fun p hp => off1_mem off p (hb p (.tail _ hp))
    · obtain ⟨a, tw, tm, e1, e2⟩ := hz j hj
      exact ⟨a, tw, tm, e1, (N4 _ (.tail _ e2)).1, (N4 _ (.tail _ e2)).2.2⟩
end Mine
end
section
open PySem PySem.W PyProof.Rows PySem.Calls PySem.Spec PyProof.V
set_option maxRecDepth 100000
namespace Mine
/-- where the law stands -/
structure LwS (w : World) (g : Heap) (L : Addr) (z : Ad) (ga dr fd : Addr) (gs ys : List Value) (G : Gs) (H : List Ln) (c2 c3 : Obj) (h : Heap) (m : Str → Option Value) : Prop where
  F : Fr g L h m
  N : News g L h [(ga, LCg.lst gs), (dr, LCg.lst ys), (L + 1 + 1, c2), (L + 1 + 1 + 1, c3)]
  W : Ws h z H H (fun k => gets H (nmA k))
  T : Tabs h
  A : GAtL g h gs G
  D : FdAt w h fd z.fl
  nd : z.sup0.Nodup
  no : ∀ a ∈ z.sup0, g.get? a = none
  off : ∀ a ∈ [L, ga, dr, L + 1 + 1, L + 1 + 1 + 1, fd], a ∉ z.sup0
  e2 : c2.data = .cell (some (.ref z.tb))
  e3 : c3.data = .cell (some (.ref fd))
  m1 : m (Str.ofString "guests") = some (.ref ga)
  m2 : m (Str.ofString "draws") = some (.ref dr)
  m3 : m (Str.ofString "laid") = some (.ref z.ld)
  nf : fd ≠ L ∧ g.get? fd = none
noncomputable def Asc : List Nat → Prop
  | a :: b :: r => a < b ∧ Asc (b :: r)
  | _ => True
theorem asc_lt : ∀ {r : List Nat} {a : Nat}, Asc (a :: r) → ∀ x ∈ r, a < x
  | b :: r, a, h, x, hx => by
    rcases List.mem_cons.mp hx with rfl | hx
    · exact h.1
    · exact Nat.lt_trans h.1 (asc_lt h.2 x hx)
theorem asc_tail : ∀ {r : List Nat} {a : Nat}, Asc (a :: r) → Asc r
  | [], _, _ => trivial
  | _ :: _, _, h => h.2
theorem asc_nodup : ∀ {l : List Nat}, Asc l → l.Nodup
  | [], _ => .nil
  | a :: r, h => List.nodup_cons.mpr ⟨fun q => Nat.lt_irrefl _ (asc_lt h a q), asc_nodup (asc_tail h)⟩
theorem sup0_perm (z : Ad) : (z.sup0 : List Nat).Perm (([238, 245, 250] ++ ([z.hl, z.dx, z.tb] ++ [z.ld])) ++ [z.fl 0, z.fl 1, z.fl 2, z.fl 3, z.fl 4, z.fl 5]) :=
  have p1 : ([z.tb, z.dx, z.hl] : List Nat).Perm [z.hl, z.dx, z.tb] := List.reverse_perm [z.hl, z.dx, z.tb]
  have p2 : (([z.tb, z.dx, z.hl] ++ [z.ld]) ++ [238, 245, 250] : List Nat).Perm ([238, 245, 250] ++ ([z.hl, z.dx, z.tb] ++ [z.ld])) := List.perm_append_comm.trans ((p1.append_right _).append_left _)
  p2.append_right [z.fl 0, z.fl 1, z.fl 2, z.fl 3, z.fl 4, z.fl 5]
theorem sup0_nodup (z : Ad) (h : Asc [238, 245, 250, z.hl, z.dx, z.tb, z.ld, z.fl 0, z.fl 1, z.fl 2, z.fl 3, z.fl 4, z.fl 5]) : z.sup0.Nodup :=
  (sup0_perm z).nodup_iff.mpr (asc_nodup h)
/-- a place ahead of all that was laid -/
theorem sup0_out (z : Ad) {x : Nat} (h : Asc [x, z.hl, z.dx, z.tb, z.ld, z.fl 0, z.fl 1, z.fl 2, z.fl 3, z.fl 4, z.fl 5]) (hP : ∀ P ∈ ([238, 245, 250] : List Nat), P ≠ x) : x ∉ z.sup0 := fun q => by
  have q : x ∈ [238, 245, 250] ++ [z.hl, z.dx, z.tb, z.ld, z.fl 0, z.fl 1, z.fl 2, z.fl 3, z.fl 4, z.fl 5] := (sup0_perm z).mem_iff.mp q
  rcases (List.mem_append (s := [238, 245, 250])).mp q with q | q
  · exact hP x q rfl
  · exact Nat.lt_irrefl _ (asc_lt h x q)
/-- a place laid between -/
theorem sup0_mid (z : Ad) {x : Nat} (h : Asc [238, 245, 250, z.hl, z.dx, z.tb, z.ld, x, z.fl 0, z.fl 1, z.fl 2, z.fl 3, z.fl 4, z.fl 5]) : x ∉ z.sup0 := fun q => by
  have p : ([238, 245, 250, z.hl, z.dx, z.tb, z.ld, x, z.fl 0, z.fl 1, z.fl 2, z.fl 3, z.fl 4, z.fl 5] : List Nat).Perm (x :: (([238, 245, 250] ++ ([z.hl, z.dx, z.tb] ++ [z.ld])) ++ [z.fl 0, z.fl 1, z.fl 2, z.fl 3, z.fl 4, z.fl 5])) := List.perm_middle (l₁ := [238, 245, 250, z.hl, z.dx, z.tb, z.ld])
  exact (List.nodup_cons.mp (p.nodup_iff.mp (asc_nodup h))).1 ((sup0_perm z).mem_iff.mp q)
theorem ne250 {x : Nat} (h : 250 < x) : ∀ P ∈ ([238, 245, 250] : List Nat), P ≠ x :=
  all_c (by omega) (all_c (by omega) (all_c (by omega) all_n))
theorem tab_empty {h : Heap} {P : Addr} {qual : Str} (e : h.get? P = some (tabObj #[])) : TabOk h P qual := ⟨#[], e, trivial, fun pos c hc => by simp [codeAmong] at hc⟩
theorem gatL_ext {g h h' : Heap} {gs : List Value} {G : Gs} {S : List Addr} (x : GAtL g h gs G) (k : Ext S h h') (hM : Muts h S) : GAtL g h' gs G :=
  ⟨x.1, fun i hi => let ⟨a, tw, tm, e1, e2, e3⟩ := x.2 i hi; ⟨a, tw, tm, e1, k _ _ e2 fun q => (by
    obtain ⟨o, ho, hc, _⟩ := hM _ q
    rw [e2] at ho; cases ho; exact hc rfl _ _ rfl), e3⟩⟩
theorem gatL_at {g h : Heap} {ga : Addr} {gs : List Value} {G : Gs} (x : GAtL g h gs G) (hl : h.IsList ga gs.toArray) : GAt h ga G := ⟨gs, hl, x.1, fun i hi => let ⟨a, tw, tm, e1, e2, _⟩ := x.2 i hi; ⟨a, tw, tm, e1, e2⟩⟩
theorem lwS_of {w : World} {g h : Heap} {L ga dr fd tb dx hl ld t1 t2 f0 f1 f2 f3 f4 f5 : Addr} {gs ys : List Value} {G : Gs} {c2 c3 od : Obj} {m : Str → Option Value} {cs : List (Addr × Obj)} {ua ub va vb s0 s1 s2 s3 s4 s5 : Tok} {hs : Int} {kt : Nat} {R1 R2 R3 R4 R5 R6' R7 R8 R9 : Prop}
   (F : Fr g L h m) (N : News g L h ((f5, lstO #[] 0) :: (f4, lstO #[] 0) :: (f3, lstO #[] 0) :: (f2, lstO #[] 0) :: (f1, lstO #[] 0) :: (f0, lstO #[] 0) :: (fd, od) :: (ld, lstO #[.ref t2] 0) :: (t2, tupO #[.str (Str.ofString "fab") va, .str (Str.ofString "e") vb]) ::
     (tb, instObj 182 dx) :: (dx, hdrD hs kt 1 hl) :: (hl, lstO #[.ref t1] 0) :: (t1, tupO #[.str (Str.ofString "fab") ua, .str (Str.ofString "e") ub]) :: (L + 1 + 1, c2) :: (L + 1 + 1 + 1, c3) :: (ga, LCg.lst gs) :: (dr, LCg.lst ys) :: (238, tabObj #[]) :: (245, tabObj #[]) :: (250, tabObj #[]) :: cs))
   (n5 : @LT.lt Nat _ 250 L) (hga : ∀ P ∈ ([238, 245, 250] : List Addr), P ≠ ga) (hdr : ∀ P ∈ ([238, 245, 250] : List Addr), P ≠ dr)
   (l1 : @LT.lt Nat _ (L + 1 + 1) t1 ∧ @LT.lt Nat _ (L + 1 + 1 + 1) t1 ∧ @LT.lt Nat _ ga t1 ∧ @LT.lt Nat _ dr t1) (l2 : @LT.lt Nat _ t1 hl) (l3 : @LT.lt Nat _ hl dx) (l4 : @LT.lt Nat _ dx tb)
   (q1 : @LT.lt Nat _ tb t2 ∧ R1) (q2 : @LT.lt Nat _ t2 ld ∧ R2) (q3 : @LT.lt Nat _ ld fd ∧ R3) (q4 : @LT.lt Nat _ fd f0 ∧ R4) (q5 : @LT.lt Nat _ f0 f1 ∧ R5) (q6 : @LT.lt Nat _ f1 f2 ∧ R6') (q7 : @LT.lt Nat _ f2 f3 ∧ R7) (q8 : @LT.lt Nat _ f3 f4 ∧ R8) (q9 : @LT.lt Nat _ f4 f5 ∧ R9)
   (hod : od.IsDictOf (strKind PySem.Challenge.rw_uc0036_01.prog w) (strPairs [(.str (Str.ofString "a") s0, .ref f0), (.str (Str.ofString "b") s1, .ref f1), (.str (Str.ofString "c") s2, .ref f2), (.str (Str.ofString "d") s3, .ref f3), (.str (Str.ofString "e") s4, .ref f4), (.str (Str.ofString "f") s5, .ref f5)]))
   (hA : GAtL g h gs G) (e2 : c2.data = .cell (some (.ref tb))) (e3 : c3.data = .cell (some (.ref fd))) (m1 : m (Str.ofString "guests") = some (.ref ga)) (m2 : m (Str.ofString "draws") = some (.ref dr)) (m3 : m (Str.ofString "laid") = some (.ref ld)) :
   LwS w g L { tb := tb, dx := dx, hl := hl, ld := ld, lf := 0, fl := fun i => [f0, f1, f2, f3, f4, f5].getD i 0 } ga dr fd gs ys G H0 c2 c3 h m := by
  have a1 : @LT.lt Nat _ tb ld := Nat.lt_trans q1.1 q2.1
  have a2 : @LT.lt Nat _ ld f0 := Nat.lt_trans q3.1 q4.1
  have a3 : @LT.lt Nat _ 250 hl := Nat.lt_trans (Nat.lt_trans (Nat.lt_trans (Nat.lt_trans n5 (Nat.lt_succ_self L)) (Nat.lt_succ_self (L + 1))) l1.1) l2
  have as0 : Asc [tb, ld, f0, f1, f2, f3, f4, f5] := ⟨a1, a2, q5.1, q6.1, q7.1, q8.1, q9.1, trivial⟩
  have n7 : 250 < L + 1 + 1 := Nat.lt_trans (Nat.lt_trans n5 (Nat.lt_succ_self L)) (Nat.lt_succ_self (L + 1))
  have out : ∀ x, (@LT.lt Nat _ x t1) → (∀ P ∈ ([238, 245, 250] : List Nat), P ≠ x) → x ∉ ([tb, dx, hl, ld, 238, 245, 250, f0, f1, f2, f3, f4, f5] : List Nat) := fun x hx hP =>
    sup0_out { tb := tb, dx := dx, hl := hl, ld := ld, lf := 0, fl := fun i => [f0, f1, f2, f3, f4, f5].getD i 0 } ⟨Nat.lt_trans hx l2, l3, l4, as0⟩ hP
  refine ⟨F, news_sub N (all_c (at_ 15 rfl) (all_c (at_ 16 rfl) (all_c (at_ 13 rfl) (all_c (at_ 14 rfl) all_n)))),
    ⟨(N (tb, instObj 182 dx) (at_ 9 rfl)).1, ⟨hs, kt, 1, (N (dx, hdrD hs kt 1 hl) (at_ 10 rfl)).1⟩, ⟨[.ref t1], 0, (N (hl, lstO #[.ref t1] 0) (at_ 11 rfl)).1, .cons ⟨t1, ua, ub, rfl, (N (t1, tupO #[.str (Str.ofString "fab") ua, .str (Str.ofString "e") ub]) (at_ 12 rfl)).1⟩ .nil⟩, ⟨[.ref t2], 0, (N (ld, lstO #[.ref t2] 0) (at_ 7 rfl)).1, .cons ⟨t2, va, vb, rfl, (N (t2, tupO #[.str (Str.ofString "fab") va, .str (Str.ofString "e") vb]) (at_ 8 rfl)).1⟩ .nil⟩, fun k hk => ⟨[], 0, ?_, by rw [gets_H0 hk]; exact .nil⟩⟩,
    ⟨tab_empty (N (238, tabObj #[]) (at_ 17 rfl)).1, tab_empty (N (245, tabObj #[]) (at_ 18 rfl)).1, tab_empty (N (250, tabObj #[]) (at_ 19 rfl)).1⟩, hA, ⟨_, Heap.dictOf_iff.mpr ⟨_, (N (fd, od) (at_ 6 rfl)).1, hod⟩, fun k hk => ?_⟩,
    sup0_nodup _ ⟨by decide, by decide, a3, l3, l4, as0⟩,
    all_c (N (tb, instObj 182 dx) (at_ 9 rfl)).2.2 (all_c (N (dx, hdrD hs kt 1 hl) (at_ 10 rfl)).2.2 (all_c (N (hl, lstO #[.ref t1] 0) (at_ 11 rfl)).2.2 (all_c (N (ld, lstO #[.ref t2] 0) (at_ 7 rfl)).2.2
      (all_c (N (238, tabObj #[]) (at_ 17 rfl)).2.2 (all_c (N (245, tabObj #[]) (at_ 18 rfl)).2.2 (all_c (N (250, tabObj #[]) (at_ 19 rfl)).2.2
      (all_c (N (f0, lstO #[] 0) (at_ 5 rfl)).2.2 (all_c (N (f1, lstO #[] 0) (at_ 4 rfl)).2.2 (all_c (N (f2, lstO #[] 0) (at_ 3 rfl)).2.2 (all_c (N (f3, lstO #[] 0) (at_ 2 rfl)).2.2 (all_c (N (f4, lstO #[] 0) (at_ 1 rfl)).2.2 (all_c (N (f5, lstO #[] 0) (at_ 0 rfl)).2.2 all_n)))))))))))),
    all_c (out _ (Nat.lt_trans (Nat.lt_trans (Nat.lt_succ_self L) (Nat.lt_succ_self (L + 1))) l1.1) (ne250 n5)) (all_c (out _ l1.2.2.1 hga) (all_c (out _ l1.2.2.2 hdr) (all_c (out _ l1.1 (ne250 n7)) (all_c (out _ l1.2.1 (ne250 (Nat.lt_trans n7 (Nat.lt_succ_self (L + 1 + 1))))) (all_c
      (sup0_mid { tb := tb, dx := dx, hl := hl, ld := ld, lf := 0, fl := fun i => [f0, f1, f2, f3, f4, f5].getD i 0 } ⟨by decide, by decide, a3, l3, l4, a1, q3.1, q4.1, q5.1, q6.1, q7.1, q8.1, q9.1, trivial⟩) all_n))))), e2, e3, m1, m2, m3, (N (fd, od) (at_ 6 rfl)).2⟩
  · rcases lt6 hk with rfl | rfl | rfl | rfl | rfl | rfl
    · exact (N (f0, lstO #[] 0) (at_ 5 rfl)).1
    · exact (N (f1, lstO #[] 0) (at_ 4 rfl)).1
    · exact (N (f2, lstO #[] 0) (at_ 3 rfl)).1
    · exact (N (f3, lstO #[] 0) (at_ 2 rfl)).1
    · exact (N (f4, lstO #[] 0) (at_ 1 rfl)).1
    · exact (N (f5, lstO #[] 0) (at_ 0 rfl)).1
  · rcases lt6 hk with rfl | rfl | rfl | rfl | rfl | rfl <;> rfl
section
variable {w : World} {g h h' : Heap} {L ga dr fd : Addr} {z : Ad} {gs ys : List Value} {G : Gs} {H : List Ln} {c2 c3 : Obj} {m m' : Str → Option Value} {S : List Addr}
theorem Ws.muts (x : Ws h z H H (fun k => gets H (nmA k))) (t : Tabs h) : Muts h z.sup0 := by
  obtain ⟨i3, n3, a3, _⟩ := x.hl
  obtain ⟨i4, n4, a4, _⟩ := x.ld
  obtain ⟨hs, n1, k1, a2⟩ := x.dx
  have fl : ∀ k, k < 6 → ∃ o, h.get? (z.fl k) = some o ∧ Mut o := fun k hk => let ⟨_, _, e, _⟩ := x.fl k hk; ⟨_, e, mut_list _ _⟩
  refine muts_cons ⟨_, x.tb, mut_inst _ _⟩ (muts_cons ⟨_, a2, mut_dict rfl⟩ (muts_cons ⟨_, a3, mut_list _ _⟩ (muts_cons ⟨_, a4, mut_list _ _⟩ (muts_cons t.t1.mut (muts_cons t.t2.mut (muts_cons t.t3.mut ?_))))))
  exact muts_cons (fl 0 (by decide)) (muts_cons (fl 1 (by decide)) (muts_cons (fl 2 (by decide)) (muts_cons (fl 3 (by decide)) (muts_cons (fl 4 (by decide)) (muts_cons (fl 5 (by decide)) (muts_nil _))))))
theorem FdAt.ext {fl : Nat → Addr} (x : FdAt w h fd fl) (k : Ext S h h') (d : fd ∉ S) : FdAt w h' fd fl := by
  obtain ⟨kvs, ⟨o, es, ep, ho, r⟩, h2⟩ := x
  exact ⟨kvs, ⟨o, es, ep, k _ _ ho d, r⟩, h2⟩
/-- a stretch that changes other things -/
theorem LwS.step (x : LwS w g L z ga dr fd gs ys G H c2 c3 h m) (k : Ext S h h') (hM : Muts h S) (d : ∀ a ∈ z.sup0, a ∉ S) (d2 : ∀ a ∈ [ga, dr, L + 1 + 1, L + 1 + 1 + 1, fd], a ∉ S) (F' : Fr g L h' m')
   (e1 : m' (Str.ofString "guests") = some (.ref ga)) (e2 : m' (Str.ofString "draws") = some (.ref dr)) (e3 : m' (Str.ofString "laid") = some (.ref z.ld)) : LwS w g L z ga dr fd gs ys G H c2 c3 h' m' where
  F := F'
  N := news_ext x.N k (all_c (d2 _ (at_ 0 rfl)) (all_c (d2 _ (at_ 1 rfl)) (all_c (d2 _ (at_ 2 rfl)) (all_c (d2 _ (at_ 3 rfl)) all_n))))
  W := x.W.ext k hM d
  T := x.T.ext k hM (d _ (tab_in (.inl rfl))) (d _ (tab_in (.inr (.inl rfl)))) (d _ (tab_in (.inr (.inr rfl))))
  A := gatL_ext x.A k hM
  D := x.D.ext k (d2 _ (at_ 4 rfl))
  nd := x.nd
  no := x.no
  off := x.off
  e2 := x.e2
  e3 := x.e3
  m1 := e1
  m2 := e2
  m3 := e3
  nf := x.nf
theorem LwS.frame (x : LwS w g L z ga dr fd gs ys G H c2 c3 h m) (k : Ext [L] h h') (F' : Fr g L h' m')
   (e1 : m' (Str.ofString "guests") = some (.ref ga)) (e2 : m' (Str.ofString "draws") = some (.ref dr)) (e3 : m' (Str.ofString "laid") = some (.ref z.ld)) : LwS w g L z ga dr fd gs ys G H c2 c3 h' m' := by
  refine x.step k (muts_cons (mut_ns x.F.ns) (muts_nil _)) (fun a ha q => ?_) (all_c ?_ (all_c ?_ (all_c ?_ (all_c ?_ (all_c ?_ all_n))))) F' e1 e2 e3
  · rw [List.mem_singleton] at q; subst q; exact x.off _ (.head _) ha
  · exact fun q => (x.N (ga, LCg.lst gs) (at_ 0 rfl)).2.1 (List.mem_singleton.mp q)
  · exact fun q => (x.N (dr, LCg.lst ys) (at_ 1 rfl)).2.1 (List.mem_singleton.mp q)
  · exact fun q => (x.N (L + 1 + 1, c2) (at_ 2 rfl)).2.1 (List.mem_singleton.mp q)
  · exact fun q => (x.N (L + 1 + 1 + 1, c3) (at_ 3 rfl)).2.1 (List.mem_singleton.mp q)
  · exact fun q => x.nf.1 (List.mem_singleton.mp q)
theorem LwS.ledger (x : LwS w g L z ga dr fd gs ys G H c2 c3 h m) : News g L h ((ga, LCg.lst gs) :: (dr, LCg.lst ys) :: (L + 1 + 1, c2) :: (L + 1 + 1 + 1, c3) :: Mine.rest g L h []) :=
  all_c (x.N _ (at_ 0 rfl)) (all_c (x.N _ (at_ 1 rfl)) (all_c (x.N _ (at_ 2 rfl)) (all_c (x.N _ (at_ 3 rfl)) fun _ hp => rest_news _ hp)))
theorem LwS.walk (x : LwS w g L z ga dr fd gs ys G H c2 c3 h m) (F' : Fr g L h' m') {news : List (Addr × Obj)} (N' : News g L h' news) (hs : ∀ p ∈ Mine.rest g L h [], p ∈ news)
   (e1 : m' (Str.ofString "guests") = some (.ref ga)) (e2 : m' (Str.ofString "draws") = some (.ref dr)) (e3 : m' (Str.ofString "laid") = some (.ref z.ld)) : Ext [L] h h' ∧ LwS w g L z ga dr fd gs ys G H c2 c3 h' m' :=
  have k : Ext [L] h h' := ext_of_rest x.F F' (news_sub N' hs)
  ⟨k, x.frame k F' e1 e2 e3⟩
end
end Mine
end
section
open PySem PySem.W PyProof.Rows PySem.Calls PySem.Spec PyProof.V
set_option maxRecDepth 100000
namespace Mine
theorem fillLw2 : (∀ w : World, hd.heap_39 w.params = hd.heap_39 w.params) ∧ PySem.Challenge.rw_uc0036_01.foot = 6 := by
  k_fill
  w_top off
  exact ⟨fun _ => rfl, rfl⟩
section
local macro_rules | `(tactic| walk_at "call ref") => `(tactic| refine Mine.stop_in ?_)
set_option maxHeartbeats 8000000 in
theorem initHdr2 {w : World} {p : Program} {loose : List Str} {mean : ExcName → Option Value} {mg mb : Str → Option Value} {dp un : Nat} {fr : Option (List Env)} {gd : Option (List Code)} {s : Shared} {R : Result → Shared → Prop}
   {tb dx hl t1 : Addr} {u v : Tok} {n : Nat}
   (hdp : dp < 800) (hun : un < 4900)
   (X : (hd.heap_39 w.params).In (hideAll s.heap [tb, dx, hl, t1])) (T : Top p loose mean mg mb (hideAll s.heap [tb, dx, hl, t1]))
   (h1 : s.heap.get? tb = some (instObj 182 dx)) (h2' : s.heap.get? dx = some (dictOf [] 0)) (h3 : s.heap.get? hl = some (lstO #[.ref t1] n)) (h4 : s.heap.get? t1 = some (tupO #[.str ⟨#[102, 97, 98]⟩ u, .str ⟨#[101]⟩ v]))
   (hQ : ∀ h' kt tk, Ext [dx] s.heap h' → h'.get? dx = some (hdrD (PyData.keyHash w.params (Str.ofString "_headers")) kt 1 hl) → R (.ok (.ret .none)) { s with heap := h', toks := tk }) :
   codeAny (MM w) (AA dp un fr gd) (.call (.ref 76) ⟨[.ref tb, .ref hl], []⟩) R s := by
  refine' enter (D := [(tb, instObj 182 dx), (dx, dictOf [] 0), (hl, lstO #[.ref t1] n), (t1, tupO #[.str ⟨#[102, 97, 98]⟩ u, .str ⟨#[101]⟩ v])]) ?_ X T ?ho ?hcd ?hroom (binds := [(Str.ofString "self", .ref tb), (Str.ofString "headers", .ref hl)]) ?hbind ?hloc ?_ ?c1 ?c2 ?c3 ?c4
  case ho => k_is
  case hcd => k_is
  case hroom => (show dp < 1000; omega)
  case hbind => exact kp_binds (X.keeps fun b o e => of_hideAll _ e) (fun _ => rfl)
  case hloc => exact locs rfl
  case c1 => rfl
  case c2 => rfl
  case c3 => rfl
  case c4 => decide
  · exact all_c h1 (all_c h2' (all_c h3 (all_c h4 all_n)))
  intro g L h₁ hg F' N' X' T'
  replace hg : g = hideAll s.heap [tb, dx, hl, t1] := hg
  subst hg
  have ne1 : @Ne Nat tb hl := ne_of_obj h1 h3 (by show Value.ref _ ≠ Value.type _; simp)
  have ne2 : @Ne Nat dx hl := ne_of_obj h2' h3 (by show Value.type "dict" ≠ Value.type "list"; decide)
  have ne3 : @Ne Nat tb dx := ne_of_obj h1 h2' (by show Value.ref _ ≠ Value.type _; simp)
  have ne4 : @Ne Nat t1 tb := ne_of_obj h4 h1 (by show Value.type _ ≠ Value.ref _; simp)
  have ne5 : @Ne Nat t1 dx := ne_of_obj h4 h2' (by show Value.type "tuple" ≠ Value.type "dict"; decide)
  have ne6 : @Ne Nat t1 hl := ne_of_obj h4 h3 (by show Value.type "tuple" ≠ Value.type "list"; decide)
  k_steps
  rename Fr _ _ _ _ => F1
  rename News _ _ _ _ => N1
  refine Mine.stop_out ?_
  refine conv (c := #[102, 97, 98]) (by decide) (show dp + 1 < 900 by omega) (show un + 3 < 5000 by omega) (X'.keeps F1.keep) (T'.keeps F1.keep) ?_
  intro h2 tk2 x2
  replace F1 := fr_ext0 F1 x2
  replace N1 := news_ext0 N1 x2
  clear x2
  k_steps
  rename Fr _ _ _ _ => F1
  rename News _ _ _ _ => N1
  refine Mine.stop_out ?_
  refine conv (c := #[101]) (by decide) (show dp + 1 < 900 by omega) (show un + 3 < 5000 by omega) (X'.keeps F1.keep) (T'.keeps F1.keep) ?_
  intro h2 tk2 x2
  replace F1 := fr_ext0 F1 x2
  replace N1 := news_ext0 N1 x2
  clear x2
  k_steps
  rename Fr _ _ _ _ => F2
  rename News _ _ _ _ => N2
  refine hQ _ _ _ (ext_same' F2 ?_) (N2 (dx, hdrD _ _ 1 hl) (by k_mem)).1
  exact all_c (fun _ o e => by rw [h1] at e; cases e; exact (N2 (_, instObj 182 _) (by k_mem)).1)
    (all_c (fun hb => absurd (.head _) hb)
    (all_c (fun _ o e => by rw [h3] at e; cases e; exact (N2 (_, lstO _ n) (by k_mem)).1)
    (all_c (fun _ o e => by rw [h4] at e; cases e; exact (N2 (_, tupO _) (by k_mem)).1) all_n)))
end
local macro_rules | `(tactic| k_all) => `(tactic| assumption)
local macro_rules | `(tactic| walk_at "eval Name") => `(tactic| (k_here; k_dflt (refine' nameX_L ?F ?v ?_ ?a ?b; (case F => k_asm); (case a => rfl); (case b => rfl); (case v => assumption); k_whole)))
local macro_rules | `(tactic| walk_at "call ref") => `(tactic| refine Mine.stop_in ?_)
theorem tc_weight (a : Addr) : (Code.builtin "type.__call__" ⟨[.ref 182, .ref a], []⟩).weight = 1 := by kernel_rfl
theorem tc_units (a : Addr) : (Code.builtin "type.__call__" ⟨[.ref 182, .ref a], []⟩).cUnits = 1 := by kernel_rfl
set_option maxHeartbeats 8000000 in
theorem lwP3 {w : World} {p : Program} {loose : List Str} {mean : ExcName → Option Value} {mg mb : Str → Option Value} {dp un : Nat} {fr : Option (List Env)} {gd : Option (List Code)} {s : Shared} {B : List Stmt} (hB : B = bodyAt w 263)
   {g : Heap} {L fa : Addr} {cd : Value} {c2 c3 : Obj} {m : Str → Option Value} {ga dr : Addr} {ys gs : List Value} {ds : List Int} {G : Gs}
   (hdp : dp < 400) (hun : un < 4500)
   (X : (hd.heap_39 w.params).In g) (T : Top p loose mean mg mb g) (F0 : Fr g L s.heap m) (N0 : News g L s.heap [(ga, LCg.lst gs), (dr, LCg.lst ys), (L + 1 + 1, c2), (L + 1 + 1 + 1, c3), (238, tabObj #[]), (245, tabObj #[]), (250, tabObj #[])])
   (n1 : @Ne Nat ga (L + 1 + 1)) (n2 : @Ne Nat ga (L + 1 + 1 + 1)) (n3 : @Ne Nat dr (L + 1 + 1)) (n4 : @Ne Nat dr (L + 1 + 1 + 1)) (n5 : @LT.lt Nat _ 250 L) (n6 : ga ≠ dr) (hga : ∀ P ∈ ([238, 245, 250] : List Addr), P ≠ ga) (hdr : ∀ P ∈ ([238, 245, 250] : List Addr), P ≠ dr)
   (hc2 : c2.data = .cell none) (hc3 : c3.data = .cell none) (hG : GAtL g s.heap gs G) (m1 : m (Str.ofString "guests") = some (.ref ga)) (m2 : m (Str.ofString "draws") = some (.ref dr)) :
   wpAny (MM w) (AA dp un fr gd) (execs ((B.drop 2).take 3) (lwEnv w L fa cd)) (fun fl s' => Stop (fl = .next ∧ ∃ h' tk z fd c2' c3' m', s' = { s with heap := h', toks := tk } ∧ LwS w g L z ga dr fd gs ys G H0 c2' c3' h' m')) (fun _ _ => False) s := by
  subst hB
  conv in List.take 3 (List.drop 2 (bodyAt w 263)) => whnf
  dsimp only [lwEnv]
  conv in scopeAt w 263 => whnf
  refine post_out ?_
  intro Q hQ
  simp only [List.take_succ_cons, List.take_zero]
  obtain ⟨cs, hcs⟩ : ∃ cs, cs = rest g L s.heap [ga, dr, L + 1 + 1, L + 1 + 1 + 1, 238, 245, 250] := ⟨_, rfl⟩
  have N1 : News g L s.heap ((L + 1 + 1, c2) :: (L + 1 + 1 + 1, c3) :: (ga, LCg.lst gs) :: (dr, LCg.lst ys) :: (238, tabObj #[]) :: (245, tabObj #[]) :: (250, tabObj #[]) :: cs) :=
    all_c (N0 _ (at_ 2 rfl)) (all_c (N0 _ (at_ 3 rfl)) (all_c (N0 _ (at_ 0 rfl)) (all_c (N0 _ (at_ 1 rfl)) (all_c (N0 _ (at_ 4 rfl)) (all_c (N0 _ (at_ 5 rfl)) (all_c (N0 _ (at_ 6 rfl)) fun p hp => rest_news p (hcs ▸ hp)))))))
  have k1 : ∀ p ∈ cs, p.1 ≠ L + 1 + 1 := hcs ▸ rest_off (at_ 2 rfl)
  have k2 : ∀ p ∈ cs, p.1 ≠ L + 1 + 1 + 1 := hcs ▸ rest_off (at_ 3 rfl)
  clear N0
  have M0 : Muts s.heap (L :: [ga, dr, L + 1 + 1, L + 1 + 1 + 1, 238, 245, 250]) :=
    muts_cons (mut_ns F0.ns) (muts_cons ⟨_, (N1 (ga, LCg.lst gs) (at_ 2 rfl)).1, mut_list _ _⟩ (muts_cons ⟨_, (N1 (dr, LCg.lst ys) (at_ 3 rfl)).1, mut_list _ _⟩ (muts_cons ⟨_, (N1 (L + 1 + 1, c2) (at_ 0 rfl)).1, mut_cell hc2⟩ (muts_cons ⟨_, (N1 (L + 1 + 1 + 1, c3) (at_ 1 rfl)).1, mut_cell hc3⟩
      (muts_cons ⟨_, (N1 (238, tabObj #[]) (at_ 4 rfl)).1, mut_tab (ps := #[]) trivial⟩ (muts_cons ⟨_, (N1 (245, tabObj #[]) (at_ 5 rfl)).1, mut_tab (ps := #[]) trivial⟩ (muts_one (N1 (250, tabObj #[]) (at_ 6 rfl)).1 (mut_tab (ps := #[]) trivial))))))))
  have F0' : True ∧ Fr g L s.heap m := ⟨trivial, F0⟩
  k_steps
  rename Fr _ _ _ _ => F2
  rename News _ _ _ _ => N2
  rename_i t1 h1 l1 hl h2 l2
  refine Mine.stop_out ?_
  refine call_cls (fI := 76) F2 X N2 (by k_is) (by k_is) (by k_is) ?_
  intro tb dx h3 F3 N3 l3 l4
  have gn : ∀ a ∈ [tb, dx, hl, t1], g.get? a = none := all_c (N3 _ (at_ 0 rfl)).2.2 (all_c (N3 _ (at_ 1 rfl)).2.2 (all_c (N3 _ (at_ 2 rfl)).2.2 (all_c (N3 _ (at_ 3 rfl)).2.2 all_n)))
  have kp := hide_keeps F3 gn
  refine initHdr2 (by show dp + (Code.builtin "type.__call__" ⟨[.ref 182, .ref hl], []⟩).weight < 800; rw [tc_weight]; omega) (by show un + (Code.builtin "type.__call__" ⟨[.ref 182, .ref hl], []⟩).cUnits < 4900; rw [tc_units]; omega) (X.keeps kp) (T.keeps kp) (N3 _ (.head _)).1 (N3 _ (.tail _ (.head _))).1 (N3 _ (.tail _ (.tail _ (.head _)))).1 (N3 _ (.tail _ (.tail _ (.tail _ (.head _))))).1 ?_
  intro h4 kt tk4 x4 e4
  refine ⟨rfl, ?_⟩
  have neD : L ≠ dx := (N3 (dx, dictOf [] 0) (.tail _ (.head _))).2.1.symm
  have F4 := fr_ext F3 x4 (fun q => neD (List.mem_singleton.mp q)) (all_c (gn dx (at_ 1 rfl)) all_n)
  have N4 : News g L h4 ((tb, instObj 182 dx) :: (dx, hdrD (PyData.keyHash w.params (Str.ofString "_headers")) kt 1 hl) :: _) :=
    all_c ⟨x4 _ _ (N3 _ (.head _)).1 (fun q => Nat.ne_of_gt l4 (List.mem_singleton.mp q)), (N3 _ (.head _)).2⟩ (all_c ⟨e4, (N3 (dx, dictOf [] 0) (.tail _ (.head _))).2⟩ fun p hp =>
      have q := N3 p (.tail _ (.tail _ hp))
      ⟨x4 _ _ q.1 (fun r => Nat.ne_of_lt (l3 p hp) (List.mem_singleton.mp r)), q.2⟩)
  have j1 : @Ne Nat tb (L + 1 + 1) := Nat.ne_of_gt (Nat.lt_trans (l3 (L + 1 + 1, c2) (.tail _ (.tail _ (.head _)))) l4)
  have j2 : @Ne Nat tb (L + 1 + 1 + 1) := Nat.ne_of_gt (Nat.lt_trans (l3 (L + 1 + 1 + 1, c3) (.tail _ (.tail _ (.tail _ (.head _))))) l4)
  have j3 : @Ne Nat dx (L + 1 + 1) := Nat.ne_of_gt (l3 (L + 1 + 1, c2) (.tail _ (.tail _ (.head _))))
  have j4 : @Ne Nat dx (L + 1 + 1 + 1) := Nat.ne_of_gt (l3 (L + 1 + 1 + 1, c3) (.tail _ (.tail _ (.tail _ (.head _)))))
  have i1 : @Ne Nat hl (L + 1 + 1) := Nat.ne_of_gt l2.2.1
  have i2 : @Ne Nat hl (L + 1 + 1 + 1) := Nat.ne_of_gt l2.2.2.1
  have i3 : @Ne Nat t1 (L + 1 + 1) := Nat.ne_of_gt l1.1
  have i4 : @Ne Nat t1 (L + 1 + 1 + 1) := Nat.ne_of_gt l1.2.1
  have i5 : @Ne Nat 238 (L + 1 + 1) := by omega
  have i6 : @Ne Nat 245 (L + 1 + 1) := by omega
  have i7 : @Ne Nat 250 (L + 1 + 1) := by omega
  have i8 : @Ne Nat 238 (L + 1 + 1 + 1) := by omega
  have i9 : @Ne Nat 245 (L + 1 + 1 + 1) := by omega
  have i10 : @Ne Nat 250 (L + 1 + 1 + 1) := by omega
  have i11 : @Ne Nat (L + 1 + 1) (L + 1 + 1 + 1) := by omega
  have i12 : @Ne Nat (L + 1 + 1 + 1) (L + 1 + 1) := by omega
  clear F2 N2 F3 N3
  dsimp only
  k_steps
  rename Fr _ _ _ _ => F5
  rename News _ _ _ _ => N5
  rename Heap => h5
  have x5 : Ext (L :: [ga, dr, L + 1 + 1, L + 1 + 1 + 1, 238, 245, 250]) s.heap h5 := ext_of_rest F0'.2 F5 (news_sub N5 fun p hp => by
    refine .tail _ (.tail _ (.tail _ (.tail _ (.tail _ (.tail _ (.tail _ (.tail _ (.tail _ (.tail _ (.tail _ (.tail _ (.tail _ (.tail _ (.tail _ (.tail _ (.tail _ (.tail _ (.tail _ (.tail _ ?_)))))))))))))))))))
    exact hcs ▸ hp)
  exact hQ _ _ ⟨rfl, _, _, _, _, _, _, _, rfl, lwS_of F5 N5 n5 hga hdr ⟨l1.1, l1.2.1, l1.2.2.1, l1.2.2.2.1⟩ l2.1 (l3 (hl, _) (.head _)) l4 (by assumption) (by assumption) (by assumption) (by assumption) (by assumption) (by assumption) (by assumption) (by assumption) (by assumption) (by assumption) (gatL_ext hG x5 M0) (by assumption) (by assumption) m1 m2 rfl⟩
end Mine
end
section
open PySem PySem.W PyProof.Rows PySem.Calls PySem.Spec PyProof.V
set_option maxRecDepth 100000
namespace Mine
local macro_rules | `(tactic| walk_at "nothing 0") => `(tactic| skip)
theorem fillLw3 : (∀ w : World, hd.heap_39 w.params = hd.heap_39 w.params) ∧ PySem.Challenge.rw_uc0036_01.foot = 6 := by
  k_fill
  w_top off
  exact ⟨fun _ => rfl, rfl⟩
local macro_rules | `(tactic| k_all) => `(tactic| assumption)
local macro_rules | `(tactic| walk_at "eval Name") => `(tactic| (k_here; k_dflt (refine' nameX_L ?F ?v ?_ ?a ?b; (case F => k_asm); (case a => rfl); (case b => rfl); (case v => assumption); k_whole)))
local macro_rules | `(tactic| walk_at "call ref") => `(tactic| refine Mine.stop_in ?_)
set_option maxHeartbeats 8000000 in
theorem lwP6 {w : World} {p : Program} {loose : List Str} {mean : ExcName → Option Value} {mg mb : Str → Option Value} {dp un : Nat} {fr : Option (List Env)} {gd : Option (List Code)} {s : Shared} {B : List Stmt} (hB : B = bodyAt w 263)
   {g : Heap} {L fa : Addr} {cd : Value} {z : Ad} {ga dr fd : Addr} {gs ys : List Value} {ds : List Int} {G : Gs} {c2 c3 : Obj} {m : Str → Option Value}
   (hdp : dp < 400) (hun : un < 4500) (hG1 : ∀ k, (G k).1 < 6) (hG2 : ∀ k, (G k).2 < 4096) (X : (hd.heap_39 w.params).In g) (T : Top p loose mean mg mb g) (C : CodeHd g 252 250) (C1 : CodeHd g 242 238) (C2 : CodeHd g 247 245)
   (hi : IntsAre ys ds) (hlen : ds.length = 7) (S0 : LwS w g L z ga dr fd gs ys G H0 c2 c3 s.heap m) :
   wpAny (MM w) (AA dp un fr gd) (execs ((B.drop 5).take 1) (lwEnv w L fa cd)) (fun fl s' => Stop (fl = .next ∧ ∃ h' tk H' m', s' = { s with heap := h', toks := tk } ∧ LwS w g L z ga dr fd gs ys G H' c2 c3 h' m' ∧ m' (Str.ofString "met") = some (.bool (EG (wishes G))) ∧ (∀ q ∈ H', q.1 ∈ texts) ∧ H'.length ≤ 100)) (fun _ _ => False) s := by
  subst hB
  conv in List.take 1 (List.drop 5 (bodyAt w 263)) => whnf
  dsimp only [lwEnv]
  conv in scopeAt w 263 => whnf
  refine post_out ?_
  intro Q hQ
  simp only [List.take_succ_cons, List.take_zero]
  have F0 := S0.F
  obtain ⟨cs, hcs⟩ : ∃ cs, cs = rest g L s.heap [] := ⟨_, rfl⟩
  have N0 := S0.ledger
  rw [← hcs] at N0
  have m1 := S0.m1
  have m2 := S0.m2
  have m3 := S0.m3
  have e2 := S0.e2
  have e3 := S0.e3
  have hyl := hi.length
  k_steps
  refine Mine.stop_out ?_
  have kp := hide_keeps S0.F S0.no
  have hM := S0.W.muts S0.T
  refine choices (z := z) (G := G) (show dp < 500 by omega) (show un < 4600 by omega) hG1 hG2 S0.nd (X.keeps kp) (T.keeps kp) (C.keeps kp) (C1.keeps kp) (C2.keeps kp) (gatL_at (gatL_ext S0.A (ext_hide _ _) hM) ⟨_, ext_hide _ _ _ _ (S0.N (ga, LCg.lst gs) (at_ 0 rfl)).1 (S0.off _ (at_ 1 rfl)), rfl, _, rfl⟩) (S0.D.ext (ext_hide _ _) (S0.off _ (at_ 5 rfl))) S0.W S0.T ?_
  intro h2 H2 tk2 x2 D2
  have S2 : LwS w g L z ga dr fd gs ys G H2 c2 c3 h2 m := {
    F := fr_ext S0.F x2 (S0.off _ (at_ 0 rfl)) S0.no
    N := news_ext S0.N x2 (all_c (S0.off _ (at_ 1 rfl)) (all_c (S0.off _ (at_ 2 rfl)) (all_c (S0.off _ (at_ 3 rfl)) (all_c (S0.off _ (at_ 4 rfl)) all_n))))
    W := D2.W
    T := D2.T
    A := gatL_ext S0.A x2 hM
    D := S0.D.ext x2 (S0.off _ (at_ 5 rfl))
    nd := S0.nd
    no := S0.no
    off := S0.off
    e2 := S0.e2
    e3 := S0.e3
    m1 := m1
    m2 := m2
    m3 := m3
    nf := S0.nf }
  refine store_L (env := lwEnv w L fa cd) (y := Str.ofString "met") S2.F rfl rfl ?_
  intro h3 tk3 F3 x3
  refine wpAny_execs_nil (hQ _ _ ⟨rfl, h3, tk3, H2, _, rfl, S2.frame x3 F3 m1 m2 m3, rfl, D2.txt, D2.len⟩)
end Mine
end
section
open PySem PySem.W PyProof.Rows PySem.Calls PySem.Spec PyProof.V
set_option maxRecDepth 100000
namespace Mine
local macro_rules | `(tactic| walk_at "nothing 0") => `(tactic| skip)
theorem fillLw4 : (∀ w : World, hd.heap_39 w.params = hd.heap_39 w.params) ∧ PySem.Challenge.rw_uc0036_01.foot = 6 := by
  k_fill
  w_top off
  exact ⟨fun _ => rfl, rfl⟩
open LCg LCp in
theorem comp_P {prog : Program} {w : World} {A : Around} {h₀ : Heap} {L : Addr} {m : Str → Option Value} {env : Env} {elt : Expr} {x x₂ : Str} {scope : Scope} {cl : List (Str × Addr)} {s : Shared} {S : List (Addr × Obj) → Prop} {P : Nat → Value → Prop}
    {Fin : List Value → List (Addr × Obj) → Prop} {news : List (Addr × Obj)} (n : Nat) (J : Nat → List Value → Prop)
    (step : ∀ i ys, i < n → J i ys → ∀ v, P i v → ∃ (t : Addr) (ot : Obj) (v₁ v₂ : Value) (nt : Nat), v = .ref t ∧ (t, ot) ∈ news ∧ ot.cls = .type "tuple" ∧ ot.data = .seq #[v₁, v₂] nt ∧
      ∀ I oI C oC D m₂ h tk (E' : Value → Shared → Prop), NsObj oC m₂ → m₂ x = some v₁ → m₂ x₂ = some v₂ → Fr h₀ L h m → News h₀ L h ((I, oI) :: (C, oC) :: (D, lst ys) :: news) → Off3 I C D news → ((@Ne Nat I C) ∧ (@Ne Nat I D) ∧ (@Ne Nat C D)) →
      wpAny (model prog w) A (eval elt (compEnvC scope cl C env)) (CompEnd h₀ L m { s with heap := h, toks := tk } I oI C oC D (lst ys) S (fun y news' => news' = news ∧ J (i + 1) (ys ++ [y]))) E' { s with heap := h, toks := tk })
    (fin : ∀ ys, J n ys → Fin ys news) : ∀ k i ys, i + k = n → J i ys → CompRestP prog w A h₀ L m env elt x x₂ scope cl s S P Fin k i ys news
  | 0, i, ys, e, j => fin ys (by rw [← e]; exact j)
  | k + 1, i, ys, e, j => by
    intro v hv
    obtain ⟨t, ot, v₁, v₂, nt, h1, h2, h3, h4, h5⟩ := step i ys (by omega) j v hv
    refine ⟨t, ot, v₁, v₂, nt, h1, h2, h3, h4, ?_⟩
    intro I oI C oC D m₂ h tk E' g1 g2 g3 g4 g5 g6 g7
    exact wpAny_mono (h5 I oI C oC D m₂ h tk E' g1 g2 g3 g4 g5 g6 g7) (fun y s'' z => compEnd_mono z fun nw ⟨e1, e2⟩ => e1 ▸ comp_P n J step fin k (i + 1) _ (by omega) e2) fun _ _ q => q
local macro_rules | `(tactic| k_all) => `(tactic| assumption)
local macro_rules | `(tactic| walk_at "eval Name") => `(tactic| (k_here; k_dflt (refine' nameX_L ?F ?v ?_ ?a ?b; (case F => k_asm); (case a => rfl); (case b => rfl); (case v => assumption); k_whole)))
local macro_rules | `(tactic| walk_at "call ref") => `(tactic| refine Mine.stop_in ?_)
local macro_rules | `(tactic| walk_at "eval ListComp") => `(tactic| refine Mine.stop_in ?_)
set_option maxHeartbeats 8000000 in
theorem lwP7 {w : World} {p : Program} {loose : List Str} {mean : ExcName → Option Value} {mg mb : Str → Option Value} {dp un : Nat} {fr : Option (List Env)} {gd : Option (List Code)} {s : Shared} {B : List Stmt} (hB : B = bodyAt w 263)
   {g : Heap} {L fa : Addr} {cd : Value} {z : Ad} {ga dr fd : Addr} {gs yd : List Value} {G : Gs} {H : List Ln} {c2 c3 : Obj} {m : Str → Option Value}
   (hdp : dp < 400) (hun : un < 4500) (X : (hd.heap_39 w.params).In g) (T : Top p loose mean mg mb g)
   (S0 : LwS w g L z ga dr fd gs yd G H c2 c3 s.heap m) (m4 : m (Str.ofString "met") = some (.bool (EG (wishes G)))) :
   wpAny (MM w) (AA dp un fr gd) (execs ((B.drop 6).take 1) (lwEnv w L fa cd)) (fun fl s' => Stop (fl = .next ∧ ∃ h' tk, s' = { s with heap := h', toks := tk } ∧ LwS w g L z ga dr fd gs yd G H c2 c3 h' m)) (fun _ _ => False) s := by
  subst hB
  conv in List.take 1 (List.drop 6 (bodyAt w 263)) => whnf
  dsimp only [lwEnv]
  conv in scopeAt w 263 => whnf
  refine post_out ?_
  intro Q hQ
  simp only [List.take_succ_cons, List.take_zero]
  have F0 := S0.F
  obtain ⟨cs, hcs⟩ : ∃ cs, cs = rest g L s.heap [] := ⟨_, rfl⟩
  have N0 := S0.ledger
  rw [← hcs] at N0
  have m1 := S0.m1
  k_steps
  refine Mine.stop_out ?_
  have hA := S0.A
  k_dflt (refine LCp.ListComp_P (F₀ := F0) (by with_unfolding_all rfl) (by decide) (by rfl) (by decide) (by rfl) (by rfl) (by decide) ?_)
  refine nameX_L F0 m1 ?_ rfl rfl
  refine LCp.SrcLP.ledger rfl F0 N0 (.head _) (by show gs.toArray.size ≤ 16777216; rw [List.size_toArray, hA.1]; decide) ?_
  intro g'
  refine comp_P (gs.toArray.size) (fun i ys => IntsAre ys (zI ((R6.take i).map fun k => (G k).1))) ?_ ?_ _ 0 [] (by simp) .nil
  · intro i ys hi hys v hv
    rw [List.size_toArray, hA.1] at hi
    obtain ⟨a, tw, tm, q1, q2, q3⟩ := hA.2 i hi
    have hv' : v = .ref a := by
      have : gs[i]? = some v := by simpa using hv
      rw [q1] at this; exact (Option.some.inj this).symm
    have hmem : (a, tupO #[.int (G i).1 tw, .int (G i).2 tm]) ∈ rest g L s.heap [] := rest_mem q2 (by simp) (fun e => by
      obtain ⟨o, _, _, eo, hd, _⟩ := S0.F.ns
      rw [e, eo] at q2; cases q2; cases hd) q3
    refine ⟨a, _, .int (G i).1 tw, .int (G i).2 tm, _, hv', .tail _ (.tail _ (.tail _ (.tail _ (hcs ▸ hmem)))), rfl, rfl, ?_⟩
    intro I oI CC oC D m₂ h tk E' hC hx hx2 F2 N2 hoff hne
    clear hv hv' q1 q2 q3 hmem
    k_steps
    refine LCg.CompEnd.intro F2 N2 _ (fun q hq => hq) hoff (.inr ⟨_, .head _, rfl, _, rfl⟩) ⟨rfl, ?_⟩
    have e6 : R6.take (i + 1) = R6.take i ++ [i] := by rcases lt6 hi with rfl | rfl | rfl | rfl | rfl | rfl <;> rfl
    rw [e6, List.map_append, zI, List.map_append]
    exact hys.append (.cons _ _ .nil)
  · intro ys hys D h tk F3 N3 off
    rw [List.size_toArray, hA.1] at hys
    obtain ⟨x3, S3⟩ := S0.walk F3 N3 (fun p hp => .tail _ (.tail _ (.tail _ (.tail _ (.tail _ (hcs ▸ hp)))))) m1 S0.m2 S0.m3
    dsimp only
    k_steps
    refine Mine.stop_out ?_
    refine may (ns := wishes G) (show dp < 700 by omega) (show un < 4800 by omega) rfl (X.keeps F3.keep) (T.keeps F3.keep) ⟨_, (N3 _ (.head _)).1, rfl, _, rfl⟩ hys ?_
    intro h4 tk4 x4
    have F4 := fr_ext0 F3 x4
    have S4 : LwS w g L z ga dr fd gs yd G H c2 c3 h4 m := S3.step x4 (muts_nil _) (by simp) (by simp) F4 m1 S0.m2 S0.m3
    clear F3 N3 off
    generalize EG (wishes G) = b at *
    cases b
    · k_steps
      exact hQ _ _ ⟨rfl, h4, _, rfl, S4⟩
    · k_steps
      exact hQ _ _ ⟨rfl, h4, _, rfl, S4⟩
end Mine
end
section
open PySem PySem.W PyProof.Rows PySem.Calls PySem.SeqAt
set_option maxRecDepth 100000
namespace Mine
section
variable {A : Around} {s : Shared}
theorem eqAt_ln {a b : Addr} {p : Ln} (x : LnAt s.heap (.ref a) p) (y : LnAt s.heap (.ref b) p) (hu : A.units + 2 < cLine) : EqAt A s (.ref a) (.ref b) true := by
  obtain ⟨a', tw, tn, e1, ha⟩ := x
  obtain ⟨b', tw', tn', e2, hb⟩ := y
  cases e1; cases e2
  by_cases hab : a = b
  · subst hab; exact EqAt.same _
  · have := RcAt.tuples (A := A) (s := s) (l := a) (b := b) (items := #[.str ⟨p.1⟩ tw, .str ⟨p.2⟩ tn]) (items2 := #[.str ⟨p.1⟩ tw', .str ⟨p.2⟩ tn']) (e := fun _ => true) ⟨_, ha, rfl, _, rfl⟩ ⟨_, hb, rfl, _, rfl⟩ (by omega) (fun j h1 h2 => ?_)
    · exact EqAt.of_refs hab (show RcAt A s (.ref a) (.ref b) true from this)
    · match j, h1 with
      | 0, _ => have := EqAt.str_str (A := A.in1) (s := s) ⟨p.1⟩ tw ⟨p.1⟩ tw'; simpa using this
      | 1, _ => have := EqAt.str_str (A := A.in1) (s := s) ⟨p.2⟩ tn ⟨p.2⟩ tn'; simpa using this
theorem eqAt_strs {a b : Addr} {us vs : List Value} {cs : List (Array Nat)} (ha : s.heap.IsList a us.toArray) (hb : s.heap.IsList b vs.toArray) (hu1 : StrsV us cs) (hv1 : StrsV vs cs) (hu : A.units + 2 < cLine) : EqAt A s (.ref a) (.ref b) true := by
  by_cases hab : a = b
  · subst hab; exact EqAt.same _
  have l1 := hu1.length
  have l2 := hv1.length
  have := RcAt.lists (A := A) (s := s) (e := fun _ => true) ha hb (by simp; omega) (by omega) (fun j h1 h2 => ?_)
  · rw [all_range_true fun _ _ => rfl] at this
    exact EqAt.of_refs hab this
  · simp only [List.size_toArray] at h1 h2
    obtain ⟨c, t, e1, e2⟩ := hu1.at (i := 0) (List.getElem?_eq_getElem h1)
    obtain ⟨c', t', g1, g2⟩ := hv1.at (i := 0) (List.getElem?_eq_getElem h2)
    rw [e1] at g1; cases g1
    rw [List.getElem_toArray, List.getElem_toArray, e2, g2]
    have := EqAt.str_str (A := A.in1) (s := s) ⟨c⟩ t ⟨c⟩ t'
    simpa using this
end
theorem neLns {w : World} {A : Around} {E : Value → Shared → Prop} {s : Shared} {Q : Value → Shared → Prop} {a b : Addr} {xs ys : List Value} {H : List Ln} (ha : s.heap.IsList a xs.toArray) (hb : s.heap.IsList b ys.toArray) (hx : LnsAt s.heap xs H) (hy : LnsAt s.heap ys H)
    (hu : A.units + 4 < cLine) (h : Q (.bool false) s) : wpAny (MM w) A (compareOp .NotEq (.ref a) (.ref b)) Q E s := by
  have l1 := hx.length
  have l2 := hy.length
  refine RcNeAt.lists (e := fun _ => true) ha hb (by simp; omega) (by omega) (fun j h1 h2 => ?_) _ w E Q (by rw [all_range_true fun _ _ => rfl]; exact h)
  simp only [List.size_toArray] at h1 h2
  obtain ⟨v, p, e1, e2, hp⟩ := hx.get (i := j) (by omega)
  obtain ⟨v', p', g1, g2, hp'⟩ := hy.get (i := j) (by omega)
  rw [e2] at g2; cases g2
  have q1 : xs.toArray[j] = v := by have := List.getElem?_eq_some_iff.mp e1; simpa using this.2
  have q2 : ys.toArray[j] = v' := by have := List.getElem?_eq_some_iff.mp g1; simpa using this.2
  rw [q1, q2]
  have hp2 := hp; have hp2' := hp'
  obtain ⟨c, tw, tn, rfl, hc⟩ := hp
  obtain ⟨c', tw', tn', rfl, hc'⟩ := hp'
  exact eqAt_ln hp2 hp2' (by show A.units + 1 + 2 < cLine; omega)
/-- a list of lists of names -/
noncomputable def LolAt (h : Heap) (xs : List Value) (f : Nat → List (Array Nat)) (n : Nat) : Prop := xs.length = n ∧ ∀ i, i < n → ∃ c us, xs[i]? = some (Value.ref c) ∧ h.IsList c (List.toArray us) ∧ StrsV us (f i)
theorem eqLols {w : World} {A : Around} {E : Value → Shared → Prop} {s : Shared} {Q : Value → Shared → Prop} {a b : Addr} {xs ys : List Value} {f : Nat → List (Array Nat)} {n : Nat} (ha : s.heap.IsList a xs.toArray) (hb : s.heap.IsList b ys.toArray) (hx : LolAt s.heap xs f n) (hy : LolAt s.heap ys f n)
    (hu : A.units + 4 < cLine) (h : Q (.bool true) s) : wpAny (MM w) A (compareOp .Eq (.ref a) (.ref b)) Q E s := by
  refine eq_listAt (e := fun _ => true) ha hb (by simp [hx.1, hy.1]) (by omega) (fun j h1 h2 => ?_) (by rw [all_range_true fun _ _ => rfl]; exact h)
  simp only [List.size_toArray, hx.1, hy.1] at h1 h2
  obtain ⟨c, us, e1, e2, e3⟩ := hx.2 j h1
  obtain ⟨d, vs, g1, g2, g3⟩ := hy.2 j h1
  have q1 : xs.toArray[j]'(by simp [hx.1]; exact h1) = .ref c := by have := List.getElem?_eq_some_iff.mp e1; simpa using this.2
  have q2 : ys.toArray[j]'(by simp [hy.1]; exact h1) = .ref d := by have := List.getElem?_eq_some_iff.mp g1; simpa using this.2
  rw [q1, q2]
  exact eqAt_strs e2 g2 e3 g3 (by show A.units + 1 + 2 < cLine; omega)
end Mine
end
section
open PySem PySem.W PyProof.Rows PySem.Calls PySem.Spec PyProof.V
set_option maxRecDepth 100000
namespace Mine
theorem fillLw6 : (∀ w : World, hd.heap_39 w.params = hd.heap_39 w.params) ∧ PySem.Challenge.rw_uc0036_01.foot = 6 := by
  k_fill
  w_top off
  exact ⟨fun _ => rfl, rfl⟩
section
variable {w : World} {g h h' : Heap} {L ga dr fd : Addr} {z : Ad} {gs ys : List Value} {G : Gs} {H : List Ln} {c2 c3 : Obj} {m m' : Str → Option Value}
theorem LwS.there (x : LwS w g L z ga dr fd gs ys G H c2 c3 h m) : ∀ a ∈ L :: ga :: dr :: (L + 1 + 1) :: (L + 1 + 1 + 1) :: fd :: z.sup0, ∃ o, h.get? a = some o := by
  obtain ⟨o, _, _, e, _⟩ := x.F.ns
  obtain ⟨_, ⟨o2, _, _, e2, _⟩, _⟩ := x.D
  exact all_c ⟨o, e⟩ (all_c ⟨_, (x.N (ga, LCg.lst gs) (at_ 0 rfl)).1⟩ (all_c ⟨_, (x.N (dr, LCg.lst ys) (at_ 1 rfl)).1⟩ (all_c ⟨_, (x.N (L + 1 + 1, c2) (at_ 2 rfl)).1⟩ (all_c ⟨_, (x.N (L + 1 + 1 + 1, c3) (at_ 3 rfl)).1⟩ (all_c ⟨o2, e2⟩ (x.W.there x.T))))))
/-- the table's objects in the ledger -/
theorem LwS.tab (x : LwS w g L z ga dr fd gs ys G H c2 c3 h m) {o : Obj} (e : h.get? z.dx = some o) {news : List (Addr × Obj)} (N : News g L h news) : News g L h ((z.tb, instObj 182 z.dx) :: (z.dx, o) :: news) :=
  news_cons (news_cons N e (fun q => x.off L (.head _) (q ▸ (at_ 1 rfl : z.dx ∈ z.sup0))) (x.no _ (at_ 1 rfl))) x.W.tb (fun q => x.off L (.head _) (q ▸ (at_ 0 rfl : z.tb ∈ z.sup0))) (x.no _ (at_ 0 rfl))
theorem LwS.stepN (x : LwS w g L z ga dr fd gs ys G H c2 c3 h m) {D : Addr} {h0 : Heap} {o : Obj} (hD : h0.get? D = none) (h1 : ∀ a ∈ L :: ga :: dr :: (L + 1 + 1) :: (L + 1 + 1 + 1) :: fd :: z.sup0, ∃ o, h0.get? a = some o) (k : Ext (L :: [D]) h h') (eD : h.get? D = some o) (mD : Mut o) (F' : Fr g L h' m')
   (e1 : m' (Str.ofString "guests") = some (.ref ga)) (e2 : m' (Str.ofString "draws") = some (.ref dr)) (e3 : m' (Str.ofString "laid") = some (.ref z.ld)) : LwS w g L z ga dr fd gs ys G H c2 c3 h' m' := by
  have nD : ∀ a ∈ L :: ga :: dr :: (L + 1 + 1) :: (L + 1 + 1 + 1) :: fd :: z.sup0, a ≠ D := fun a ha => let ⟨o, e⟩ := h1 a ha; none_ne hD e
  have two : ∀ {a : Addr}, a ≠ L → a ≠ D → a ∉ [L, D] := fun h1 h2 q => by
    rcases List.mem_cons.mp q with q | q
    · exact h1 q
    · exact h2 (List.mem_singleton.mp q)
  refine x.step k (muts_cons (mut_ns x.F.ns) (muts_one eD mD)) (fun a ha => two (fun q => x.off _ (.head _) (q ▸ ha)) (nD a (.tail _ (.tail _ (.tail _ (.tail _ (.tail _ (.tail _ ha)))))))) ?_ F' e1 e2 e3
  exact all_c (two (x.N (ga, LCg.lst gs) (at_ 0 rfl)).2.1 (nD _ (at_ 1 rfl))) (all_c (two (x.N (dr, LCg.lst ys) (at_ 1 rfl)).2.1 (nD _ (at_ 2 rfl))) (all_c (two (x.N (L + 1 + 1, c2) (at_ 2 rfl)).2.1 (nD _ (at_ 3 rfl))) (all_c (two (x.N (L + 1 + 1 + 1, c3) (at_ 3 rfl)).2.1 (nD _ (at_ 4 rfl))) (all_c (two x.nf.1 (nD _ (at_ 5 rfl))) all_n))))
end
local macro_rules | `(tactic| k_all) => `(tactic| assumption)
local macro_rules | `(tactic| walk_at "eval Name") => `(tactic| (k_here; k_dflt (refine' nameX_L ?F ?v ?_ ?a ?b; (case F => k_asm); (case a => rfl); (case b => rfl); (case v => assumption); k_whole)))
local macro_rules | `(tactic| walk_at "call ref") => `(tactic| refine Mine.stop_in ?_)
local macro_rules | `(tactic| walk_at "compareOp NotEq ref ref") => `(tactic| refine Mine.stop_in ?_)
set_option maxHeartbeats 8000000 in
theorem lwP8 {w : World} {p : Program} {loose : List Str} {mean : ExcName → Option Value} {mg mb : Str → Option Value} {dp un : Nat} {fr : Option (List Env)} {gd : Option (List Code)} {s : Shared} {B : List Stmt} (hB : B = bodyAt w 263)
   {g : Heap} {L fa : Addr} {cd : Value} {z : Ad} {ga dr fd : Addr} {gs ys : List Value} {G : Gs} {H : List Ln} {c2 c3 : Obj} {m : Str → Option Value}
   (hdp : dp < 400) (hun : un < 4500) (hlen : H.length ≤ 100) (X : (hd.heap_39 w.params).In g) (T : Top p loose mean mg mb g)
   (S0 : LwS w g L z ga dr fd gs ys G H c2 c3 s.heap m) :
   wpAny (MM w) (AA dp un fr gd) (execs ((B.drop 7).take 2) (lwEnv w L fa cd)) (fun fl s' => Stop (fl = .next ∧ ∃ h' tk, s' = { s with heap := h', toks := tk } ∧ LwS w g L z ga dr fd gs ys G H c2 c3 h' m)) (fun _ _ => False) s := by
  subst hB
  conv in List.take 2 (List.drop 7 (bodyAt w 263)) => whnf
  dsimp only [lwEnv]
  conv in scopeAt w 263 => whnf
  refine post_out ?_
  intro Q hQ
  simp only [List.take_succ_cons, List.take_zero]
  have F0 := S0.F
  obtain ⟨hs, n1, k1, edx⟩ := S0.W.dx
  obtain ⟨hi, hn, ehl, hln⟩ := S0.W.hl
  have hl5 := hln.length
  obtain ⟨cs, hcs⟩ : ∃ cs, cs = rest g L s.heap [] := ⟨_, rfl⟩
  have N0 := S0.tab edx S0.ledger
  rw [← hcs] at N0
  have e2 := S0.e2
  have m3 := S0.m3
  k_steps
  refine Mine.stop_out ?_
  have kp := hide_keeps (S := [z.tb, z.dx, z.hl]) S0.F (all_c (S0.no _ (at_ 0 rfl)) (all_c (S0.no _ (at_ 1 rfl)) (all_c (S0.no _ (at_ 2 rfl)) all_n)))
  refine itemsHdr (show dp < 800 by omega) (show un < 4900 by omega) (by omega) (X.keeps kp) (T.keeps kp) S0.W.tb edx ehl ?_
  intro h1 D1 tk1 x1 hD0 hD1
  have S1 : LwS w g L z ga dr fd gs ys G H c2 c3 h1 m := S0.step x1 (muts_nil _) (fun _ _ => List.not_mem_nil) (fun _ _ => List.not_mem_nil) (fr_ext0 S0.F x1) S0.m1 S0.m2 S0.m3
  have hth := S0.there
  clear F0 N0 hcs kp
  have F1 := S1.F
  obtain ⟨cs1, hcs⟩ : ∃ cs, cs = rest g L h1 [D1] := ⟨_, rfl⟩
  have nDL : D1 ≠ L := fun e => (none_ne hD0 (hth L (.head _)).choose_spec) e.symm
  have N1 : News g L h1 ((D1, lstO (List.toArray hi) 0) :: (z.tb, instObj 182 z.dx) :: (z.dx, hdrD hs n1 k1 z.hl) :: (L + 1 + 1, c2) :: cs1) := by
    refine news_cons (S1.tab (x1 _ _ edx List.not_mem_nil) (all_c (S1.N _ (at_ 2 rfl)) fun p hp => rest_news p (hcs ▸ hp))) hD1 nDL ?_
    · cases q : g.get? D1 with
      | none => rfl
      | some o => have := S0.F.keep _ _ q; rw [hD0] at this; cases this
  have q1 : @Ne Nat z.tb D1 := none_ne hD0 S0.W.tb
  have q2 : @Ne Nat z.dx D1 := none_ne hD0 edx
  have q3 : @Ne Nat (L + 1 + 1) D1 := none_ne hD0 (S0.N (L + 1 + 1, c2) (at_ 2 rfl)).1
  have q4 : ∀ p ∈ cs1, p.1 ≠ D1 := hcs ▸ rest_off (.head _)
  k_steps
  rename Fr _ _ _ _ => F2
  rename News _ _ _ _ => N2
  rename Heap => h2
  refine Mine.stop_out ?_
  have x2 : Ext (L :: [D1]) h1 h2 := ext_of_rest S1.F F2 (news_sub N2 fun p hp => by
    rw [← hcs] at hp
    repeat first | exact hp | apply List.mem_cons_of_mem)
  have S2 := S1.stepN hD0 hth x2 hD1 (mut_list _ _) F2 S1.m1 S1.m2 S1.m3
  clear N2 hcs q1 q2 q3 q4 F2
  obtain ⟨hs3, n3, k3, edx3⟩ := S2.W.dx
  obtain ⟨hi3, hn3, ehl3, hln3⟩ := S2.W.hl
  have hl53 := hln3.length
  have kp := hide_keeps (S := [z.tb, z.dx, z.hl]) S2.F (all_c (S2.no _ (at_ 0 rfl)) (all_c (S2.no _ (at_ 1 rfl)) (all_c (S2.no _ (at_ 2 rfl)) all_n)))
  refine itemsHdr (show dp < 800 by omega) (show un < 4900 by omega) (by omega) (X.keeps kp) (T.keeps kp) S2.W.tb edx3 ehl3 ?_
  intro h3 D3 tk3 x3 hE0 hE1
  have S3 : LwS w g L z ga dr fd gs ys G H c2 c3 h3 m := S2.step x3 (muts_nil _) (fun _ _ => List.not_mem_nil) (fun _ _ => List.not_mem_nil) (fr_ext0 S2.F x3) S2.m1 S2.m2 S2.m3
  have F3 := S3.F
  have N3 := S3.N
  k_steps
  refine Mine.stop_out ?_
  obtain ⟨li, ln, eld, hld⟩ := S3.W.ld
  refine neLns (H := H) ⟨_, hE1, rfl, _, rfl⟩ ⟨_, eld, rfl, _, rfl⟩ (hln3.ext x3 (muts_nil _)) hld (show un + 4 < 9900 by omega) ?_
  k_steps
  exact hQ _ _ ⟨rfl, h3, _, rfl, S3⟩
end Mine
end
section
open PySem PySem.W PyProof.Rows PySem.Calls PySem.Spec PyProof.V
set_option maxRecDepth 100000
namespace Mine
theorem fillLw7 : (∀ w : World, hd.heap_39 w.params = hd.heap_39 w.params) ∧ PySem.Challenge.rw_uc0036_01.foot = 6 := by
  k_fill
  w_top off
  exact ⟨fun _ => rfl, rfl⟩
section
open LCg
noncomputable def SrcUS (prog : Program) (w : World) (A : Around) (h₀ : Heap) (L : Addr) (m : Str → Option Value) (env : Env) (elt : Expr) (x : Str) (scope : Scope) (cl : List (Str × Addr)) (Q : Value → Shared → Prop) (xv : Value) (s₁ : Shared) : Prop :=
  ∃ txt t news, xv = .str txt t ∧ txt.cps.all (· < 128) = true ∧ txt.cps.size ≤ sizeLine ∧ Fr h₀ L s₁.heap m ∧ News h₀ L s₁.heap news ∧
    ∀ g, CompRest prog w A h₀ L m env elt x scope cl { s₁ with heap := g } (fun _ => True) (SignAt txt) (FinE h₀ L m { s₁ with heap := g } Q) txt.cps.size 0 [] news
/-- a comprehension over the signs of a plain text -/
theorem ListComp_US {prog : Program} {w : World} {A : Around} {E : Value → Shared → Prop} {s : Shared} {h₀ : Heap} {L : Addr} {m : Str → Option Value} {env : Env} {elt iter : Expr} {x : Str} {px : Pos} {scope : Scope} {cl : List (Str × Addr)} {pos : Pos} {Q : Value → Shared → Prop} (_F₀ : Fr h₀ L s.heap m)
    (hclos : closureFor scope env = pure cl) (hcell : ∀ y ∈ scope.names, y.2 ≠ .cell) (hkind : scope.kind = .function)
    (hnames : ∀ y ∈ scope.names, y.2 = .local → scope.names.lookup y.1 = some .local) (hx : scope.names.lookup x = some .local) (hh : A.handled = none)
    (h : wpAny (model prog w) A (eval iter env) (SrcUS prog w A h₀ L m env elt x scope cl Q) E s)
    (hs : ∀ x, foldedSetIterable iter env x = pure x := by intro _; rfl) :
    wpAny (model prog w) A (eval (.ListComp elt [⟨.Name x px, iter, [], 0⟩] scope pos) env) Q E s := by
  rw [eval_ListComp]
  refine wpAny_comprehension_free (use := none) rfl hs hclos hkind hnames (wpAny_mono h (fun xv s₁ h₁ => ?_) fun _ _ e => e)
  obtain ⟨txt, t, news, rfl, ha, hsz, F, N, R⟩ := h₁
  refine wpAny_pyIter_ascii ha ?_
  refine block_U (Walks.strAscii hh s₁.heap.objs.size txt t) hsz (fun i h st => let ⟨o, e, _⟩ := st; ⟨o, e⟩) striter_st hcell hkind hx ⟨_, Heap.get?_push_size _ rfl, rfl, rfl⟩ (fun b hb => ?_)
    (F.keeps fun _ _ e => Heap.get?_push_of_some _ e) (N.grown fun _ _ e => Heap.get?_push_of_some _ e) (Nat.ne_of_lt F.ns.lt) (next_is_new F) (fun p hp => Nat.ne_of_lt (Heap.lt_size (N p hp).1)) trivial (R _) ?_
  · rw [List.mem_singleton.mp hb]
    show s₁.heap.objs.size < (s₁.heap.push _).objs.size
    rw [Heap.size_push]; exact Nat.lt_succ_self _
  · intro D C h tk m' ys news' F' N' o1 hn hC₀ hD₀ hCL hDL hCD offC fin
    refine ⟨m', hn, fun h'' hs'' => fin D h'' tk (F'.change hs'' hCL hC₀) (fun p hp => ?_) o1⟩
    refine ⟨hs''.extBut _ _ ?_ (N' p hp).1, (N' p hp).2⟩
    rcases List.mem_cons.mp hp with rfl | hp
    · exact Ne.symm hCD
    · exact offC p hp
end
open LCg in
theorem cend_ne {h₀ : Heap} {L I C D ta : Addr} {m : Str → Option Value} {s₁ : Shared} {oI oC oD to : Obj} {S : List (Addr × Obj) → Prop} {rest : Value → List (Addr × Obj) → Prop} {y : Value} {h' : Heap} {tk : Nat} {news : List (Addr × Obj)}
    (F : Fr h₀ L h' m) (N : News h₀ L h' ((I, oI) :: (C, oC) :: (D, oD) :: news)) (t : h'.get? ta = some to ∧ ta ≠ L ∧ h₀.get? ta = none) (l : ta ≠ I ∧ ta ≠ C ∧ ta ≠ D) (off : Off3 I C D news) (hS : S ((ta, to) :: news)) (r : rest y ((ta, to) :: news)) :
    CompEnd h₀ L m s₁ I oI C oC D oD S rest y { s₁ with heap := h', toks := tk } :=
  CompEnd.intro F (news_cons N t.1 t.2.1 t.2.2) ((ta, to) :: news) (fun p hp => by
    rcases List.mem_cons.mp hp with rfl | hp
    · exact .tail _ (.head _)
    rcases List.mem_cons.mp hp with rfl | hp
    · exact .tail _ (.tail _ (.head _))
    rcases List.mem_cons.mp hp with rfl | hp
    · exact .tail _ (.tail _ (.tail _ (.head _)))
    rcases List.mem_cons.mp hp with rfl | hp
    · exact .head _
    · exact .tail _ (.tail _ (.tail _ (.tail _ hp)))) ⟨l, off⟩ hS r
local macro_rules | `(tactic| k_all) => `(tactic| assumption)
local macro_rules | `(tactic| walk_at "eval Name") => `(tactic| (k_here; k_dflt (refine' nameX_L ?F ?v ?_ ?a ?b; (case F => k_asm); (case a => rfl); (case b => rfl); (case v => assumption); k_whole)))
local macro_rules | `(tactic| walk_at "call ref") => `(tactic| refine Mine.stop_in ?_)
local macro_rules | `(tactic| walk_at "eval ListComp") => `(tactic| refine Mine.stop_in ?_)
local macro_rules | `(tactic| walk_at "compareOp Eq ref ref") => `(tactic| refine Mine.stop_in ?_)
set_option maxHeartbeats 8000000 in
theorem lwP10 {w : World} {p : Program} {loose : List Str} {mean : ExcName → Option Value} {mg mb : Str → Option Value} {dp un : Nat} {fr : Option (List Env)} {gd : Option (List Code)} {s : Shared} {B : List Stmt} (hB : B = bodyAt w 263)
   {g : Heap} {L fa : Addr} {cd : Value} {z : Ad} {ga dr fd : Addr} {gs yd : List Value} {G : Gs} {H : List Ln} {c2 c3 : Obj} {m : Str → Option Value}
   (hdp : dp < 400) (hun : un < 4500) (htx : ∀ q ∈ H, q.1 ∈ texts) (hlen : H.length ≤ 100) (X : (hd.heap_39 w.params).In g) (T : Top p loose mean mg mb g)
   (S0 : LwS w g L z ga dr fd gs yd G H c2 c3 s.heap m) :
   wpAny (MM w) (AA dp un fr gd) (execs (B.drop 9) (lwEnv w L fa cd)) (fun fl s' => Stop (fl = .ret (.bool true) ∧ ∃ h' tk m', s' = { s with heap := h', toks := tk } ∧ Fr g L h' m' ∧ Tabs h')) (fun _ _ => False) s := by
  subst hB
  conv in List.drop 9 (bodyAt w 263) => whnf
  dsimp only [lwEnv]
  conv in scopeAt w 263 => whnf
  refine post_out ?_
  intro Q hQ
  have F0 := S0.F
  obtain ⟨hs, n1, k1, edx⟩ := S0.W.dx
  obtain ⟨hi, hn, ehl, hln⟩ := S0.W.hl
  have hl5 := hln.length
  have ehlN : z.hl ≠ L := fun q => S0.off L (.head _) (q ▸ (at_ 2 rfl : z.hl ∈ z.sup0))
  obtain ⟨cs, hcs⟩ : ∃ cs, cs = (z.hl, lstO (List.toArray hi) hn) :: rest g L s.heap [] := ⟨_, rfl⟩
  have N0 : News g L s.heap ((z.tb, instObj 182 z.dx) :: (z.dx, hdrD hs n1 k1 z.hl) :: (L + 1 + 1, c2) :: (L + 1 + 1 + 1, c3) :: cs) := S0.tab edx (all_c (S0.N _ (at_ 2 rfl)) (all_c (S0.N _ (at_ 3 rfl)) (hcs ▸ news_cons rest_news ehl ehlN (S0.no _ (at_ 2 rfl)))))
  have e2 := S0.e2
  have e3 := S0.e3
  k_steps
  refine Mine.stop_out ?_
  k_dflt (refine ListComp_US F0 (by with_unfolding_all rfl) (by decide) (by rfl) (by decide) (by rfl) rfl ?_)
  k_steps
  refine ⟨_, _, _, rfl, by decide +kernel, by decide +kernel, F0, N0, ?_⟩
  intro g'
  refine comp_V 6 (fun i ys news => (∀ p ∈ (z.tb, instObj 182 z.dx) :: (z.dx, hdrD hs n1 k1 z.hl) :: (L + 1 + 1, c2) :: (L + 1 + 1 + 1, c3) :: cs, p ∈ news) ∧ ys.length = i ∧ ∀ j, j < i → ∃ c us, ys[j]? = some (Value.ref c) ∧ (c, LCg.lst us) ∈ news ∧ StrsV us (gets H (nmA j))) ?_ ?_ _ 0 [] _ (by rfl) ⟨fun _ h => h, rfl, fun j hj => absurd hj (Nat.not_lt_zero _)⟩
  · rintro i ys news hi6 hJ v I oI CC oC D' m₂ h tk E' hv hC hx F3 N3 hoff hne
    have hv' : ∃ u, v = .str ⟨upA i⟩ u := by
      obtain ⟨c, u, q1, rfl⟩ := hv
      rcases lt6 hi6 with rfl | rfl | rfl | rfl | rfl | rfl <;> cases q1 <;> exact ⟨u, rfl⟩
    obtain ⟨u, rfl⟩ := hv'
    clear hv
    have hJ' : True ∧ _ := ⟨trivial, hJ⟩
    have hb := hJ.1
    have N3' : True ∧ News g L h _ := ⟨trivial, N3⟩
    have N4 : News g L h ((z.tb, instObj 182 z.dx) :: (z.dx, hdrD hs n1 k1 z.hl) :: (L + 1 + 1, c2) :: (I, oI) :: (CC, oC) :: (D', LCg.lst ys) :: news) := 
      all_c (N3 _ (.tail _ (.tail _ (.tail _ (hb _ (at_ 0 rfl)))))) (all_c (N3 _ (.tail _ (.tail _ (.tail _ (hb _ (at_ 1 rfl)))))) (all_c (N3 _ (.tail _ (.tail _ (.tail _ (hb _ (at_ 2 rfl)))))) N3))
    clear N3 hJ hb N0
    k_steps
    refine Mine.stop_out ?_
    have hb := hJ'.2.1
    have hcsm : ∀ p ∈ rest g L s.heap [], p ∈ news := fun p hp => hb p (.tail _ (.tail _ (.tail _ (.tail _ (by rw [hcs]; exact .tail _ hp)))))
    have xh : Ext [L] s.heap h := ext_of_rest S0.F F3 (news_sub N3'.2 fun p hp => .tail _ (.tail _ (.tail _ (hcsm p hp))))
    have etb := (N3'.2 (z.tb, instObj 182 z.dx) (.tail _ (.tail _ (.tail _ (hb _ (.head _)))))).1
    have edx2 := (N3'.2 (z.dx, hdrD hs n1 k1 z.hl) (.tail _ (.tail _ (.tail _ (hb _ (.tail _ (.head _))))))).1
    have ehl2 := (N3'.2 (z.hl, lstO (List.toArray hi) hn) (.tail _ (.tail _ (.tail _ (hb _ (.tail _ (.tail _ (.tail _ (.tail _ (by rw [hcs]; exact .head _)))))))))).1
    have M3 : Muts h [z.tb, z.dx, z.hl] := muts_cons ⟨_, etb, mut_inst _ _⟩ (muts_cons ⟨_, edx2, mut_dict rfl⟩ (muts_one ehl2 (mut_list _ _)))
    have kp := hide_keeps (S := [z.tb, z.dx, z.hl]) F3 (all_c (S0.no _ (at_ 0 rfl)) (all_c (S0.no _ (at_ 1 rfl)) (all_c (S0.no _ (at_ 2 rfl)) all_n)))
    refine wpAny_mono (getAll (H := H) (items := hi) (up := upA i) (show dp < 800 by omega) (show un < 4900 by omega) (up_texts hi6) htx (by omega) (X.keeps kp) (T.keeps kp) etb edx2 ehl2 ((hln.ext xh (muts_cons (mut_ns S0.F.ns) (muts_nil _))).ext (ext_hide _ _) M3) (Q := qk) ?_) (fun _ _ q => q) fun _ _ e => e.elim
    intro h5 Dn us tk5 x5 hn0 hn1 hus
    rw [low_up hi6] at hus
    have F5 := fr_ext0 F3 x5
    have N5 := news_ext0 N3'.2 x5
    have nL : Dn ≠ L := fun q => by obtain ⟨o, _, _, e, _⟩ := F3.ns; rw [← q, hn0] at e; cases e
    have ng : g.get? Dn = none := by
      cases q : g.get? Dn with
      | none => rfl
      | some o => have := F3.keep _ _ q; rw [hn0] at this; cases this
    refine cend_ne F5 N5 ⟨hn1, nL, ng⟩ ⟨(none_ne hn0 (N3'.2 (I, oI) (.head _)).1).symm, (none_ne hn0 (N3'.2 (CC, oC) (.tail _ (.head _))).1).symm, (none_ne hn0 (N3'.2 (D', LCg.lst ys) (.tail _ (.tail _ (.head _)))).1).symm⟩ hoff trivial ⟨fun p hp => .tail _ (hb p hp), by simp [hJ'.2.2.1], fun j hj => ?_⟩
    rcases Nat.lt_or_eq_of_le (Nat.le_of_lt_succ hj) with q | rfl
    · obtain ⟨c, us', w1, w2, w3⟩ := hJ'.2.2.2 j q
      exact ⟨c, us', by rw [List.getElem?_append_left (by rw [hJ'.2.2.1]; exact q)]; exact w1, .tail _ w2, w3⟩
    · exact ⟨Dn, us, by rw [List.getElem?_append_right (by rw [hJ'.2.2.1]; exact Nat.le_refl _), hJ'.2.2.1, Nat.sub_self]; rfl, .head _, hus⟩
  · rintro ys news ⟨hb, hyl, hy⟩ D h tk F3 N3 off
    dsimp only
    k_steps
    refine Mine.stop_out ?_
    have hcsm : ∀ p ∈ rest g L s.heap [], p ∈ news := fun p hp => hb p (.tail _ (.tail _ (.tail _ (.tail _ (by rw [hcs]; exact .tail _ hp)))))
    have hc3 : (L + 1 + 1 + 1, c3) ∈ news := hb _ (.tail _ (.tail _ (.tail _ (.head _))))
    have N6 : News g L h ((L + 1 + 1 + 1, c3) :: (D, LCg.lst ys) :: news) := all_c (N3 _ (.tail _ hc3)) N3
    k_dflt (refine ListComp_US F3 (by with_unfolding_all rfl) (by decide) (by rfl) (by decide) (by rfl) rfl ?_)
    k_steps
    refine ⟨_, _, _, rfl, by decide +kernel, by decide +kernel, F3, N6, ?_⟩
    intro g''
    refine comp_V 6 (fun i zs nw => nw = (L + 1 + 1 + 1, c3) :: (D, LCg.lst ys) :: news ∧ zs.length = i ∧ ∀ j, j < i → zs[j]? = some (Value.ref (z.fl j))) ?_ ?_ _ 0 [] _ (by rfl) ⟨rfl, rfl, fun j hj => absurd hj (Nat.not_lt_zero _)⟩
    · rintro i zs nw hi6 ⟨rfl, hzl, hz⟩ v I oI CC oC D' m₂ h7 tk7 E' hv hC hx F7 N7 hoff hne
      have hv' : ∃ u, v = .str ⟨nmA i⟩ u := by
        obtain ⟨c, u, q1, rfl⟩ := hv
        rcases lt6 hi6 with rfl | rfl | rfl | rfl | rfl | rfl <;> cases q1 <;> exact ⟨u, rfl⟩
      obtain ⟨u, rfl⟩ := hv'
      have xh : Ext [L] s.heap h7 := ext_of_rest S0.F F7 (news_sub N7 fun p hp => .tail _ (.tail _ (.tail _ (.tail _ (.tail _ (hcsm p hp))))))
      obtain ⟨kvs, hdf, hkv⟩ := S0.D.ext xh (by rw [List.mem_singleton]; exact S0.nf.1)
      have hki := hkv i hi6
      have hz' : True ∧ _ := ⟨trivial, hz⟩
      clear hv hkv hz N3 N0 N6
      k_steps
      refine item_map hdf hki ?_
      refine LCg.CompEnd.intro F7 N7 _ (fun q hq => hq) hoff trivial ⟨rfl, by simp [hzl], fun j hj => ?_⟩
      rcases Nat.lt_or_eq_of_le (Nat.le_of_lt_succ hj) with q | rfl
      · rw [List.getElem?_append_left (by rw [hzl]; exact q)]; exact hz'.2 j q
      · rw [List.getElem?_append_right (by rw [hzl]; exact Nat.le_refl _), hzl, Nat.sub_self]; rfl
    · rintro zs nw ⟨rfl, hzl, hz⟩ D2 h8 tk8 F8 N8 off8
      have xh : Ext [L] s.heap h8 := ext_of_rest S0.F F8 (news_sub N8 fun p hp => .tail _ (.tail _ (.tail _ (hcsm p hp))))
      have W8 := S0.W.ext xh (muts_cons (mut_ns S0.F.ns) (muts_nil _)) (fun a ha q => by rw [List.mem_singleton] at q; subst q; exact S0.off _ (.head _) ha)
      have hs' : True ∧ _ := ⟨trivial, hz⟩
      have hy' : True ∧ _ := ⟨trivial, hy⟩
      clear hz hy
      dsimp only
      k_steps
      refine Mine.stop_out ?_
      refine eqLols (f := fun i => gets H (nmA i)) (n := 6) ⟨_, (N8 (D, LCg.lst ys) (.tail _ (.tail _ (.head _)))).1, rfl, _, rfl⟩ ⟨_, (N8 _ (.head _)).1, rfl, _, rfl⟩ ⟨hyl, fun j hj => ?_⟩ ⟨hzl, fun j hj => ?_⟩ (show un + 4 < 9900 by omega) ?_
      · obtain ⟨c, us, w1, w2, w3⟩ := hy'.2 j hj
        exact ⟨c, us, w1, ⟨_, (N8 _ (.tail _ (.tail _ (.tail _ w2)))).1, rfl, _, rfl⟩, w3⟩
      · obtain ⟨us, n, w1, w2⟩ := W8.fl j hj
        exact ⟨_, us, hs'.2 j hj, ⟨_, w1, rfl, _, rfl⟩, w2⟩
      have T8 := S0.T.ext xh (muts_cons (mut_ns S0.F.ns) (muts_nil _)) (fun q => by rw [List.mem_singleton] at q; exact S0.off L (.head _) (q ▸ tab_in (.inl rfl))) (fun q => by rw [List.mem_singleton] at q; exact S0.off L (.head _) (q ▸ tab_in (.inr (.inl rfl)))) (fun q => by rw [List.mem_singleton] at q; exact S0.off L (.head _) (q ▸ tab_in (.inr (.inr rfl))))
      have F8' : True ∧ Fr g L h8 m := ⟨trivial, F8⟩
      k_steps
      exact hQ _ _ ⟨rfl, h8, _, m, rfl, F8'.2, T8⟩
end Mine
end
section
open PySem PySem.W PyProof.Rows PySem.Calls PySem.Spec PyProof.V
set_option maxRecDepth 100000
namespace Mine
theorem split7 {α : Type} (l : List α) : l = l.take 1 ++ ((l.drop 1).take 1 ++ ((l.drop 2).take 3 ++ ((l.drop 5).take 1 ++ ((l.drop 6).take 1 ++ ((l.drop 7).take 2 ++ l.drop 9))))) := by
  have e2 : (l.drop 1).drop 1 = l.drop 2 := by rw [List.drop_drop]
  have e3 : (l.drop 2).drop 3 = l.drop 5 := by rw [List.drop_drop]
  have e4 : (l.drop 5).drop 1 = l.drop 6 := by rw [List.drop_drop]
  have e5 : (l.drop 6).drop 1 = l.drop 7 := by rw [List.drop_drop]
  have e6 : (l.drop 7).drop 2 = l.drop 9 := by rw [List.drop_drop]
  rw [← e6, List.take_append_drop, ← e5, List.take_append_drop, ← e4, List.take_append_drop, ← e3, List.take_append_drop, ← e2, List.take_append_drop, List.take_append_drop]
set_option maxHeartbeats 4000000 in
theorem lawBody {w : World} {p : Program} {loose : List Str} {mean : ExcName → Option Value} {mg mb : Str → Option Value} {dp un : Nat} {fr : Option (List Env)} {gd : Option (List Code)} {s : Shared}
   {g : Heap} {L fa sl : Addr} {cd : Value} {c1 c2 c3 : Obj} {m : Str → Option Value} {vs : List Value} {ns : List Int}
   (hdp : dp < 400) (hun : un < 4500) (X : (hd.heap_39 w.params).In g) (T : Top p loose mean mg mb g) (C : CodeHd g 252 250) (C1 : CodeHd g 242 238) (C2 : CodeHd g 247 245)
   (F : Fr g L s.heap m) (N : News g L s.heap [(L + 1 + 1 + 1, c3), (L + 1 + 1, c2), (L + 1, c1), (245, tabObj #[]), (238, tabObj #[]), (250, tabObj #[])]) (n5 : @LT.lt Nat _ 250 L)
   (hc1 : c1.data = .cell (some (.ref sl))) (hc2 : c2.data = .cell none) (hc3 : c3.data = .cell none) (hl : g.IsList sl vs.toArray) (hi : IntsAre vs ns) (hlen : vs.length ≤ 63) :
   wpAny (MM w) (AA dp un fr gd) (execs (bodyAt w 263) (lwEnv w L fa cd)) (fun fl s' => fl = .ret (.bool true) ∧ ∃ h' tk m', s' = { s with heap := h', toks := tk } ∧ Fr g L h' m' ∧ Tabs h') (fun _ _ => False) s := by
  refine post_out ?_
  intro Q hQ
  obtain ⟨B, hB⟩ : ∃ B, B = bodyAt w 263 := ⟨_, rfl⟩
  rw [← hB, split7 B]
  refine execs_app (wpAny_mono (lwP1 (D := [(L + 1 + 1, c2), (L + 1 + 1 + 1, c3), (238, tabObj #[]), (245, tabObj #[]), (250, tabObj #[])]) hB X T F (news_sub N (all_c (at_ 2 rfl) (all_c (at_ 1 rfl) (all_c (at_ 0 rfl) (all_c (at_ 4 rfl) (all_c (at_ 3 rfl) (all_c (at_ 5 rfl) all_n))))))) hc1 hl hi hlen) (fun fl s1 q => ?_) fun _ _ e => e)
  obtain ⟨h1, tk1, dr, ys, ds, rfl, rfl, F1, N1, off1, hys, hds⟩ := q
  refine execs_app (wpAny_mono (lwP2 (D := [(L + 1 + 1, c2), (L + 1 + 1 + 1, c3), (238, tabObj #[]), (245, tabObj #[]), (250, tabObj #[])]) hB X T F1 (news_sub N1 fun p hp => by
    rcases List.mem_cons.mp hp with rfl | hp
    · exact .head _
    · exact .tail _ (.tail _ hp)) hys hds rfl) (fun fl s2 q => ?_) fun _ _ e => e)
  obtain ⟨h2, tk2, ga, gs, rfl, rfl, F2, N2, off2, hA⟩ := q
  have o1 := fun p hp => off1_mem off1 p hp
  have o2 := fun p hp => off1_mem off2 p hp
  refine execs_app (wpAny_mono (lwP3 (G := gOf ds) (ds := ds) hB hdp hun X T F2 N2 (o2 (L + 1 + 1, c2) (by k_mem)).symm (o2 (L + 1 + 1 + 1, c3) (by k_mem)).symm (o1 (L + 1 + 1, c2) (by k_mem)).symm (o1 (L + 1 + 1 + 1, c3) (by k_mem)).symm n5 (o2 (dr, LCg.lst ys) (by k_mem)).symm
    (all_c (o2 (238, tabObj #[]) (by k_mem)) (all_c (o2 (245, tabObj #[]) (by k_mem)) (all_c (o2 (250, tabObj #[]) (by k_mem)) all_n)))
    (all_c (o1 (238, tabObj #[]) (by k_mem)) (all_c (o1 (245, tabObj #[]) (by k_mem)) (all_c (o1 (250, tabObj #[]) (by k_mem)) all_n))) hc2 hc3 hA rfl rfl) (fun fl s3 q => ?_) fun _ _ e => e)
  obtain ⟨rfl, h3, tk3, z, fd, c2', c3', m3, rfl, S3⟩ := q
  refine execs_app (wpAny_mono (lwP6 (G := gOf ds) hB hdp hun (fun k => (gOf_1 ds k).1) (fun k => (gOf_2 ds k).1) X T C C1 C2 hys hds S3) (fun fl s4 q => ?_) fun _ _ e => e)
  obtain ⟨rfl, h4, tk4, H4, m4, rfl, S4, hmet, htx, hln⟩ := q
  refine execs_app (wpAny_mono (lwP7 hB hdp hun X T S4 hmet) (fun fl s5 q => ?_) fun _ _ e => e)
  obtain ⟨rfl, h5, tk5, rfl, S5⟩ := q
  refine execs_app (wpAny_mono (lwP8 hB hdp hun hln X T S5) (fun fl s6 q => ?_) fun _ _ e => e)
  obtain ⟨rfl, h6, tk6, rfl, S6⟩ := q
  refine wpAny_mono (lwP10 hB hdp hun htx hln X T S6) (fun fl s7 q => ?_) fun _ _ e => e
  obtain ⟨rfl, h7, tk7, m7, rfl, F7, T7⟩ := q
  exact hQ _ _ ⟨rfl, h7, tk7, m7, rfl, F7, T7⟩
end Mine
end
section
open PySem PySem.W PyProof.Rows PySem.Calls PySem.Spec PyProof.V
set_option maxRecDepth 100000
namespace Mine
theorem postT (ns : List Int) : PySem.Challenge.rw_uc0036_01.row.claim.post [ofPy (PyData.list (List.map PyData.int ns))] (WData.bool true) [ofPy (PyData.list (List.map PyData.int ns))] = true := by
  with_unfolding_all rfl
set_option maxHeartbeats 8000000 in
theorem lawT : PySem.Challenge.rw_uc0036_01.Holds := by
  refine hd ?_
  w_strict (k_go0; (all_goals try k_fold); (
    rename Fr _ _ _ _ => F
    rename News _ _ _ _ => N
    have hI := ‹IntsAre _ _›
    have hlen := hI.length
    refine wpAny_mono (lawBody (F := F) (N := N) (hi := hI) ?hdp ?hun (by assumption) (by assumption) (by assumption) (by assumption) (by assumption) ?n5 ?hc1 ?hc2 ?hc3 (by assumption) ?hlen) (fun fl s' q => ?hQ) (fun _ _ e => e.elim)
    case hdp => decide
    case hun => decide
    case n5 => omega
    case hc1 => assumption
    case hc2 => assumption
    case hc3 => assumption
    case hlen => omega
    case hQ =>
      obtain ⟨rfl, h', tk, m', rfl, F', T'⟩ := q
      obtain ⟨⟨_, t1, _⟩, ⟨_, t2, _⟩, ⟨_, t3, _⟩⟩ := T'
      have hg := ‹_ = (#[] : Array GenState)›
      refine ⟨⟨.inl ⟨.bool true, .bool true, [], rfl, fun _ => rfl, .bool true, ?post, fun _ => ⟨List.nodup_nil, by simp⟩⟩, F'.keep, rfl, hg⟩, ⟨_, t2⟩, ⟨_, t1⟩, ⟨_, t3⟩, trivial⟩
      exact postT _))
end Mine
end
open PySem PySem.W PyProof.Rows
theorem PySem.Challenge.cw_uc0036_01_holds : PySem.Challenge.rw_uc0036_01.Holds := by
  exact Mine.lawT
